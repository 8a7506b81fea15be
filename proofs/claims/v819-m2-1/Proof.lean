import JvmDerived
import JvmDerived.Pilot.@@N@@Statement
import JvmDerived.Pilot.@@N@@Code
set_option linter.unusedVariables false
set_option linter.unusedSimpArgs false
namespace Jvm.RoadKit
open Sem ClassFile Op Lib Jvm.Stand Jvm.Free Jvm.LawKit
section Own
variable {p : Program} {l : Launch} {e : Env} {R : Room} {s : State} {m : MethodId} {args : Array Value} {below : List Frame} {meth : Method} {c : Code} {T T' : State} {Z : State} {a0 : Array Value} {h h' h0 : Heap} {ws : List Addr} {ck sk CK SK : Nat} {Q : Option Value → Heap → Prop} {bytes : ByteArray} {ml : Nat} {ret : Option FieldType} {y0 : MethodName} {tw : List Jvm.Cond} {pc pc' : Nat} {Ls Ls' : Array Slot} {S : List Value} {g g' : JFrame}
/-- Java's >>> -/
def own_ushr (x y : Int32) : Int32 := (x.toUInt32 >>> (y &&& 31).toUInt32).toInt32
def own_ushrL (x : Int64) (y : Int32) : Int64 := (x.toUInt64 >>> (y &&& 63).toInt64.toUInt64).toInt64
/-- what is known of the method that is walked -/
def OwnCtx (p : Program) (s : State) (m : MethodId) (meth : Method) (c : Code) (Z : State) (a0 : Array Value) (tw : List Jvm.Cond) (y0 : MethodName) (bytes : ByteArray) (ml : Nat) (ret : Option FieldType) : Prop :=
  p.tables.exec = Jvm.exec ∧ Z.Warmed39 s.vm ∧ (∀ d ∈ tw, d.before a0 Z = true) ∧ c.code = bytes ∧ c.maxLocals = ml ∧ s.vm.findClass y0.cls = some m.cls ∧ meth.name = y0.name ∧ meth.sig.returnType = ret ∧ meth.locks = false
/-- where the walk stands: the heap h; of the heap h0 at the entry only the cells at ws may have been written -/
def OwnPos (p : Program) (l : Launch) (e : Env) (R : Room) (s : State) (m : MethodId) (args : Array Value) (below : List Frame) (meth : Method) (c : Code) (h0 : Heap) (ws : List Addr) (T : State) (h : Heap) (ck sk : Nat) : Prop :=
  ∃ locs, Stand p l e R s m args below meth c T locs ck sk ∧ T.heap = h ∧ (∀ y ∈ locs, y.base ∈ ws ∨ h0.size ≤ y.base) ∧ Keep h0 h ws
/-- from here the method returns as Q says -/
def OwnWP (p : Program) (e : Env) (below : List Frame) (s : State) (h0 : Heap) (ws : List Addr) (Q : Option Value → Heap → Prop) (CK SK : Nat) (T : State) (g : JFrame) : Prop :=
  ∃ s₂ o, Steps p.tables e below (T.setTop g) s₂ ∧ s₂.status = .running ∧ Ended s₂ below o ∧ ∃ v L, o = .returned v ∧ ((∀ y ∈ L, y.base ∈ ws ∨ h0.size ≤ y.base) ∧ Keep h0 s₂.heap ws ∧ Q v s₂.heap) ∧ FrameEnd s o s₂ L CK SK
/-- a method's contract -/
def OwnCtr (l : Launch) (Z : State) (y : MethodName) (bytes : ByteArray) (ml : Nat) (ret : Option FieldType) (rm : Room) (as : Array Value) (h0 : Heap) (ws : List Addr) (Q : Option Value → Heap → Prop) (cs : List Jvm.Cond) : Prop :=
  MetFree l y (head1 (Jvm.Cond.code y bytes ml ret :: cs) rm) (fun a U => a = as ∧ Z.Warmed39 U.vm ∧ U.heap = h0) (fun _ _ _ _ _ => True) (fun _ U o U' => ∃ v L, o = .returned v ∧ ((∀ y ∈ L, y.base ∈ ws ∨ h0.size ≤ y.base) ∧ Keep h0 U'.heap ws ∧ Q v U'.heap) ∧ FrameEnd U o U' L rm.cells rm.slots)
theorem ow_le (A : OwnPos p l e R s m args below meth c h0 ws T h ck sk) : h0.size ≤ h.size := by obtain ⟨_, _, _, _, K⟩ := A; exact K.1
theorem ow_st (q : ∀ target, Steps p.tables e below (T'.setTop g') target → Steps p.tables e below (T.setTop g) target) (k : OwnWP p e below s h0 ws Q CK SK T' g') : OwnWP p e below s h0 ws Q CK SK T g := by
  obtain ⟨s₂, o, k1, k2⟩ := k; exact ⟨s₂, o, q _ k1, k2⟩
theorem ow_stT (q : Steps p.tables e below (T.setTop g) (T'.setTop g')) (k : OwnWP p e below s h0 ws Q CK SK T' g') : OwnWP p e below s h0 ws Q CK SK T g := by
  obtain ⟨s₂, o, k1, k2⟩ := k; exact ⟨s₂, o, q.trans k1, k2⟩
theorem ow_mono {Q' : Option Value → Heap → Prop} (q : ∀ v h, Q' v h → Q v h) (k : OwnWP p e below s h0 ws Q' CK SK T g) : OwnWP p e below s h0 ws Q CK SK T g := by
  obtain ⟨s₂, o, k1, k2, k3, v, L, k4, ⟨k5, k6, k7⟩, k8⟩ := k; exact ⟨s₂, o, k1, k2, k3, v, L, k4, ⟨k5, k6, q _ _ k7⟩, k8⟩
theorem ow_ctr {rm : Room} {as : Array Value} {cs : List Jvm.Cond} {Ls : Array Slot} (hp : plainFor y0 = true) (hw : ∀ d ∈ tw, d.before a0 Z = true) (ef : ∀ m, entryFrame m as ml = mkF m 0 Ls [])
    (body : ∀ (p : Program) (e : Env) (s : State) (m : MethodId) (below : List Frame) (meth : Method) (c : Code) (T : State), OwnCtx p s m meth c Z a0 tw y0 bytes ml ret → OwnPos p l e rm s m as below meth c h0 ws T h0 0 0 → OwnWP p e below s h0 ws Q rm.cells rm.slots T (mkF m 0 Ls [])) :
    OwnCtr l Z y0 bytes ml ret rm as h0 ws Q cs := by
  refine MetFree.of_bodySF hp hisR ?_
  intro p e s m args below meth c s₁ Bd hml0 hP hK
  obtain ⟨rfl, hZ, hh⟩ := hP
  have X0 : Stand p l e rm s m _ below meth c s₁ [] 0 0 := Stand.of_body Bd
  have e0 : s₁.heap = h0 := by rw [← hh, Bd.state]; rfl
  have hk : meth.locks = false := BodyLoose.notSynchronized Bd
  obtain ⟨s₂, o, k1, k2⟩ := body p e s m below meth c s₁ ⟨Bd.exec, hZ, hw, Bd.bytes, hml0, findClass_of_methodNamed Bd.named, (name_of_methodNamed Bd.named Bd.method).1, Bd.returns, hk⟩ ⟨[], X0, e0, (fun _ q => nomatch q), Keep.refl _ _⟩
  exact ⟨s₂, o, castTop (ef m) k1, k2⟩
theorem ow_ctr_mono {rm : Room} {as : Array Value} {cs : List Jvm.Cond} {y : MethodName} {Q' : Option Value → Heap → Prop} (M : OwnCtr l Z y bytes ml ret rm as h0 ws Q cs) (q : ∀ v h, Q v h → Q' v h) : OwnCtr l Z y bytes ml ret rm as h0 ws Q' cs := by
  intro p e ha hc hk s m args below hf happ hP hK
  obtain ⟨n, o, h1, h2, h3, v, L, h4, ⟨h5, h6, h7⟩, h8⟩ := M p e ha hc hk s m args below hf happ hP hK
  exact ⟨n, o, h1, h2, h3, v, L, h4, ⟨h5, h6, q _ _ h7⟩, h8⟩
theorem ow_done {v : Option Value} (C : OwnCtx p s m meth c Z a0 tw y0 bytes ml ret) (A : OwnPos p l e R s m args below meth c h0 ws T h ck sk) (hv : ret = none → v = none) (h1 : ck ≤ CK) (h2 : sk ≤ SK) (hq : Q v h)
    (hst : ∀ {locs : List Loc} {fs : List Frame}, Stand p l e R s m args below meth c T locs ck sk → (∀ (f : JFrame) (acts : List Action), f.method = m → f.locked = none → f.entered = [] → (doReturn e (T.setTop f) acts v).1 = T.setFrames fs) → Steps p.tables e below (T.setTop g) (T.setFrames fs)) :
    OwnWP p e below s h0 ws Q CK SK T g := by
  obtain ⟨locs, X, rfl, N, K⟩ := A
  obtain ⟨fs, hr, hrun, hended, hW, hsame⟩ := X.leave (v := v) (fun q => hv (C.2.2.2.2.2.2.2.1.symm.trans q)) C.2.2.2.2.2.2.2.2
  exact ⟨_, _, hst X hr, hrun, hended, _, _, rfl, ⟨N, K, hq⟩, ⟨_, rfl⟩, hW, hsame.mono h1 h2⟩
theorem ow_ireturn (C : OwnCtx p s m meth c Z a0 tw y0 bytes ml ret) (A : OwnPos p l e R s m args below meth c h0 ws T h ck sk) {t : FieldType} {w : Int32} (hret : ret = some t) (hn : narrow t (.int w) = .int w) (hti : t = .int ∨ t = .boolean ∨ t = .byte ∨ t = .char ∨ t = .short)
    (hd : decode bytes pc = .ok (.ireturn, 1)) (h1 : ck ≤ CK) (h2 : sk ≤ SK) (hq : Q (some (.int w)) h) : OwnWP p e below s h0 ws Q CK SK T (mkF m pc Ls [.int w]) :=
  ow_done C A (fun q => by rw [hret] at q; cases q) h1 h2 hq fun X hr => X.ireturnOut C.1 (C.2.2.2.2.2.2.2.1.trans hret) hn hti (hb C.2.2.2.1 hd) hr
theorem ow_lreturn (C : OwnCtx p s m meth c Z a0 tw y0 bytes ml ret) (A : OwnPos p l e R s m args below meth c h0 ws T h ck sk) {w : Int64} (hret : ret = some .long)
    (hd : decode bytes pc = .ok (.lreturn, 1)) (h1 : ck ≤ CK) (h2 : sk ≤ SK) (hq : Q (some (.long w)) h) : OwnWP p e below s h0 ws Q CK SK T (mkF m pc Ls [.long w]) :=
  ow_done C A (fun q => by rw [hret] at q; cases q) h1 h2 hq fun X hr => X.lreturnOut C.1 (C.2.2.2.2.2.2.2.1.trans hret) (hb C.2.2.2.1 hd) hr
theorem ow_areturn (C : OwnCtx p s m meth c Z a0 tw y0 bytes ml ret) (A : OwnPos p l e R s m args below meth c h0 ws T h ck sk) {t : FieldType} {w : Value} (hret : ret = some t) (ht : t.isReference = true) (hw : w.isRef = true)
    (hd : decode bytes pc = .ok (.areturn, 1)) (h1 : ck ≤ CK) (h2 : sk ≤ SK) (hq : Q (some w) h) : OwnWP p e below s h0 ws Q CK SK T (mkF m pc Ls [w]) :=
  ow_done C A (fun q => by rw [hret] at q; cases q) h1 h2 hq fun X hr => X.areturnOut C.1 hw (C.2.2.2.2.2.2.2.1.trans hret) ht (hb C.2.2.2.1 hd) hr
theorem ow_return (C : OwnCtx p s m meth c Z a0 tw y0 bytes ml ret) (A : OwnPos p l e R s m args below meth c h0 ws T h ck sk) (hret : ret = none)
    (hd : decode bytes pc = .ok (.return_, 1)) (h1 : ck ≤ CK) (h2 : sk ≤ SK) (hq : Q none h) : OwnWP p e below s h0 ws Q CK SK T (mkF m pc Ls []) :=
  ow_done C A (fun _ => rfl) h1 h2 hq fun X hr => X.returnOut C.1 (C.2.2.2.2.2.2.2.1.trans hret) (hb C.2.2.2.1 hd) hr
theorem ow_iadd (C : OwnCtx p s m meth c Z a0 tw y0 bytes ml ret) (A : OwnPos p l e R s m args below meth c h0 ws T h ck sk) {x y : Int32} (hd : decode bytes pc = .ok (.iadd, 1)) (hp : pc + 1 = pc') (k : OwnWP p e below s h0 ws Q CK SK T (mkF m pc' Ls (.int (x + y) :: S))) : OwnWP p e below s h0 ws Q CK SK T (mkF m pc Ls (.int y :: .int x :: S)) := by
  obtain ⟨locs, X, -⟩ := A; subst hp
  exact ow_st (fun _ k => XS.iadd X.here C.1 rfl (hb C.2.2.2.1 hd) rfl k) k
theorem ow_isub (C : OwnCtx p s m meth c Z a0 tw y0 bytes ml ret) (A : OwnPos p l e R s m args below meth c h0 ws T h ck sk) {x y : Int32} (hd : decode bytes pc = .ok (.isub, 1)) (hp : pc + 1 = pc') (k : OwnWP p e below s h0 ws Q CK SK T (mkF m pc' Ls (.int (x - y) :: S))) : OwnWP p e below s h0 ws Q CK SK T (mkF m pc Ls (.int y :: .int x :: S)) := by
  obtain ⟨locs, X, -⟩ := A; subst hp
  exact ow_st (fun _ k => XS.isub X.here C.1 rfl (hb C.2.2.2.1 hd) rfl k) k
theorem ow_imul (C : OwnCtx p s m meth c Z a0 tw y0 bytes ml ret) (A : OwnPos p l e R s m args below meth c h0 ws T h ck sk) {x y : Int32} (hd : decode bytes pc = .ok (.imul, 1)) (hp : pc + 1 = pc') (k : OwnWP p e below s h0 ws Q CK SK T (mkF m pc' Ls (.int (x * y) :: S))) : OwnWP p e below s h0 ws Q CK SK T (mkF m pc Ls (.int y :: .int x :: S)) := by
  obtain ⟨locs, X, -⟩ := A; subst hp
  exact ow_st (fun _ k => XS.imul X.here C.1 rfl (hb C.2.2.2.1 hd) rfl k) k
theorem ow_iand (C : OwnCtx p s m meth c Z a0 tw y0 bytes ml ret) (A : OwnPos p l e R s m args below meth c h0 ws T h ck sk) {x y : Int32} (hd : decode bytes pc = .ok (.iand, 1)) (hp : pc + 1 = pc') (k : OwnWP p e below s h0 ws Q CK SK T (mkF m pc' Ls (.int (x &&& y) :: S))) : OwnWP p e below s h0 ws Q CK SK T (mkF m pc Ls (.int y :: .int x :: S)) := by
  obtain ⟨locs, X, -⟩ := A; subst hp
  exact ow_st (fun _ k => XS.iand X.here C.1 rfl (hb C.2.2.2.1 hd) rfl k) k
theorem ow_ior (C : OwnCtx p s m meth c Z a0 tw y0 bytes ml ret) (A : OwnPos p l e R s m args below meth c h0 ws T h ck sk) {x y : Int32} (hd : decode bytes pc = .ok (.ior, 1)) (hp : pc + 1 = pc') (k : OwnWP p e below s h0 ws Q CK SK T (mkF m pc' Ls (.int (x ||| y) :: S))) : OwnWP p e below s h0 ws Q CK SK T (mkF m pc Ls (.int y :: .int x :: S)) := by
  obtain ⟨locs, X, -⟩ := A; subst hp
  exact ow_st (fun _ k => XS.ior X.here C.1 rfl (hb C.2.2.2.1 hd) rfl k) k
theorem ow_ixor (C : OwnCtx p s m meth c Z a0 tw y0 bytes ml ret) (A : OwnPos p l e R s m args below meth c h0 ws T h ck sk) {x y : Int32} (hd : decode bytes pc = .ok (.ixor, 1)) (hp : pc + 1 = pc') (k : OwnWP p e below s h0 ws Q CK SK T (mkF m pc' Ls (.int (x ^^^ y) :: S))) : OwnWP p e below s h0 ws Q CK SK T (mkF m pc Ls (.int y :: .int x :: S)) := by
  obtain ⟨locs, X, -⟩ := A; subst hp
  exact ow_st (fun _ k => XS.ixor X.here C.1 rfl (hb C.2.2.2.1 hd) rfl k) k
theorem ow_ishl (C : OwnCtx p s m meth c Z a0 tw y0 bytes ml ret) (A : OwnPos p l e R s m args below meth c h0 ws T h ck sk) {x y : Int32} (hd : decode bytes pc = .ok (.ishl, 1)) (hp : pc + 1 = pc') (k : OwnWP p e below s h0 ws Q CK SK T (mkF m pc' Ls (.int (x <<< (y &&& 31)) :: S))) : OwnWP p e below s h0 ws Q CK SK T (mkF m pc Ls (.int y :: .int x :: S)) := by
  obtain ⟨locs, X, -⟩ := A; subst hp
  exact ow_st (fun _ k => XS.ishl X.here C.1 rfl (hb C.2.2.2.1 hd) rfl k) k
theorem ow_ishr (C : OwnCtx p s m meth c Z a0 tw y0 bytes ml ret) (A : OwnPos p l e R s m args below meth c h0 ws T h ck sk) {x y : Int32} (hd : decode bytes pc = .ok (.ishr, 1)) (hp : pc + 1 = pc') (k : OwnWP p e below s h0 ws Q CK SK T (mkF m pc' Ls (.int (x >>> (y &&& 31)) :: S))) : OwnWP p e below s h0 ws Q CK SK T (mkF m pc Ls (.int y :: .int x :: S)) := by
  obtain ⟨locs, X, -⟩ := A; subst hp
  exact ow_st (fun _ k => XS.ishr X.here C.1 rfl (hb C.2.2.2.1 hd) rfl k) k
theorem ow_iushr (C : OwnCtx p s m meth c Z a0 tw y0 bytes ml ret) (A : OwnPos p l e R s m args below meth c h0 ws T h ck sk) {x y : Int32} (hd : decode bytes pc = .ok (.iushr, 1)) (hp : pc + 1 = pc') (k : OwnWP p e below s h0 ws Q CK SK T (mkF m pc' Ls (.int (own_ushr x y) :: S))) : OwnWP p e below s h0 ws Q CK SK T (mkF m pc Ls (.int y :: .int x :: S)) := by
  obtain ⟨locs, X, -⟩ := A; subst hp
  exact ow_st (fun _ k => XS.iushr X.here C.1 rfl (hb C.2.2.2.1 hd) rfl k) k
theorem ow_ladd (C : OwnCtx p s m meth c Z a0 tw y0 bytes ml ret) (A : OwnPos p l e R s m args below meth c h0 ws T h ck sk) {x y : Int64} (hd : decode bytes pc = .ok (.ladd, 1)) (hp : pc + 1 = pc') (k : OwnWP p e below s h0 ws Q CK SK T (mkF m pc' Ls (.long (x + y) :: S))) : OwnWP p e below s h0 ws Q CK SK T (mkF m pc Ls (.long y :: .long x :: S)) := by
  obtain ⟨locs, X, -⟩ := A; subst hp
  exact ow_st (fun _ k => XS.ladd X.here C.1 rfl (hb C.2.2.2.1 hd) rfl k) k
theorem ow_lsub (C : OwnCtx p s m meth c Z a0 tw y0 bytes ml ret) (A : OwnPos p l e R s m args below meth c h0 ws T h ck sk) {x y : Int64} (hd : decode bytes pc = .ok (.lsub, 1)) (hp : pc + 1 = pc') (k : OwnWP p e below s h0 ws Q CK SK T (mkF m pc' Ls (.long (x - y) :: S))) : OwnWP p e below s h0 ws Q CK SK T (mkF m pc Ls (.long y :: .long x :: S)) := by
  obtain ⟨locs, X, -⟩ := A; subst hp
  exact ow_st (fun _ k => XS.lsub X.here C.1 rfl (hb C.2.2.2.1 hd) rfl k) k
theorem ow_lmul (C : OwnCtx p s m meth c Z a0 tw y0 bytes ml ret) (A : OwnPos p l e R s m args below meth c h0 ws T h ck sk) {x y : Int64} (hd : decode bytes pc = .ok (.lmul, 1)) (hp : pc + 1 = pc') (k : OwnWP p e below s h0 ws Q CK SK T (mkF m pc' Ls (.long (x * y) :: S))) : OwnWP p e below s h0 ws Q CK SK T (mkF m pc Ls (.long y :: .long x :: S)) := by
  obtain ⟨locs, X, -⟩ := A; subst hp
  exact ow_st (fun _ k => XS.lmul X.here C.1 rfl (hb C.2.2.2.1 hd) rfl k) k
theorem ow_land (C : OwnCtx p s m meth c Z a0 tw y0 bytes ml ret) (A : OwnPos p l e R s m args below meth c h0 ws T h ck sk) {x y : Int64} (hd : decode bytes pc = .ok (.land, 1)) (hp : pc + 1 = pc') (k : OwnWP p e below s h0 ws Q CK SK T (mkF m pc' Ls (.long (x &&& y) :: S))) : OwnWP p e below s h0 ws Q CK SK T (mkF m pc Ls (.long y :: .long x :: S)) := by
  obtain ⟨locs, X, -⟩ := A; subst hp
  exact ow_st (fun _ k => XS.land X.here C.1 rfl (hb C.2.2.2.1 hd) rfl k) k
theorem ow_lor (C : OwnCtx p s m meth c Z a0 tw y0 bytes ml ret) (A : OwnPos p l e R s m args below meth c h0 ws T h ck sk) {x y : Int64} (hd : decode bytes pc = .ok (.lor, 1)) (hp : pc + 1 = pc') (k : OwnWP p e below s h0 ws Q CK SK T (mkF m pc' Ls (.long (x ||| y) :: S))) : OwnWP p e below s h0 ws Q CK SK T (mkF m pc Ls (.long y :: .long x :: S)) := by
  obtain ⟨locs, X, -⟩ := A; subst hp
  exact ow_st (fun _ k => XS.lor X.here C.1 rfl (hb C.2.2.2.1 hd) rfl k) k
theorem ow_lxor (C : OwnCtx p s m meth c Z a0 tw y0 bytes ml ret) (A : OwnPos p l e R s m args below meth c h0 ws T h ck sk) {x y : Int64} (hd : decode bytes pc = .ok (.lxor, 1)) (hp : pc + 1 = pc') (k : OwnWP p e below s h0 ws Q CK SK T (mkF m pc' Ls (.long (x ^^^ y) :: S))) : OwnWP p e below s h0 ws Q CK SK T (mkF m pc Ls (.long y :: .long x :: S)) := by
  obtain ⟨locs, X, -⟩ := A; subst hp
  exact ow_st (fun _ k => XS.lxor X.here C.1 rfl (hb C.2.2.2.1 hd) rfl k) k
theorem ow_lshl (C : OwnCtx p s m meth c Z a0 tw y0 bytes ml ret) (A : OwnPos p l e R s m args below meth c h0 ws T h ck sk) {x : Int64} {y : Int32} (hd : decode bytes pc = .ok (.lshl, 1)) (hp : pc + 1 = pc') (k : OwnWP p e below s h0 ws Q CK SK T (mkF m pc' Ls (.long (x <<< (y &&& 63).toInt64) :: S))) : OwnWP p e below s h0 ws Q CK SK T (mkF m pc Ls (.int y :: .long x :: S)) := by
  obtain ⟨locs, X, -⟩ := A; subst hp
  exact ow_st (fun _ k => XS.lshl X.here C.1 rfl (hb C.2.2.2.1 hd) rfl k) k
theorem ow_lshr (C : OwnCtx p s m meth c Z a0 tw y0 bytes ml ret) (A : OwnPos p l e R s m args below meth c h0 ws T h ck sk) {x : Int64} {y : Int32} (hd : decode bytes pc = .ok (.lshr, 1)) (hp : pc + 1 = pc') (k : OwnWP p e below s h0 ws Q CK SK T (mkF m pc' Ls (.long (x >>> (y &&& 63).toInt64) :: S))) : OwnWP p e below s h0 ws Q CK SK T (mkF m pc Ls (.int y :: .long x :: S)) := by
  obtain ⟨locs, X, -⟩ := A; subst hp
  exact ow_st (fun _ k => XS.lshr X.here C.1 rfl (hb C.2.2.2.1 hd) rfl k) k
theorem ow_lushr (C : OwnCtx p s m meth c Z a0 tw y0 bytes ml ret) (A : OwnPos p l e R s m args below meth c h0 ws T h ck sk) {x : Int64} {y : Int32} (hd : decode bytes pc = .ok (.lushr, 1)) (hp : pc + 1 = pc') (k : OwnWP p e below s h0 ws Q CK SK T (mkF m pc' Ls (.long (own_ushrL x y) :: S))) : OwnWP p e below s h0 ws Q CK SK T (mkF m pc Ls (.int y :: .long x :: S)) := by
  obtain ⟨locs, X, -⟩ := A; subst hp
  exact ow_st (fun _ k => XS.lushr X.here C.1 rfl (hb C.2.2.2.1 hd) rfl k) k
theorem ow_idiv (C : OwnCtx p s m meth c Z a0 tw y0 bytes ml ret) (A : OwnPos p l e R s m args below meth c h0 ws T h ck sk) {x y : Int32} (hd : decode bytes pc = .ok (.idiv, 1)) (hy : y ≠ 0) (hp : pc + 1 = pc') (k : OwnWP p e below s h0 ws Q CK SK T (mkF m pc' Ls (.int (x / y) :: S))) : OwnWP p e below s h0 ws Q CK SK T (mkF m pc Ls (.int y :: .int x :: S)) := by
  obtain ⟨locs, X, -⟩ := A; subst hp
  exact ow_st (fun _ k => XS.idiv X.here C.1 rfl (hb C.2.2.2.1 hd) rfl hy k) k
theorem ow_irem (C : OwnCtx p s m meth c Z a0 tw y0 bytes ml ret) (A : OwnPos p l e R s m args below meth c h0 ws T h ck sk) {x y : Int32} (hd : decode bytes pc = .ok (.irem, 1)) (hy : y ≠ 0) (hp : pc + 1 = pc') (k : OwnWP p e below s h0 ws Q CK SK T (mkF m pc' Ls (.int (x % y) :: S))) : OwnWP p e below s h0 ws Q CK SK T (mkF m pc Ls (.int y :: .int x :: S)) := by
  obtain ⟨locs, X, -⟩ := A; subst hp
  exact ow_st (fun _ k => iremM X C.1 rfl (hb C.2.2.2.1 hd) rfl hy k) k
theorem ow_ldiv (C : OwnCtx p s m meth c Z a0 tw y0 bytes ml ret) (A : OwnPos p l e R s m args below meth c h0 ws T h ck sk) {x y : Int64} (hd : decode bytes pc = .ok (.ldiv, 1)) (hy : y ≠ 0) (hp : pc + 1 = pc') (k : OwnWP p e below s h0 ws Q CK SK T (mkF m pc' Ls (.long (x / y) :: S))) : OwnWP p e below s h0 ws Q CK SK T (mkF m pc Ls (.long y :: .long x :: S)) := by
  obtain ⟨locs, X, -⟩ := A; subst hp
  exact ow_st (fun _ k => XS.ldiv X.here C.1 rfl (hb C.2.2.2.1 hd) rfl hy k) k
theorem ow_lrem (C : OwnCtx p s m meth c Z a0 tw y0 bytes ml ret) (A : OwnPos p l e R s m args below meth c h0 ws T h ck sk) {x y : Int64} (hd : decode bytes pc = .ok (.lrem, 1)) (hy : y ≠ 0) (hp : pc + 1 = pc') (k : OwnWP p e below s h0 ws Q CK SK T (mkF m pc' Ls (.long (x % y) :: S))) : OwnWP p e below s h0 ws Q CK SK T (mkF m pc Ls (.long y :: .long x :: S)) := by
  obtain ⟨locs, X, -⟩ := A; subst hp
  exact ow_st (fun _ k => XS.lrem X.here C.1 rfl (hb C.2.2.2.1 hd) rfl hy (by rw [lrem_mod]; exact k)) k
theorem ow_ineg (C : OwnCtx p s m meth c Z a0 tw y0 bytes ml ret) (A : OwnPos p l e R s m args below meth c h0 ws T h ck sk) {x : Int32} (hd : decode bytes pc = .ok (.ineg, 1)) (hp : pc + 1 = pc') (k : OwnWP p e below s h0 ws Q CK SK T (mkF m pc' Ls (.int (-x) :: S))) : OwnWP p e below s h0 ws Q CK SK T (mkF m pc Ls (.int x :: S)) := by
  obtain ⟨locs, X, -⟩ := A; subst hp
  exact ow_st (fun _ k => XS.ineg X.here C.1 rfl (hb C.2.2.2.1 hd) rfl k) k
theorem ow_lneg (C : OwnCtx p s m meth c Z a0 tw y0 bytes ml ret) (A : OwnPos p l e R s m args below meth c h0 ws T h ck sk) {x : Int64} (hd : decode bytes pc = .ok (.lneg, 1)) (hp : pc + 1 = pc') (k : OwnWP p e below s h0 ws Q CK SK T (mkF m pc' Ls (.long (-x) :: S))) : OwnWP p e below s h0 ws Q CK SK T (mkF m pc Ls (.long x :: S)) := by
  obtain ⟨locs, X, -⟩ := A; subst hp
  exact ow_st (fun _ k => XS.lneg X.here C.1 rfl (hb C.2.2.2.1 hd) rfl k) k
theorem ow_i2l (C : OwnCtx p s m meth c Z a0 tw y0 bytes ml ret) (A : OwnPos p l e R s m args below meth c h0 ws T h ck sk) {x : Int32} (hd : decode bytes pc = .ok (.i2l, 1)) (hp : pc + 1 = pc') (k : OwnWP p e below s h0 ws Q CK SK T (mkF m pc' Ls (.long x.toInt64 :: S))) : OwnWP p e below s h0 ws Q CK SK T (mkF m pc Ls (.int x :: S)) := by
  obtain ⟨locs, X, -⟩ := A; subst hp
  exact ow_st (fun _ k => XS.i2l X.here C.1 rfl (hb C.2.2.2.1 hd) rfl k) k
theorem ow_l2i (C : OwnCtx p s m meth c Z a0 tw y0 bytes ml ret) (A : OwnPos p l e R s m args below meth c h0 ws T h ck sk) {x : Int64} (hd : decode bytes pc = .ok (.l2i, 1)) (hp : pc + 1 = pc') (k : OwnWP p e below s h0 ws Q CK SK T (mkF m pc' Ls (.int x.toInt32 :: S))) : OwnWP p e below s h0 ws Q CK SK T (mkF m pc Ls (.long x :: S)) := by
  obtain ⟨locs, X, -⟩ := A; subst hp
  exact ow_st (fun _ k => XS.l2i X.here C.1 rfl (hb C.2.2.2.1 hd) rfl k) k
theorem ow_i2b (C : OwnCtx p s m meth c Z a0 tw y0 bytes ml ret) (A : OwnPos p l e R s m args below meth c h0 ws T h ck sk) {x : Int32} (hd : decode bytes pc = .ok (.i2b, 1)) (hp : pc + 1 = pc') (k : OwnWP p e below s h0 ws Q CK SK T (mkF m pc' Ls (.int x.toInt8.toInt32 :: S))) : OwnWP p e below s h0 ws Q CK SK T (mkF m pc Ls (.int x :: S)) := by
  obtain ⟨locs, X, -⟩ := A; subst hp
  exact ow_st (fun _ k => XS.i2b X.here C.1 rfl (hb C.2.2.2.1 hd) rfl k) k
theorem ow_i2s (C : OwnCtx p s m meth c Z a0 tw y0 bytes ml ret) (A : OwnPos p l e R s m args below meth c h0 ws T h ck sk) {x : Int32} (hd : decode bytes pc = .ok (.i2s, 1)) (hp : pc + 1 = pc') (k : OwnWP p e below s h0 ws Q CK SK T (mkF m pc' Ls (.int x.toInt16.toInt32 :: S))) : OwnWP p e below s h0 ws Q CK SK T (mkF m pc Ls (.int x :: S)) := by
  obtain ⟨locs, X, -⟩ := A; subst hp
  exact ow_st (fun _ k => XS.i2s X.here C.1 rfl (hb C.2.2.2.1 hd) rfl k) k
theorem ow_i2c (C : OwnCtx p s m meth c Z a0 tw y0 bytes ml ret) (A : OwnPos p l e R s m args below meth c h0 ws T h ck sk) {x : Int32} (hd : decode bytes pc = .ok (.i2c, 1)) (hp : pc + 1 = pc') (k : OwnWP p e below s h0 ws Q CK SK T (mkF m pc' Ls (.int x.toUInt32.toUInt16.toUInt32.toInt32 :: S))) : OwnWP p e below s h0 ws Q CK SK T (mkF m pc Ls (.int x :: S)) := by
  obtain ⟨locs, X, -⟩ := A; subst hp
  exact ow_st (fun _ k => XS.i2c X.here C.1 rfl (hb C.2.2.2.1 hd) rfl k) k
theorem ow_iconst (C : OwnCtx p s m meth c Z a0 tw y0 bytes ml ret) (A : OwnPos p l e R s m args below meth c h0 ws T h ck sk) {i : Int} {v : Int32} (hd : decode bytes pc = .ok (.iconst i, 1)) (hv : Int32.ofInt i = v) (hp : pc + 1 = pc') (k : OwnWP p e below s h0 ws Q CK SK T (mkF m pc' Ls (.int v :: S))) : OwnWP p e below s h0 ws Q CK SK T (mkF m pc Ls (S)) := by
  obtain ⟨locs, X, -⟩ := A; subst hp
  exact ow_st (fun _ k => by subst hv; exact XS.iconst X.here C.1 rfl (hb C.2.2.2.1 hd) k) k
theorem ow_bipush (C : OwnCtx p s m meth c Z a0 tw y0 bytes ml ret) (A : OwnPos p l e R s m args below meth c h0 ws T h ck sk) {i : Int} {v : Int32} (hd : decode bytes pc = .ok (.bipush i, 2)) (hv : (Int8.ofInt i).toInt32 = v) (hp : pc + 2 = pc') (k : OwnWP p e below s h0 ws Q CK SK T (mkF m pc' Ls (.int v :: S))) : OwnWP p e below s h0 ws Q CK SK T (mkF m pc Ls (S)) := by
  obtain ⟨locs, X, -⟩ := A; subst hp
  exact ow_st (fun _ k => by subst hv; exact XS.bipush X.here C.1 rfl (hb C.2.2.2.1 hd) k) k
theorem ow_sipush (C : OwnCtx p s m meth c Z a0 tw y0 bytes ml ret) (A : OwnPos p l e R s m args below meth c h0 ws T h ck sk) {i : Int} {v : Int32} (hd : decode bytes pc = .ok (.sipush i, 3)) (hv : (Int16.ofInt i).toInt32 = v) (hp : pc + 3 = pc') (k : OwnWP p e below s h0 ws Q CK SK T (mkF m pc' Ls (.int v :: S))) : OwnWP p e below s h0 ws Q CK SK T (mkF m pc Ls (S)) := by
  obtain ⟨locs, X, -⟩ := A; subst hp
  exact ow_st (fun _ k => by subst hv; exact XS.sipush X.here C.1 rfl (hb C.2.2.2.1 hd) k) k
theorem ow_lconst (C : OwnCtx p s m meth c Z a0 tw y0 bytes ml ret) (A : OwnPos p l e R s m args below meth c h0 ws T h ck sk) {i : Fin 2} {v : Int64} (hd : decode bytes pc = .ok (.lconst i, 1)) (hv : Int64.ofNat i = v) (hp : pc + 1 = pc') (k : OwnWP p e below s h0 ws Q CK SK T (mkF m pc' Ls (.long v :: S))) : OwnWP p e below s h0 ws Q CK SK T (mkF m pc Ls (S)) := by
  obtain ⟨locs, X, -⟩ := A; subst hp
  exact ow_st (fun _ k => by subst hv; exact XS.lconst X.here C.1 rfl (hb C.2.2.2.1 hd) k) k
theorem ow_aconst_null (C : OwnCtx p s m meth c Z a0 tw y0 bytes ml ret) (A : OwnPos p l e R s m args below meth c h0 ws T h ck sk)  (hd : decode bytes pc = .ok (.aconst_null, 1)) (hp : pc + 1 = pc') (k : OwnWP p e below s h0 ws Q CK SK T (mkF m pc' Ls (.null :: S))) : OwnWP p e below s h0 ws Q CK SK T (mkF m pc Ls (S)) := by
  obtain ⟨locs, X, -⟩ := A; subst hp
  exact ow_st (fun _ k => XS.aconstNull X.here C.1 rfl (hb C.2.2.2.1 hd) k) k
theorem ow_iload (C : OwnCtx p s m meth c Z a0 tw y0 bytes ml ret) (A : OwnPos p l e R s m args below meth c h0 ws T h ck sk) {j : Nat} {v : Int32} (hd : decode bytes pc = .ok (.iload j, 2)) (hl : Ls[j]? = some (.val (.int v))) (hp : pc + 2 = pc') (k : OwnWP p e below s h0 ws Q CK SK T (mkF m pc' Ls (.int v :: S))) : OwnWP p e below s h0 ws Q CK SK T (mkF m pc Ls (S)) := by
  obtain ⟨locs, X, -⟩ := A; subst hp
  exact ow_st (fun _ k => XS.iload X.here C.1 rfl (hb C.2.2.2.1 hd) hl k) k
theorem ow_iloadN (C : OwnCtx p s m meth c Z a0 tw y0 bytes ml ret) (A : OwnPos p l e R s m args below meth c h0 ws T h ck sk) {j : Fin 4} {v : Int32} (hd : decode bytes pc = .ok (.iload_n j, 1)) (hl : Ls[j.val]? = some (.val (.int v))) (hp : pc + 1 = pc') (k : OwnWP p e below s h0 ws Q CK SK T (mkF m pc' Ls (.int v :: S))) : OwnWP p e below s h0 ws Q CK SK T (mkF m pc Ls (S)) := by
  obtain ⟨locs, X, -⟩ := A; subst hp
  exact ow_st (fun _ k => XS.iloadN X.here C.1 rfl (hb C.2.2.2.1 hd) hl k) k
theorem ow_lload (C : OwnCtx p s m meth c Z a0 tw y0 bytes ml ret) (A : OwnPos p l e R s m args below meth c h0 ws T h ck sk) {j : Nat} {v : Int64} (hd : decode bytes pc = .ok (.lload j, 2)) (hl : Ls[j]? = some (.val (.long v))) (hp : pc + 2 = pc') (k : OwnWP p e below s h0 ws Q CK SK T (mkF m pc' Ls (.long v :: S))) : OwnWP p e below s h0 ws Q CK SK T (mkF m pc Ls (S)) := by
  obtain ⟨locs, X, -⟩ := A; subst hp
  exact ow_st (fun _ k => XS.lload X.here C.1 rfl (hb C.2.2.2.1 hd) hl k) k
theorem ow_lloadN (C : OwnCtx p s m meth c Z a0 tw y0 bytes ml ret) (A : OwnPos p l e R s m args below meth c h0 ws T h ck sk) {j : Fin 4} {v : Int64} (hd : decode bytes pc = .ok (.lload_n j, 1)) (hl : Ls[j.val]? = some (.val (.long v))) (hp : pc + 1 = pc') (k : OwnWP p e below s h0 ws Q CK SK T (mkF m pc' Ls (.long v :: S))) : OwnWP p e below s h0 ws Q CK SK T (mkF m pc Ls (S)) := by
  obtain ⟨locs, X, -⟩ := A; subst hp
  exact ow_st (fun _ k => XS.lloadN X.here C.1 rfl (hb C.2.2.2.1 hd) hl k) k
theorem ow_aload (C : OwnCtx p s m meth c Z a0 tw y0 bytes ml ret) (A : OwnPos p l e R s m args below meth c h0 ws T h ck sk) {j : Nat} {v : Value} (hd : decode bytes pc = .ok (.aload j, 2)) (hl : Ls[j]? = some (.val v)) (hv : v.isRef = true) (hp : pc + 2 = pc') (k : OwnWP p e below s h0 ws Q CK SK T (mkF m pc' Ls (v :: S))) : OwnWP p e below s h0 ws Q CK SK T (mkF m pc Ls (S)) := by
  obtain ⟨locs, X, -⟩ := A; subst hp
  exact ow_st (fun _ k => XS.aload X.here C.1 rfl (hb C.2.2.2.1 hd) hl hv k) k
theorem ow_aloadN (C : OwnCtx p s m meth c Z a0 tw y0 bytes ml ret) (A : OwnPos p l e R s m args below meth c h0 ws T h ck sk) {j : Fin 4} {v : Value} (hd : decode bytes pc = .ok (.aload_n j, 1)) (hl : Ls[j.val]? = some (.val v)) (hv : v.isRef = true) (hp : pc + 1 = pc') (k : OwnWP p e below s h0 ws Q CK SK T (mkF m pc' Ls (v :: S))) : OwnWP p e below s h0 ws Q CK SK T (mkF m pc Ls (S)) := by
  obtain ⟨locs, X, -⟩ := A; subst hp
  exact ow_st (fun _ k => XS.aloadN X.here C.1 rfl (hb C.2.2.2.1 hd) hl hv k) k
theorem ow_istore (C : OwnCtx p s m meth c Z a0 tw y0 bytes ml ret) (A : OwnPos p l e R s m args below meth c h0 ws T h ck sk) {j : Nat} {v : Int32} (hd : decode bytes pc = .ok (.istore j, 2)) (hl : storeLocals Ls j (.int v) = some Ls') (hp : pc + 2 = pc') (k : OwnWP p e below s h0 ws Q CK SK T (mkF m pc' Ls' (S))) : OwnWP p e below s h0 ws Q CK SK T (mkF m pc Ls (.int v :: S)) := by
  obtain ⟨locs, X, -⟩ := A; subst hp
  exact ow_st (fun _ k => XS.istore X.here C.1 rfl (hb C.2.2.2.1 hd) rfl hl k) k
theorem ow_istoreN (C : OwnCtx p s m meth c Z a0 tw y0 bytes ml ret) (A : OwnPos p l e R s m args below meth c h0 ws T h ck sk) {j : Fin 4} {v : Int32} (hd : decode bytes pc = .ok (.istore_n j, 1)) (hl : storeLocals Ls j.val (.int v) = some Ls') (hp : pc + 1 = pc') (k : OwnWP p e below s h0 ws Q CK SK T (mkF m pc' Ls' (S))) : OwnWP p e below s h0 ws Q CK SK T (mkF m pc Ls (.int v :: S)) := by
  obtain ⟨locs, X, -⟩ := A; subst hp
  exact ow_st (fun _ k => XS.istoreN X.here C.1 rfl (hb C.2.2.2.1 hd) rfl hl k) k
theorem ow_lstore (C : OwnCtx p s m meth c Z a0 tw y0 bytes ml ret) (A : OwnPos p l e R s m args below meth c h0 ws T h ck sk) {j : Nat} {v : Int64} (hd : decode bytes pc = .ok (.lstore j, 2)) (hl : storeLocals Ls j (.long v) = some Ls') (hp : pc + 2 = pc') (k : OwnWP p e below s h0 ws Q CK SK T (mkF m pc' Ls' (S))) : OwnWP p e below s h0 ws Q CK SK T (mkF m pc Ls (.long v :: S)) := by
  obtain ⟨locs, X, -⟩ := A; subst hp
  exact ow_st (fun _ k => XS.lstore X.here C.1 rfl (hb C.2.2.2.1 hd) rfl hl k) k
theorem ow_lstoreN (C : OwnCtx p s m meth c Z a0 tw y0 bytes ml ret) (A : OwnPos p l e R s m args below meth c h0 ws T h ck sk) {j : Fin 4} {v : Int64} (hd : decode bytes pc = .ok (.lstore_n j, 1)) (hl : storeLocals Ls j.val (.long v) = some Ls') (hp : pc + 1 = pc') (k : OwnWP p e below s h0 ws Q CK SK T (mkF m pc' Ls' (S))) : OwnWP p e below s h0 ws Q CK SK T (mkF m pc Ls (.long v :: S)) := by
  obtain ⟨locs, X, -⟩ := A; subst hp
  exact ow_st (fun _ k => XS.lstoreN X.here C.1 rfl (hb C.2.2.2.1 hd) rfl hl k) k
theorem ow_astore (C : OwnCtx p s m meth c Z a0 tw y0 bytes ml ret) (A : OwnPos p l e R s m args below meth c h0 ws T h ck sk) {j : Nat} {v : Value} (hd : decode bytes pc = .ok (.astore j, 2)) (hv : v.isRef = true) (hl : storeLocals Ls j v = some Ls') (hp : pc + 2 = pc') (k : OwnWP p e below s h0 ws Q CK SK T (mkF m pc' Ls' (S))) : OwnWP p e below s h0 ws Q CK SK T (mkF m pc Ls (v :: S)) := by
  obtain ⟨locs, X, -⟩ := A; subst hp
  exact ow_st (fun _ k => XS.astore X.here C.1 rfl (hb C.2.2.2.1 hd) rfl hv hl k) k
theorem ow_astoreN (C : OwnCtx p s m meth c Z a0 tw y0 bytes ml ret) (A : OwnPos p l e R s m args below meth c h0 ws T h ck sk) {j : Fin 4} {v : Value} (hd : decode bytes pc = .ok (.astore_n j, 1)) (hv : v.isRef = true) (hl : storeLocals Ls j.val v = some Ls') (hp : pc + 1 = pc') (k : OwnWP p e below s h0 ws Q CK SK T (mkF m pc' Ls' (S))) : OwnWP p e below s h0 ws Q CK SK T (mkF m pc Ls (v :: S)) := by
  obtain ⟨locs, X, -⟩ := A; subst hp
  exact ow_st (fun _ k => XS.astoreN X.here C.1 rfl (hb C.2.2.2.1 hd) rfl hv hl k) k
theorem ow_iinc (C : OwnCtx p s m meth c Z a0 tw y0 bytes ml ret) (A : OwnPos p l e R s m args below meth c h0 ws T h ck sk) {j : Nat} {cst : Int} {v : Int32} (hd : decode bytes pc = .ok (.iinc j cst, 3)) (hl : Ls[j]? = some (.val (.int v))) (hl' : storeLocals Ls j (.int (v + Int32.ofInt cst)) = some Ls') (hp : pc + 3 = pc') (k : OwnWP p e below s h0 ws Q CK SK T (mkF m pc' Ls' (S))) : OwnWP p e below s h0 ws Q CK SK T (mkF m pc Ls (S)) := by
  obtain ⟨locs, X, -⟩ := A; subst hp
  exact ow_st (fun _ k => XS.iinc X.here C.1 rfl (hb C.2.2.2.1 hd) hl hl' k) k
theorem ow_dup (C : OwnCtx p s m meth c Z a0 tw y0 bytes ml ret) (A : OwnPos p l e R s m args below meth c h0 ws T h ck sk) {v : Value} (hd : decode bytes pc = .ok (.dup, 1)) (hc : v.category = 1) (hp : pc + 1 = pc') (k : OwnWP p e below s h0 ws Q CK SK T (mkF m pc' Ls (v :: v :: S))) : OwnWP p e below s h0 ws Q CK SK T (mkF m pc Ls (v :: S)) := by
  obtain ⟨locs, X, -⟩ := A; subst hp
  exact ow_st (fun _ k => XS.dup X.here C.1 rfl (hb C.2.2.2.1 hd) rfl hc k) k
theorem ow_dup_x1 (C : OwnCtx p s m meth c Z a0 tw y0 bytes ml ret) (A : OwnPos p l e R s m args below meth c h0 ws T h ck sk) {v w : Value} (hd : decode bytes pc = .ok (.dup_x1, 1)) (hc : v.category = 1) (hc' : w.category = 1) (hp : pc + 1 = pc') (k : OwnWP p e below s h0 ws Q CK SK T (mkF m pc' Ls (v :: w :: v :: S))) : OwnWP p e below s h0 ws Q CK SK T (mkF m pc Ls (v :: w :: S)) := by
  obtain ⟨locs, X, -⟩ := A; subst hp
  exact ow_st (fun _ k => XS.dupX1 X.here C.1 rfl (hb C.2.2.2.1 hd) rfl hc hc' k) k
theorem ow_dup2 (C : OwnCtx p s m meth c Z a0 tw y0 bytes ml ret) (A : OwnPos p l e R s m args below meth c h0 ws T h ck sk) {v w : Value} (hd : decode bytes pc = .ok (.dup2, 1)) (hc : v.category = 1) (hc' : w.category = 1) (hp : pc + 1 = pc') (k : OwnWP p e below s h0 ws Q CK SK T (mkF m pc' Ls (v :: w :: v :: w :: S))) : OwnWP p e below s h0 ws Q CK SK T (mkF m pc Ls (v :: w :: S)) := by
  obtain ⟨locs, X, -⟩ := A; subst hp
  exact ow_st (fun _ k => XT.dup2 X.here C.1 rfl (hb C.2.2.2.1 hd) rfl hc hc' k) k
theorem ow_pop (C : OwnCtx p s m meth c Z a0 tw y0 bytes ml ret) (A : OwnPos p l e R s m args below meth c h0 ws T h ck sk) {v : Value} (hd : decode bytes pc = .ok (.pop, 1)) (hc : v.category = 1) (hp : pc + 1 = pc') (k : OwnWP p e below s h0 ws Q CK SK T (mkF m pc' Ls (S))) : OwnWP p e below s h0 ws Q CK SK T (mkF m pc Ls (v :: S)) := by
  obtain ⟨locs, X, -⟩ := A; subst hp
  exact ow_st (fun _ k => XS.pop X.here C.1 rfl (hb C.2.2.2.1 hd) rfl hc k) k
theorem ow_goto (C : OwnCtx p s m meth c Z a0 tw y0 bytes ml ret) (A : OwnPos p l e R s m args below meth c h0 ws T h ck sk) {o : Int} (hd : decode bytes pc = .ok (.goto o, 3)) (ho : 0 ≤ (pc : Int) + o) (hp : ((pc : Int) + o).toNat = pc') (k : OwnWP p e below s h0 ws Q CK SK T (mkF m pc' Ls S)) : OwnWP p e below s h0 ws Q CK SK T (mkF m pc Ls S) := by
  obtain ⟨locs, X, -⟩ := A
  exact ow_st (fun _ k => XS.goto X.here C.1 rfl (pc0 := pc) (pc' := pc') rfl (hb C.2.2.2.1 hd) ho hp k) k
theorem ow_icmp_lt (C : OwnCtx p s m meth c Z a0 tw y0 bytes ml ret) (A : OwnPos p l e R s m args below meth c h0 ws T h ck sk) {x y : Int32} {o : Int} {pcY pcN : Nat} (hd : decode bytes pc = .ok (.if_icmp .lt o, 3)) (ho : 0 ≤ (pc : Int) + o) (hpY : ((pc : Int) + o).toNat = pcY) (hpN : pc + 3 = pcN) (kY : x < y → OwnWP p e below s h0 ws Q CK SK T (mkF m pcY Ls S)) (kN : ¬ (x < y) → OwnWP p e below s h0 ws Q CK SK T (mkF m pcN Ls S)) : OwnWP p e below s h0 ws Q CK SK T (mkF m pc Ls (.int y :: .int x :: S)) := by
  obtain ⟨locs, X, -⟩ := A; subst hpN
  by_cases q : x < y
  · exact ow_st (fun _ k => XS.icmpYes X.here C.1 rfl (pc0 := pc) (pc' := pcY) rfl (hb C.2.2.2.1 hd) rfl (tlt q).1 ho hpY k) (kY q)
  · exact ow_st (fun _ k => XS.icmpNo X.here C.1 rfl (hb C.2.2.2.1 hd) rfl (flt q).1 k) (kN q)
theorem ow_if_lt (C : OwnCtx p s m meth c Z a0 tw y0 bytes ml ret) (A : OwnPos p l e R s m args below meth c h0 ws T h ck sk) {x : Int32} {o : Int} {pcY pcN : Nat} (hd : decode bytes pc = .ok (.ifCond .lt o, 3)) (ho : 0 ≤ (pc : Int) + o) (hpY : ((pc : Int) + o).toNat = pcY) (hpN : pc + 3 = pcN) (kY : x < 0 → OwnWP p e below s h0 ws Q CK SK T (mkF m pcY Ls S)) (kN : ¬ (x < 0) → OwnWP p e below s h0 ws Q CK SK T (mkF m pcN Ls S)) : OwnWP p e below s h0 ws Q CK SK T (mkF m pc Ls (.int x :: S)) := by
  obtain ⟨locs, X, -⟩ := A; subst hpN
  by_cases q : x < 0
  · exact ow_st (fun _ k => XS.ifYes X.here C.1 rfl (pc0 := pc) (pc' := pcY) rfl (hb C.2.2.2.1 hd) rfl ((if0 _ _).trans (tlt q).1) ho hpY k) (kY q)
  · exact ow_st (fun _ k => XS.ifNo X.here C.1 rfl (hb C.2.2.2.1 hd) rfl ((if0 _ _).trans (flt q).1) k) (kN q)
theorem ow_lcmp_lt (C : OwnCtx p s m meth c Z a0 tw y0 bytes ml ret) (A : OwnPos p l e R s m args below meth c h0 ws T h ck sk) {x y : Int64} {o : Int} {pc1 pcY pcN : Nat} (hd : decode bytes pc = .ok (.lcmp, 1)) (hp1 : pc + 1 = pc1) (hd1 : decode bytes pc1 = .ok (.ifCond .lt o, 3)) (ho : 0 ≤ (pc1 : Int) + o) (hpY : ((pc1 : Int) + o).toNat = pcY) (hpN : pc1 + 3 = pcN) (kY : x < y → OwnWP p e below s h0 ws Q CK SK T (mkF m pcY Ls S)) (kN : ¬ (x < y) → OwnWP p e below s h0 ws Q CK SK T (mkF m pcN Ls S)) : OwnWP p e below s h0 ws Q CK SK T (mkF m pc Ls (.long y :: .long x :: S)) := by
  have A' := A; obtain ⟨locs, X, -⟩ := A'; subst hp1
  refine ow_st (fun _ k => XS.lcmp X.here C.1 rfl (hb C.2.2.2.1 hd) rfl k) ?_
  show OwnWP p e below s h0 ws Q CK SK T (mkF m (pc + 1) Ls (.int (lcmpW x y) :: S))
  exact ow_if_lt C A hd1 ho hpY hpN (fun q => kY ((lw_lt x y).mp q)) (fun q => kN (fun z => q ((lw_lt x y).mpr z)))
theorem ow_icmp_ge (C : OwnCtx p s m meth c Z a0 tw y0 bytes ml ret) (A : OwnPos p l e R s m args below meth c h0 ws T h ck sk) {x y : Int32} {o : Int} {pcY pcN : Nat} (hd : decode bytes pc = .ok (.if_icmp .ge o, 3)) (ho : 0 ≤ (pc : Int) + o) (hpY : ((pc : Int) + o).toNat = pcY) (hpN : pc + 3 = pcN) (kY : ¬ (x < y) → OwnWP p e below s h0 ws Q CK SK T (mkF m pcY Ls S)) (kN : x < y → OwnWP p e below s h0 ws Q CK SK T (mkF m pcN Ls S)) : OwnWP p e below s h0 ws Q CK SK T (mkF m pc Ls (.int y :: .int x :: S)) := by
  obtain ⟨locs, X, -⟩ := A; subst hpN
  by_cases q : x < y
  · exact ow_st (fun _ k => XS.icmpNo X.here C.1 rfl (hb C.2.2.2.1 hd) rfl (tlt q).2.1 k) (kN q)
  · exact ow_st (fun _ k => XS.icmpYes X.here C.1 rfl (pc0 := pc) (pc' := pcY) rfl (hb C.2.2.2.1 hd) rfl (flt q).2.1 ho hpY k) (kY q)
theorem ow_if_ge (C : OwnCtx p s m meth c Z a0 tw y0 bytes ml ret) (A : OwnPos p l e R s m args below meth c h0 ws T h ck sk) {x : Int32} {o : Int} {pcY pcN : Nat} (hd : decode bytes pc = .ok (.ifCond .ge o, 3)) (ho : 0 ≤ (pc : Int) + o) (hpY : ((pc : Int) + o).toNat = pcY) (hpN : pc + 3 = pcN) (kY : ¬ (x < 0) → OwnWP p e below s h0 ws Q CK SK T (mkF m pcY Ls S)) (kN : x < 0 → OwnWP p e below s h0 ws Q CK SK T (mkF m pcN Ls S)) : OwnWP p e below s h0 ws Q CK SK T (mkF m pc Ls (.int x :: S)) := by
  obtain ⟨locs, X, -⟩ := A; subst hpN
  by_cases q : x < 0
  · exact ow_st (fun _ k => XS.ifNo X.here C.1 rfl (hb C.2.2.2.1 hd) rfl ((if0 _ _).trans (tlt q).2.1) k) (kN q)
  · exact ow_st (fun _ k => XS.ifYes X.here C.1 rfl (pc0 := pc) (pc' := pcY) rfl (hb C.2.2.2.1 hd) rfl ((if0 _ _).trans (flt q).2.1) ho hpY k) (kY q)
theorem ow_lcmp_ge (C : OwnCtx p s m meth c Z a0 tw y0 bytes ml ret) (A : OwnPos p l e R s m args below meth c h0 ws T h ck sk) {x y : Int64} {o : Int} {pc1 pcY pcN : Nat} (hd : decode bytes pc = .ok (.lcmp, 1)) (hp1 : pc + 1 = pc1) (hd1 : decode bytes pc1 = .ok (.ifCond .ge o, 3)) (ho : 0 ≤ (pc1 : Int) + o) (hpY : ((pc1 : Int) + o).toNat = pcY) (hpN : pc1 + 3 = pcN) (kY : ¬ (x < y) → OwnWP p e below s h0 ws Q CK SK T (mkF m pcY Ls S)) (kN : x < y → OwnWP p e below s h0 ws Q CK SK T (mkF m pcN Ls S)) : OwnWP p e below s h0 ws Q CK SK T (mkF m pc Ls (.long y :: .long x :: S)) := by
  have A' := A; obtain ⟨locs, X, -⟩ := A'; subst hp1
  refine ow_st (fun _ k => XS.lcmp X.here C.1 rfl (hb C.2.2.2.1 hd) rfl k) ?_
  show OwnWP p e below s h0 ws Q CK SK T (mkF m (pc + 1) Ls (.int (lcmpW x y) :: S))
  exact ow_if_ge C A hd1 ho hpY hpN (fun q => kY (fun z => q ((lw_lt x y).mpr z))) (fun q => kN ((lw_lt x y).mp q))
theorem ow_icmp_gt (C : OwnCtx p s m meth c Z a0 tw y0 bytes ml ret) (A : OwnPos p l e R s m args below meth c h0 ws T h ck sk) {x y : Int32} {o : Int} {pcY pcN : Nat} (hd : decode bytes pc = .ok (.if_icmp .gt o, 3)) (ho : 0 ≤ (pc : Int) + o) (hpY : ((pc : Int) + o).toNat = pcY) (hpN : pc + 3 = pcN) (kY : y < x → OwnWP p e below s h0 ws Q CK SK T (mkF m pcY Ls S)) (kN : ¬ (y < x) → OwnWP p e below s h0 ws Q CK SK T (mkF m pcN Ls S)) : OwnWP p e below s h0 ws Q CK SK T (mkF m pc Ls (.int y :: .int x :: S)) := by
  obtain ⟨locs, X, -⟩ := A; subst hpN
  by_cases q : y < x
  · exact ow_st (fun _ k => XS.icmpYes X.here C.1 rfl (pc0 := pc) (pc' := pcY) rfl (hb C.2.2.2.1 hd) rfl (tlt q).2.2.1 ho hpY k) (kY q)
  · exact ow_st (fun _ k => XS.icmpNo X.here C.1 rfl (hb C.2.2.2.1 hd) rfl (flt q).2.2.1 k) (kN q)
theorem ow_if_gt (C : OwnCtx p s m meth c Z a0 tw y0 bytes ml ret) (A : OwnPos p l e R s m args below meth c h0 ws T h ck sk) {x : Int32} {o : Int} {pcY pcN : Nat} (hd : decode bytes pc = .ok (.ifCond .gt o, 3)) (ho : 0 ≤ (pc : Int) + o) (hpY : ((pc : Int) + o).toNat = pcY) (hpN : pc + 3 = pcN) (kY : 0 < x → OwnWP p e below s h0 ws Q CK SK T (mkF m pcY Ls S)) (kN : ¬ (0 < x) → OwnWP p e below s h0 ws Q CK SK T (mkF m pcN Ls S)) : OwnWP p e below s h0 ws Q CK SK T (mkF m pc Ls (.int x :: S)) := by
  obtain ⟨locs, X, -⟩ := A; subst hpN
  by_cases q : 0 < x
  · exact ow_st (fun _ k => XS.ifYes X.here C.1 rfl (pc0 := pc) (pc' := pcY) rfl (hb C.2.2.2.1 hd) rfl ((if0 _ _).trans (tlt q).2.2.1) ho hpY k) (kY q)
  · exact ow_st (fun _ k => XS.ifNo X.here C.1 rfl (hb C.2.2.2.1 hd) rfl ((if0 _ _).trans (flt q).2.2.1) k) (kN q)
theorem ow_lcmp_gt (C : OwnCtx p s m meth c Z a0 tw y0 bytes ml ret) (A : OwnPos p l e R s m args below meth c h0 ws T h ck sk) {x y : Int64} {o : Int} {pc1 pcY pcN : Nat} (hd : decode bytes pc = .ok (.lcmp, 1)) (hp1 : pc + 1 = pc1) (hd1 : decode bytes pc1 = .ok (.ifCond .gt o, 3)) (ho : 0 ≤ (pc1 : Int) + o) (hpY : ((pc1 : Int) + o).toNat = pcY) (hpN : pc1 + 3 = pcN) (kY : y < x → OwnWP p e below s h0 ws Q CK SK T (mkF m pcY Ls S)) (kN : ¬ (y < x) → OwnWP p e below s h0 ws Q CK SK T (mkF m pcN Ls S)) : OwnWP p e below s h0 ws Q CK SK T (mkF m pc Ls (.long y :: .long x :: S)) := by
  have A' := A; obtain ⟨locs, X, -⟩ := A'; subst hp1
  refine ow_st (fun _ k => XS.lcmp X.here C.1 rfl (hb C.2.2.2.1 hd) rfl k) ?_
  show OwnWP p e below s h0 ws Q CK SK T (mkF m (pc + 1) Ls (.int (lcmpW x y) :: S))
  exact ow_if_gt C A hd1 ho hpY hpN (fun q => kY ((lw_gt x y).mp q)) (fun q => kN (fun z => q ((lw_gt x y).mpr z)))
theorem ow_icmp_le (C : OwnCtx p s m meth c Z a0 tw y0 bytes ml ret) (A : OwnPos p l e R s m args below meth c h0 ws T h ck sk) {x y : Int32} {o : Int} {pcY pcN : Nat} (hd : decode bytes pc = .ok (.if_icmp .le o, 3)) (ho : 0 ≤ (pc : Int) + o) (hpY : ((pc : Int) + o).toNat = pcY) (hpN : pc + 3 = pcN) (kY : ¬ (y < x) → OwnWP p e below s h0 ws Q CK SK T (mkF m pcY Ls S)) (kN : y < x → OwnWP p e below s h0 ws Q CK SK T (mkF m pcN Ls S)) : OwnWP p e below s h0 ws Q CK SK T (mkF m pc Ls (.int y :: .int x :: S)) := by
  obtain ⟨locs, X, -⟩ := A; subst hpN
  by_cases q : y < x
  · exact ow_st (fun _ k => XS.icmpNo X.here C.1 rfl (hb C.2.2.2.1 hd) rfl (tlt q).2.2.2 k) (kN q)
  · exact ow_st (fun _ k => XS.icmpYes X.here C.1 rfl (pc0 := pc) (pc' := pcY) rfl (hb C.2.2.2.1 hd) rfl (flt q).2.2.2 ho hpY k) (kY q)
theorem ow_if_le (C : OwnCtx p s m meth c Z a0 tw y0 bytes ml ret) (A : OwnPos p l e R s m args below meth c h0 ws T h ck sk) {x : Int32} {o : Int} {pcY pcN : Nat} (hd : decode bytes pc = .ok (.ifCond .le o, 3)) (ho : 0 ≤ (pc : Int) + o) (hpY : ((pc : Int) + o).toNat = pcY) (hpN : pc + 3 = pcN) (kY : ¬ (0 < x) → OwnWP p e below s h0 ws Q CK SK T (mkF m pcY Ls S)) (kN : 0 < x → OwnWP p e below s h0 ws Q CK SK T (mkF m pcN Ls S)) : OwnWP p e below s h0 ws Q CK SK T (mkF m pc Ls (.int x :: S)) := by
  obtain ⟨locs, X, -⟩ := A; subst hpN
  by_cases q : 0 < x
  · exact ow_st (fun _ k => XS.ifNo X.here C.1 rfl (hb C.2.2.2.1 hd) rfl ((if0 _ _).trans (tlt q).2.2.2) k) (kN q)
  · exact ow_st (fun _ k => XS.ifYes X.here C.1 rfl (pc0 := pc) (pc' := pcY) rfl (hb C.2.2.2.1 hd) rfl ((if0 _ _).trans (flt q).2.2.2) ho hpY k) (kY q)
theorem ow_lcmp_le (C : OwnCtx p s m meth c Z a0 tw y0 bytes ml ret) (A : OwnPos p l e R s m args below meth c h0 ws T h ck sk) {x y : Int64} {o : Int} {pc1 pcY pcN : Nat} (hd : decode bytes pc = .ok (.lcmp, 1)) (hp1 : pc + 1 = pc1) (hd1 : decode bytes pc1 = .ok (.ifCond .le o, 3)) (ho : 0 ≤ (pc1 : Int) + o) (hpY : ((pc1 : Int) + o).toNat = pcY) (hpN : pc1 + 3 = pcN) (kY : ¬ (y < x) → OwnWP p e below s h0 ws Q CK SK T (mkF m pcY Ls S)) (kN : y < x → OwnWP p e below s h0 ws Q CK SK T (mkF m pcN Ls S)) : OwnWP p e below s h0 ws Q CK SK T (mkF m pc Ls (.long y :: .long x :: S)) := by
  have A' := A; obtain ⟨locs, X, -⟩ := A'; subst hp1
  refine ow_st (fun _ k => XS.lcmp X.here C.1 rfl (hb C.2.2.2.1 hd) rfl k) ?_
  show OwnWP p e below s h0 ws Q CK SK T (mkF m (pc + 1) Ls (.int (lcmpW x y) :: S))
  exact ow_if_le C A hd1 ho hpY hpN (fun q => kY (fun z => q ((lw_gt x y).mpr z))) (fun q => kN ((lw_gt x y).mp q))
theorem ow_icmp_eq (C : OwnCtx p s m meth c Z a0 tw y0 bytes ml ret) (A : OwnPos p l e R s m args below meth c h0 ws T h ck sk) {x y : Int32} {o : Int} {pcY pcN : Nat} (hd : decode bytes pc = .ok (.if_icmp .eq o, 3)) (ho : 0 ≤ (pc : Int) + o) (hpY : ((pc : Int) + o).toNat = pcY) (hpN : pc + 3 = pcN) (kY : x = y → OwnWP p e below s h0 ws Q CK SK T (mkF m pcY Ls S)) (kN : ¬ (x = y) → OwnWP p e below s h0 ws Q CK SK T (mkF m pcN Ls S)) : OwnWP p e below s h0 ws Q CK SK T (mkF m pc Ls (.int y :: .int x :: S)) := by
  obtain ⟨locs, X, -⟩ := A; subst hpN
  by_cases q : x = y
  · exact ow_st (fun _ k => XS.icmpYes X.here C.1 rfl (pc0 := pc) (pc' := pcY) rfl (hb C.2.2.2.1 hd) rfl (teq q).1 ho hpY k) (kY q)
  · exact ow_st (fun _ k => XS.icmpNo X.here C.1 rfl (hb C.2.2.2.1 hd) rfl (feq q).1 k) (kN q)
theorem ow_if_eq (C : OwnCtx p s m meth c Z a0 tw y0 bytes ml ret) (A : OwnPos p l e R s m args below meth c h0 ws T h ck sk) {x : Int32} {o : Int} {pcY pcN : Nat} (hd : decode bytes pc = .ok (.ifCond .eq o, 3)) (ho : 0 ≤ (pc : Int) + o) (hpY : ((pc : Int) + o).toNat = pcY) (hpN : pc + 3 = pcN) (kY : x = 0 → OwnWP p e below s h0 ws Q CK SK T (mkF m pcY Ls S)) (kN : ¬ (x = 0) → OwnWP p e below s h0 ws Q CK SK T (mkF m pcN Ls S)) : OwnWP p e below s h0 ws Q CK SK T (mkF m pc Ls (.int x :: S)) := by
  obtain ⟨locs, X, -⟩ := A; subst hpN
  by_cases q : x = 0
  · exact ow_st (fun _ k => XS.ifYes X.here C.1 rfl (pc0 := pc) (pc' := pcY) rfl (hb C.2.2.2.1 hd) rfl ((if0 _ _).trans (teq q).1) ho hpY k) (kY q)
  · exact ow_st (fun _ k => XS.ifNo X.here C.1 rfl (hb C.2.2.2.1 hd) rfl ((if0 _ _).trans (feq q).1) k) (kN q)
theorem ow_lcmp_eq (C : OwnCtx p s m meth c Z a0 tw y0 bytes ml ret) (A : OwnPos p l e R s m args below meth c h0 ws T h ck sk) {x y : Int64} {o : Int} {pc1 pcY pcN : Nat} (hd : decode bytes pc = .ok (.lcmp, 1)) (hp1 : pc + 1 = pc1) (hd1 : decode bytes pc1 = .ok (.ifCond .eq o, 3)) (ho : 0 ≤ (pc1 : Int) + o) (hpY : ((pc1 : Int) + o).toNat = pcY) (hpN : pc1 + 3 = pcN) (kY : x = y → OwnWP p e below s h0 ws Q CK SK T (mkF m pcY Ls S)) (kN : ¬ (x = y) → OwnWP p e below s h0 ws Q CK SK T (mkF m pcN Ls S)) : OwnWP p e below s h0 ws Q CK SK T (mkF m pc Ls (.long y :: .long x :: S)) := by
  have A' := A; obtain ⟨locs, X, -⟩ := A'; subst hp1
  refine ow_st (fun _ k => XS.lcmp X.here C.1 rfl (hb C.2.2.2.1 hd) rfl k) ?_
  show OwnWP p e below s h0 ws Q CK SK T (mkF m (pc + 1) Ls (.int (lcmpW x y) :: S))
  exact ow_if_eq C A hd1 ho hpY hpN (fun q => kY ((lw_eq x y).mp q)) (fun q => kN (fun z => q ((lw_eq x y).mpr z)))
theorem ow_icmp_ne (C : OwnCtx p s m meth c Z a0 tw y0 bytes ml ret) (A : OwnPos p l e R s m args below meth c h0 ws T h ck sk) {x y : Int32} {o : Int} {pcY pcN : Nat} (hd : decode bytes pc = .ok (.if_icmp .ne o, 3)) (ho : 0 ≤ (pc : Int) + o) (hpY : ((pc : Int) + o).toNat = pcY) (hpN : pc + 3 = pcN) (kY : ¬ (x = y) → OwnWP p e below s h0 ws Q CK SK T (mkF m pcY Ls S)) (kN : x = y → OwnWP p e below s h0 ws Q CK SK T (mkF m pcN Ls S)) : OwnWP p e below s h0 ws Q CK SK T (mkF m pc Ls (.int y :: .int x :: S)) := by
  obtain ⟨locs, X, -⟩ := A; subst hpN
  by_cases q : x = y
  · exact ow_st (fun _ k => XS.icmpNo X.here C.1 rfl (hb C.2.2.2.1 hd) rfl (teq q).2 k) (kN q)
  · exact ow_st (fun _ k => XS.icmpYes X.here C.1 rfl (pc0 := pc) (pc' := pcY) rfl (hb C.2.2.2.1 hd) rfl (feq q).2 ho hpY k) (kY q)
theorem ow_if_ne (C : OwnCtx p s m meth c Z a0 tw y0 bytes ml ret) (A : OwnPos p l e R s m args below meth c h0 ws T h ck sk) {x : Int32} {o : Int} {pcY pcN : Nat} (hd : decode bytes pc = .ok (.ifCond .ne o, 3)) (ho : 0 ≤ (pc : Int) + o) (hpY : ((pc : Int) + o).toNat = pcY) (hpN : pc + 3 = pcN) (kY : ¬ (x = 0) → OwnWP p e below s h0 ws Q CK SK T (mkF m pcY Ls S)) (kN : x = 0 → OwnWP p e below s h0 ws Q CK SK T (mkF m pcN Ls S)) : OwnWP p e below s h0 ws Q CK SK T (mkF m pc Ls (.int x :: S)) := by
  obtain ⟨locs, X, -⟩ := A; subst hpN
  by_cases q : x = 0
  · exact ow_st (fun _ k => XS.ifNo X.here C.1 rfl (hb C.2.2.2.1 hd) rfl ((if0 _ _).trans (teq q).2) k) (kN q)
  · exact ow_st (fun _ k => XS.ifYes X.here C.1 rfl (pc0 := pc) (pc' := pcY) rfl (hb C.2.2.2.1 hd) rfl ((if0 _ _).trans (feq q).2) ho hpY k) (kY q)
theorem ow_lcmp_ne (C : OwnCtx p s m meth c Z a0 tw y0 bytes ml ret) (A : OwnPos p l e R s m args below meth c h0 ws T h ck sk) {x y : Int64} {o : Int} {pc1 pcY pcN : Nat} (hd : decode bytes pc = .ok (.lcmp, 1)) (hp1 : pc + 1 = pc1) (hd1 : decode bytes pc1 = .ok (.ifCond .ne o, 3)) (ho : 0 ≤ (pc1 : Int) + o) (hpY : ((pc1 : Int) + o).toNat = pcY) (hpN : pc1 + 3 = pcN) (kY : ¬ (x = y) → OwnWP p e below s h0 ws Q CK SK T (mkF m pcY Ls S)) (kN : x = y → OwnWP p e below s h0 ws Q CK SK T (mkF m pcN Ls S)) : OwnWP p e below s h0 ws Q CK SK T (mkF m pc Ls (.long y :: .long x :: S)) := by
  have A' := A; obtain ⟨locs, X, -⟩ := A'; subst hp1
  refine ow_st (fun _ k => XS.lcmp X.here C.1 rfl (hb C.2.2.2.1 hd) rfl k) ?_
  show OwnWP p e below s h0 ws Q CK SK T (mkF m (pc + 1) Ls (.int (lcmpW x y) :: S))
  exact ow_if_ne C A hd1 ho hpY hpN (fun q => kY (fun z => q ((lw_eq x y).mpr z))) (fun q => kN ((lw_eq x y).mp q))
theorem ow_ifnonnullYes (C : OwnCtx p s m meth c Z a0 tw y0 bytes ml ret) (A : OwnPos p l e R s m args below meth c h0 ws T h ck sk) {o : Int} {b : Addr} (hd : decode bytes pc = .ok (.ifnonnull o, 3)) (ho : 0 ≤ (pc : Int) + o) (hp : ((pc : Int) + o).toNat = pc') (k : OwnWP p e below s h0 ws Q CK SK T (mkF m pc' Ls S)) : OwnWP p e below s h0 ws Q CK SK T (mkF m pc Ls (.ref b :: S)) := by
  obtain ⟨locs, X, -⟩ := A
  exact ow_st (fun _ k => XS.ifnonnullYes X.here C.1 rfl (pc0 := pc) (pc' := pc') rfl (hb C.2.2.2.1 hd) rfl ho hp k) k
theorem ow_ifnonnullNo (C : OwnCtx p s m meth c Z a0 tw y0 bytes ml ret) (A : OwnPos p l e R s m args below meth c h0 ws T h ck sk) {o : Int} (hd : decode bytes pc = .ok (.ifnonnull o, 3)) (hp : pc + 3 = pc') (k : OwnWP p e below s h0 ws Q CK SK T (mkF m pc' Ls S)) : OwnWP p e below s h0 ws Q CK SK T (mkF m pc Ls (.null :: S)) := by
  obtain ⟨locs, X, -⟩ := A; subst hp
  exact ow_st (fun _ k => XS.ifnonnullNo X.here C.1 rfl (hb C.2.2.2.1 hd) rfl k) k
theorem ow_ldcInt (C : OwnCtx p s m meth c Z a0 tw y0 bytes ml ret) (A : OwnPos p l e R s m args below meth c h0 ws T h ck sk) {i : Nat} {v : Int32} (w : Jvm.Cond.constant y0.cls i v ∈ tw) (hd : decode bytes pc = .ok (.ldc i, 2)) (hp : pc + 2 = pc') (k : OwnWP p e below s h0 ws Q CK SK T (mkF m pc' Ls (.int v :: S))) : OwnWP p e below s h0 ws Q CK SK T (mkF m pc Ls S) := by
  obtain ⟨locs, X, -⟩ := A; subst hp
  exact ow_st (X.ldcInt C.1 C.2.2.2.2.2.1 (mvT C.2.1 (C.2.2.1 _ w)) (g := mkF m pc Ls S) rfl (hb C.2.2.2.1 hd)) k
theorem ow_ldc2 (C : OwnCtx p s m meth c Z a0 tw y0 bytes ml ret) (A : OwnPos p l e R s m args below meth c h0 ws T h ck sk) {i : Nat} {v : Int64} (w : Jvm.Cond.constantLong y0.cls i v ∈ tw) (hd : decode bytes pc = .ok (.ldc2_w i, 3)) (hp : pc + 3 = pc') (k : OwnWP p e below s h0 ws Q CK SK T (mkF m pc' Ls (.long v :: S))) : OwnWP p e below s h0 ws Q CK SK T (mkF m pc Ls S) := by
  obtain ⟨locs, X, -⟩ := A; subst hp
  exact ow_st (X.ldc2Long C.1 C.2.2.2.2.2.1 (mvT C.2.1 (C.2.2.1 _ w)) (g := mkF m pc Ls S) rfl (hb C.2.2.2.1 hd)) k
theorem ow_getF (C : OwnCtx p s m meth c Z a0 tw y0 bytes ml ret) (A : OwnPos p l e R s m args below meth c h0 ws T h ck sk) {i : Nat} {R0 O n d : String} {a : Addr} {v : Value} (w : Jvm.Cond.fieldLink y0.cls i R0 n d ∈ tw) (via : Via Z R0 O n d) (F : Fld Z h a O n d v) (hd : decode bytes pc = .ok (.getfield i, 3)) (hp : pc + 3 = pc') (k : ∀ T', OwnPos p l e R s m args below meth c h0 ws T' h ck sk → OwnWP p e below s h0 ws Q CK SK T' (mkF m pc' Ls (v :: S))) : OwnWP p e below s h0 ws Q CK SK T (mkF m pc Ls (.ref a :: S)) := by
  obtain ⟨locs, X, e1, N, K⟩ := A; subst hp
  obtain ⟨T', X', e', st⟩ := getF X C.1 C.2.1 C.2.2.2.2.2.1 (host := "") (Or.inl (C.2.2.1 _ w)) via e1 F (g := mkF m pc Ls (.ref a :: S)) rfl rfl (hb C.2.2.2.1 hd)
  exact ow_st st (k T' ⟨locs, X', e', N, K⟩)
theorem ow_putF (C : OwnCtx p s m meth c Z a0 tw y0 bytes ml ret) (A : OwnPos p l e R s m args below meth c h0 ws T h ck sk) {i kk : Nat} {R0 O n d D : String} {a : Addr} {v old : Value} {ty : FieldType} (w : Jvm.Cond.fieldLink y0.cls i R0 n d ∈ tw) (via : Via Z R0 O n d) (F : Fld Z h a O n d old) (E : Exa Z h a D) (wl : Jvm.Cond.lays D O n d ∈ tw) (wi : Jvm.Cond.instantiable D kk ∈ tw) (hty : parseFieldDescriptor d = some ty) (hn : narrow ty v = v) (hf : fits ty v = true) (q : a ∈ ws ∨ h0.size ≤ a) (hd : decode bytes pc = .ok (.putfield i, 3)) (hp : pc + 3 = pc') (k : ∀ T' h', Wr h h' a (slotOf Z O n d) v → OwnPos p l e R s m args below meth c h0 ws T' h' ck sk → OwnWP p e below s h0 ws Q CK SK T' (mkF m pc' Ls S)) : OwnWP p e below s h0 ws Q CK SK T (mkF m pc Ls (v :: .ref a :: S)) := by
  obtain ⟨locs, X, e1, N, K⟩ := A; subst hp
  obtain ⟨T', h', X', e', W', st⟩ := putF X C.1 C.2.1 C.2.2.2.2.2.1 (host := "") (Or.inl (C.2.2.1 _ w)) via e1 F E (Or.inl (C.2.2.1 _ wl)) (C.2.2.1 _ wi) hty hn hf (g := mkF m pc Ls (v :: .ref a :: S)) rfl rfl (hb C.2.2.2.1 hd)
  exact ow_st st (k T' h' W' ⟨_, X', e', fun y hy => (List.mem_append.mp hy).elim (N y) fun z => by cases List.mem_singleton.mp z; exact q, K.wr W' q⟩)
theorem ow_putFin (C : OwnCtx p s m meth c Z a0 tw y0 bytes ml ret) (A : OwnPos p l e R s m args below meth c h0 ws T h ck sk) {i kk : Nat} {R0 O n d D : String} {a : Addr} {v old : Value} {ty : FieldType} (w : Jvm.Cond.fieldLink y0.cls i R0 n d ∈ tw) (via : Via Z R0 O n d) (F : Fld Z h a O n d old) (E : Exa Z h a D) (wl : Jvm.Cond.laysFinal D O n d ∈ tw) (hO : y0.cls = O) (hi : y0.name = "<init>") (wi : Jvm.Cond.instantiable D kk ∈ tw) (hty : parseFieldDescriptor d = some ty) (hn : narrow ty v = v) (hf : fits ty v = true) (q : a ∈ ws ∨ h0.size ≤ a) (hd : decode bytes pc = .ok (.putfield i, 3)) (hp : pc + 3 = pc') (k : ∀ T' h', Wr h h' a (slotOf Z O n d) v → OwnPos p l e R s m args below meth c h0 ws T' h' ck sk → OwnWP p e below s h0 ws Q CK SK T' (mkF m pc' Ls S)) : OwnWP p e below s h0 ws Q CK SK T (mkF m pc Ls (v :: .ref a :: S)) := by
  obtain ⟨locs, X, e1, N, K⟩ := A; subst hp
  obtain ⟨T', h', X', e', W', st⟩ := putF X C.1 C.2.1 C.2.2.2.2.2.1 (host := "") (Or.inl (C.2.2.1 _ w)) via e1 F E (Or.inr ⟨C.2.2.1 _ wl, hO, C.2.2.2.2.2.2.1.trans hi⟩) (C.2.2.1 _ wi) hty hn hf (g := mkF m pc Ls (v :: .ref a :: S)) rfl rfl (hb C.2.2.2.1 hd)
  exact ow_st st (k T' h' W' ⟨_, X', e', fun y hy => (List.mem_append.mp hy).elim (N y) fun z => by cases List.mem_singleton.mp z; exact q, K.wr W' q⟩)
theorem ow_new (C : OwnCtx p s m meth c Z a0 tw y0 bytes ml ret) (A : OwnPos p l e R s m args below meth c h0 ws T h ck sk) {i n ck' sk' : Nat} {D : String} (w : Jvm.Cond.classLink y0.cls i D ∈ tw) (wi : Jvm.Cond.instantiable D n ∈ tw) (wz : Jvm.Cond.initialized D ∈ tw) (hd : decode bytes pc = .ok (.new i, 3)) (hp : pc + 3 = pc') (hck : ck + 1 = ck') (hsk : sk + n = sk') (hc : ck' ≤ R.cells) (hs : sk' ≤ R.slots)
    (k : ∀ T' h' b, b = h.size → Ext h h' → Exa Z h' b D → (∀ {O nm d : String} {ty : FieldType}, Laid Z a0 D O nm d → parseFieldDescriptor d = some ty → Fld Z h' b O nm d (defaultValue ty)) → OwnPos p l e R s m args below meth c h0 ws T' h' ck' sk' → OwnWP p e below s h0 ws Q CK SK T' (mkF m pc' Ls (.ref b :: S))) : OwnWP p e below s h0 ws Q CK SK T (mkF m pc Ls S) := by
  obtain ⟨locs, X, e1, N, K⟩ := A; subst hp hck hsk
  obtain ⟨T', h', X', e', E', A', D', -, st⟩ := newO X C.1 C.2.1 C.2.2.2.2.2.1 (C.2.2.1 _ w) (C.2.2.1 _ wi) (C.2.2.1 _ wz) e1 (g := mkF m pc Ls S) rfl (hb C.2.2.2.1 hd) hc hs
  exact ow_st st (k T' h' h.size rfl E' A' D' ⟨locs, X', e', N, K.ext E'⟩)
theorem ow_newA (C : OwnCtx p s m meth c Z a0 tw y0 bytes ml ret) (A : OwnPos p l e R s m args below meth c h0 ws T h ck sk) {aty : ArrayType} {ty : FieldType} {n : Int32} {cap ck' sk' : Nat} (hty : newarray.typeOf aty = ty) (w : Jvm.Cond.arrayClass ty ∈ tw) (hd : decode bytes pc = .ok (.newarray aty, 2)) (hp : pc + 2 = pc') (hn : ¬ n < 0) (hcap : n.toNatClampNeg ≤ cap) (hb8 : cap * 8 ≤ 536870912) (hck : ck + 1 = ck') (hsk : sk + cap = sk') (hc : ck' ≤ R.cells) (hs : sk' ≤ R.slots)
    (k : ∀ T' h' b kk, b = h.size → Ext h h' → Arv Z h' b kk ty n [] (defaultValue ty) → OwnPos p l e R s m args below meth c h0 ws T' h' ck' sk' → OwnWP p e below s h0 ws Q CK SK T' (mkF m pc' Ls (.ref b :: S))) : OwnWP p e below s h0 ws Q CK SK T (mkF m pc Ls (.int n :: S)) := by
  obtain ⟨locs, X, e1, N, K⟩ := A; subst hp hck hsk hty
  obtain ⟨T', h', kk, X', e', E', A', st⟩ := newP X C.1 C.2.1 (C.2.2.1 _ w) e1 (g := mkF m pc Ls (.int n :: S)) rfl (hb C.2.2.2.1 hd) rfl hn (cap := cap) hcap hb8 hc hs
  exact ow_st st (k T' h' h.size kk rfl E' (Arv.new A' hn) ⟨locs, X', e', N, K.ext E'⟩)
theorem ow_alen (C : OwnCtx p s m meth c Z a0 tw y0 bytes ml ret) (A : OwnPos p l e R s m args below meth c h0 ws T h ck sk) {a : Addr} {kk : ClassId} {ty : FieldType} {n : Int32} {vs : List Value} {dv : Value} (V : Arv Z h a kk ty n vs dv) (hd : decode bytes pc = .ok (.arraylength, 1)) (hp : pc + 1 = pc') (k : OwnWP p e below s h0 ws Q CK SK T (mkF m pc' Ls (.int n :: S))) : OwnWP p e below s h0 ws Q CK SK T (mkF m pc Ls (.ref a :: S)) := by
  obtain ⟨locs, X, rfl, -⟩ := A; subst hp
  obtain ⟨cl, Ar, -, S1, N1, -, -⟩ := V
  refine ow_st (fun t k => X.arraylength C.1 Ar.1 (State.isArrayOf_alike C.2.1.alike Ar.2.1) (g := mkF m pc Ls (.ref a :: S)) rfl rfl (hb C.2.2.2.1 hd) t k) ?_
  rw [len_of S1 N1]; exact k
theorem ow_iaload (C : OwnCtx p s m meth c Z a0 tw y0 bytes ml ret) (A : OwnPos p l e R s m args below meth c h0 ws T h ck sk) {a : Addr} {kk : ClassId} {n j : Int32} {vs : List Value} {dv v : Value} (V : Arv Z h a kk .int n vs dv) (hj : ¬ j < 0 ∧ j < n) (hv : vs.getD j.toNatClampNeg dv = v) (hd : decode bytes pc = .ok (.iaload, 1)) (hp : pc + 1 = pc') (k : OwnWP p e below s h0 ws Q CK SK T (mkF m pc' Ls (v :: S))) : OwnWP p e below s h0 ws Q CK SK T (mkF m pc Ls (.int j :: .ref a :: S)) := by
  obtain ⟨locs, X, rfl, -⟩ := A; subst hp
  obtain ⟨cl, Ar, -, S1, N1, H1, -⟩ := V
  have hin := inb_of S1 hj
  exact ow_st (fun t k => X.iaload C.1 (j := j) (v := v) Ar.1 (State.isArrayOf_alike C.2.1.alike Ar.2.1) Ar.2.2 hin (H1.at hin hv) (g := mkF m pc Ls (.int j :: .ref a :: S)) rfl rfl (hb C.2.2.2.1 hd) t k) k
theorem ow_laload (C : OwnCtx p s m meth c Z a0 tw y0 bytes ml ret) (A : OwnPos p l e R s m args below meth c h0 ws T h ck sk) {a : Addr} {kk : ClassId} {n j : Int32} {vs : List Value} {dv v : Value} (V : Arv Z h a kk .long n vs dv) (hj : ¬ j < 0 ∧ j < n) (hv : vs.getD j.toNatClampNeg dv = v) (hd : decode bytes pc = .ok (.laload, 1)) (hp : pc + 1 = pc') (k : OwnWP p e below s h0 ws Q CK SK T (mkF m pc' Ls (v :: S))) : OwnWP p e below s h0 ws Q CK SK T (mkF m pc Ls (.int j :: .ref a :: S)) := by
  obtain ⟨locs, X, rfl, -⟩ := A; subst hp
  obtain ⟨cl, Ar, -, S1, N1, H1, -⟩ := V
  have hin := inb_of S1 hj
  exact ow_st (fun t k => X.laload C.1 (j := j) (v := v) Ar.1 (State.isArrayOf_alike C.2.1.alike Ar.2.1) Ar.2.2 hin (H1.at hin hv) (g := mkF m pc Ls (.int j :: .ref a :: S)) rfl rfl (hb C.2.2.2.1 hd) t k) k
theorem ow_baload (C : OwnCtx p s m meth c Z a0 tw y0 bytes ml ret) (A : OwnPos p l e R s m args below meth c h0 ws T h ck sk) {a : Addr} {kk : ClassId} {n j : Int32} {vs : List Value} {dv v : Value} (V : Arv Z h a kk .byte n vs dv) (hj : ¬ j < 0 ∧ j < n) (hv : vs.getD j.toNatClampNeg dv = v) (hd : decode bytes pc = .ok (.baload, 1)) (hp : pc + 1 = pc') (k : OwnWP p e below s h0 ws Q CK SK T (mkF m pc' Ls (v :: S))) : OwnWP p e below s h0 ws Q CK SK T (mkF m pc Ls (.int j :: .ref a :: S)) := by
  obtain ⟨locs, X, rfl, -⟩ := A; subst hp
  obtain ⟨cl, Ar, -, S1, N1, H1, -⟩ := V
  have hin := inb_of S1 hj
  exact ow_st (fun t k => X.baloadBytes C.1 (j := j) (v := v) Ar.1 (State.isArrayOf_alike C.2.1.alike Ar.2.1) Ar.2.2 hin (H1.at hin hv) (g := mkF m pc Ls (.int j :: .ref a :: S)) rfl rfl (hb C.2.2.2.1 hd) t k) k
theorem ow_iastore (C : OwnCtx p s m meth c Z a0 tw y0 bytes ml ret) (A : OwnPos p l e R s m args below meth c h0 ws T h ck sk) {a : Addr} {kk : ClassId} {n j : Int32} {x : Int32} {vs : List Value} {dv : Value} {i : Nat} (V : Arv Z h a kk .int n vs dv) (hj : ¬ j < 0 ∧ j < n) (hi : j.toNatClampNeg = i) (hl : i < vs.length) (q : a ∈ ws ∨ h0.size ≤ a) (hd : decode bytes pc = .ok (.iastore, 1)) (hp : pc + 1 = pc')
    (k : ∀ T' h', Wr h h' a j.toNatClampNeg (.int x) → Arv Z h' a kk .int n (vs.set i (.int x)) dv → OwnPos p l e R s m args below meth c h0 ws T' h' ck sk → OwnWP p e below s h0 ws Q CK SK T' (mkF m pc' Ls S)) : OwnWP p e below s h0 ws Q CK SK T (mkF m pc Ls (.int x :: .int j :: .ref a :: S)) := by
  obtain ⟨locs, X, e1, N, K⟩ := A; subst hp
  obtain ⟨cl, Ar, q1, S1, N1, H1, G1⟩ := V
  have hin := inb_of S1 hj
  obtain ⟨T', h', X', e', W', st⟩ := stI X C.1 C.2.1 e1 Ar (j := j) hin (g := mkF m pc Ls (.int x :: .int j :: .ref a :: S)) rfl rfl (hb C.2.2.2.1 hd)
  exact ow_st st (k T' h' W' (Arv.set Ar q1 S1 N1 H1 G1 rfl W' i hi hl) ⟨_, X', e', fun y hy => (List.mem_append.mp hy).elim (N y) fun z => by cases List.mem_singleton.mp z; exact q, K.wr W' q⟩)
theorem ow_lastore (C : OwnCtx p s m meth c Z a0 tw y0 bytes ml ret) (A : OwnPos p l e R s m args below meth c h0 ws T h ck sk) {a : Addr} {kk : ClassId} {n j : Int32} {x : Int64} {vs : List Value} {dv : Value} {i : Nat} (V : Arv Z h a kk .long n vs dv) (hj : ¬ j < 0 ∧ j < n) (hi : j.toNatClampNeg = i) (hl : i < vs.length) (q : a ∈ ws ∨ h0.size ≤ a) (hd : decode bytes pc = .ok (.lastore, 1)) (hp : pc + 1 = pc')
    (k : ∀ T' h', Wr h h' a j.toNatClampNeg (.long x) → Arv Z h' a kk .long n (vs.set i (.long x)) dv → OwnPos p l e R s m args below meth c h0 ws T' h' ck sk → OwnWP p e below s h0 ws Q CK SK T' (mkF m pc' Ls S)) : OwnWP p e below s h0 ws Q CK SK T (mkF m pc Ls (.long x :: .int j :: .ref a :: S)) := by
  obtain ⟨locs, X, e1, N, K⟩ := A; subst hp
  obtain ⟨cl, Ar, q1, S1, N1, H1, G1⟩ := V
  have hin := inb_of S1 hj
  obtain ⟨T', h', X', e', W', st⟩ := stJ X C.1 C.2.1 e1 Ar (j := j) hin (g := mkF m pc Ls (.long x :: .int j :: .ref a :: S)) rfl rfl (hb C.2.2.2.1 hd)
  exact ow_st st (k T' h' W' (Arv.set Ar q1 S1 N1 H1 G1 rfl W' i hi hl) ⟨_, X', e', fun y hy => (List.mem_append.mp hy).elim (N y) fun z => by cases List.mem_singleton.mp z; exact q, K.wr W' q⟩)
theorem ow_bastore (C : OwnCtx p s m meth c Z a0 tw y0 bytes ml ret) (A : OwnPos p l e R s m args below meth c h0 ws T h ck sk) {a : Addr} {kk : ClassId} {n j : Int32} {x : Int32} {vs : List Value} {dv : Value} {i : Nat} (V : Arv Z h a kk .byte n vs dv) (hj : ¬ j < 0 ∧ j < n) (hi : j.toNatClampNeg = i) (hl : i < vs.length) (q : a ∈ ws ∨ h0.size ≤ a) (hd : decode bytes pc = .ok (.bastore, 1)) (hp : pc + 1 = pc')
    (k : ∀ T' h', Wr h h' a j.toNatClampNeg (.int x.toInt8.toInt32) → Arv Z h' a kk .byte n (vs.set i (.int x.toInt8.toInt32)) dv → OwnPos p l e R s m args below meth c h0 ws T' h' ck sk → OwnWP p e below s h0 ws Q CK SK T' (mkF m pc' Ls S)) : OwnWP p e below s h0 ws Q CK SK T (mkF m pc Ls (.int x :: .int j :: .ref a :: S)) := by
  obtain ⟨locs, X, e1, N, K⟩ := A; subst hp
  obtain ⟨cl, Ar, q1, S1, N1, H1, G1⟩ := V
  have hin := inb_of S1 hj
  obtain ⟨T', h', X', e', W', st⟩ := stB X C.1 C.2.1 e1 Ar (j := j) hin (g := mkF m pc Ls (.int x :: .int j :: .ref a :: S)) rfl rfl (hb C.2.2.2.1 hd)
  exact ow_st st (k T' h' W' (Arv.set Ar q1 S1 N1 H1 G1 (fits_nar_byte _) W' i hi hl) ⟨_, X', e', fun y hy => (List.mem_append.mp hy).elim (N y) fun z => by cases List.mem_singleton.mp z; exact q, K.wr W' q⟩)
theorem ow_initO (C : OwnCtx p s m meth c Z a0 tw y0 bytes ml ret) (A : OwnPos p l e R s m args below meth c h0 ws T h ck sk) {i W : Nat} {a : Addr} (w1 : Jvm.Cond.methodLink y0.cls i Lib.objectInit ∈ tw) (w2 : Jvm.Cond.instanceMethod Lib.objectInit ∈ tw) (w3 : Jvm.Cond.code Lib.objectInit ⟨#[0xb1]⟩ 1 none ∈ tw) (hsz : Ls.size = ml) (hd : decode bytes pc = .ok (.invokespecial i, 3)) (hp : pc + 3 = pc') (hf : 1 ≤ R.frames) (hW : 2 * 0 + (S.map fun v => v.category).sum ≤ W) (hl : W + 12 ≤ R.locals) (k : ∀ T', OwnPos p l e R s m args below meth c h0 ws T' h ck sk → OwnWP p e below s h0 ws Q CK SK T' (mkF m pc' Ls S)) : OwnWP p e below s h0 ws Q CK SK T (mkF m pc Ls (.ref a :: S)) := by
  obtain ⟨locs, X, e1, N, K⟩ := A; subst hp
  obtain ⟨T', X', e', st⟩ := initO X C.1 C.2.1 C.2.2.2.2.2.1 (C.2.2.1 _ w1) (C.2.2.1 _ w2) (C.2.2.1 _ w3) e1 (g := mkF m pc Ls (.ref a :: S)) rfl (hsz.trans C.2.2.2.2.1.symm) rfl (hb C.2.2.2.1 hd) hf (W := W) hW hl
  exact ow_st st (k T' ⟨locs, X', e', N, K⟩)
theorem ow_callS (C : OwnCtx p s m meth c Z a0 tw y0 bytes ml ret) (A : OwnPos p l e R s m args below meth c h0 ws T h ck sk) {rm : Room} {cb : ByteArray} {cm : Nat} {cr : Option FieldType} {ws' : List Addr} {Q' : Option Value → Heap → Prop} {y : MethodName} {i W ck' sk' : Nat} {argsL : List Value} (hM : OwnCtr l Z y cb cm cr rm argsL.toArray h ws' Q' []) (w1 : Jvm.Cond.methodLink y0.cls i y ∈ tw) (w2 : Jvm.Cond.static y ∈ tw) (w3 : Jvm.Cond.initialized y.cls ∈ tw) (w4 : Jvm.Cond.code y cb cm cr ∈ tw) (hy : y.cls ≠ "java/lang/invoke/MethodHandle" ∧ y.cls ≠ "java/lang/invoke/VarHandle") (hq : ∀ x ∈ ws', x ∈ ws ∨ h0.size ≤ x) (hfr : rm.frames + 1 ≤ R.frames) (hlo : W + (cm + 11) + rm.locals ≤ R.locals) (hck : ck + rm.cells = ck') (hsk : sk + rm.slots = sk') (hc : ck' ≤ R.cells) (hs : sk' ≤ R.slots) (hsz : Ls.size = ml) (hlen : ∀ sig, parseMethodDescriptor y.desc = some sig → argsL.length = sig.parameters.length) {st0 : List Value} (hst : st0 = argsL.reverse ++ S) (hW : 2 * 0 + (S.map fun v => v.category).sum ≤ W) (hd : decode bytes pc = .ok (.invokestatic i, 3)) (hp : pc + 3 = pc') (k : ∀ T' v, Keep h T'.heap ws' → Q' v T'.heap → OwnPos p l e R s m args below meth c h0 ws T' T'.heap ck' sk' → OwnWP p e below s h0 ws Q CK SK T' (mkF m pc' Ls (v.toList ++ S))) : OwnWP p e below s h0 ws Q CK SK T (mkF m pc Ls st0) := by
  obtain ⟨locs, X, e1, N, K⟩ := A; subst hp hck hsk hst
  obtain ⟨v, _, ⟨T', L', k', n'⟩, -, X', ⟨Lc, ⟨hN, hKe, hQ⟩, hl, hc', hs'⟩, st⟩ := Jvm.LawKit.callS X C.1 (y := y) C.2.2.2.2.2.1 (mvT C.2.1 (C.2.2.1 _ w1)) (mvT C.2.1 (C.2.2.1 _ w2)) (mvT C.2.1 (C.2.2.1 _ w3)) (mvT C.2.1 (C.2.2.1 _ w4)) hy (backOf (W := W) (Q := fun v hh L => ((∀ y ∈ L, y.base ∈ ws' ∨ h.size ≤ y.base) ∧ Keep h hh ws' ∧ Q' v hh)) hM C.2.1 (C.2.2.1 _ w4) (C.2.2.1 _ w3) hfr hlo) (g := mkF m pc Ls (argsL.reverse ++ S)) rfl (hsz.trans C.2.2.2.2.1.symm) (argsL := argsL) (rest := S) hlen rfl hW (hb C.2.2.2.1 hd) (fun _ _ => ⟨rfl, e1, hc, hs⟩)
  dsimp only [Pt.U, Pt.locs, Pt.cells, Pt.slots] at X' hl hc' hs' st hN hKe hQ
  subst hl hc' hs'
  exact ow_st st (k T' v hKe hQ ⟨_, X', rfl, fun y hy => (List.mem_append.mp hy).elim (N y) fun z => (hN y z).elim (fun u => hq _ u) fun u => Or.inr (Nat.le_trans K.1 u), K.trans hKe hq⟩)
theorem ow_callI (C : OwnCtx p s m meth c Z a0 tw y0 bytes ml ret) (A : OwnPos p l e R s m args below meth c h0 ws T h ck sk) {rm : Room} {cb : ByteArray} {cm : Nat} {ws' : List Addr} {Q' : Option Value → Heap → Prop} {y : MethodName} {i W ck' sk' : Nat} {argsL : List Value} {a : Addr} (hM : OwnCtr l Z y cb cm none rm (.ref a :: argsL).toArray h ws' Q' []) (hy1 : y.name = "<init>") (w1 : Jvm.Cond.methodLink y0.cls i y ∈ tw) (w2 : Jvm.Cond.instanceMethod y ∈ tw) (w3 : Jvm.Cond.initialized y.cls ∈ tw) (w4 : Jvm.Cond.code y cb cm none ∈ tw) (hy : y.cls ≠ "java/lang/invoke/MethodHandle" ∧ y.cls ≠ "java/lang/invoke/VarHandle") (hq : ∀ x ∈ ws', x ∈ ws ∨ h0.size ≤ x) (hfr : rm.frames + 1 ≤ R.frames) (hlo : W + (cm + 11) + rm.locals ≤ R.locals) (hck : ck + rm.cells = ck') (hsk : sk + rm.slots = sk') (hc : ck' ≤ R.cells) (hs : sk' ≤ R.slots) (hsz : Ls.size = ml) (hlen : ∀ sig, parseMethodDescriptor y.desc = some sig → argsL.length = sig.parameters.length) {st0 : List Value} (hst : st0 = argsL.reverse ++ .ref a :: S) (hW : 2 * 0 + (S.map fun v => v.category).sum ≤ W) (hd : decode bytes pc = .ok (.invokespecial i, 3)) (hp : pc + 3 = pc') (k : ∀ T' v, Keep h T'.heap ws' → Q' v T'.heap → OwnPos p l e R s m args below meth c h0 ws T' T'.heap ck' sk' → OwnWP p e below s h0 ws Q CK SK T' (mkF m pc' Ls (v.toList ++ S))) : OwnWP p e below s h0 ws Q CK SK T (mkF m pc Ls st0) := by
  obtain ⟨locs, X, e1, N, K⟩ := A; subst hp hck hsk hst
  obtain ⟨v, _, ⟨T', L', k', n'⟩, -, X', ⟨Lc, ⟨hN, hKe, hQ⟩, hl, hc', hs'⟩, st⟩ := X.specialBack C.1 (y := y) hy1 C.2.2.2.2.2.1 (mvT C.2.1 (C.2.2.1 _ w1)) (mvT C.2.1 (C.2.2.1 _ w2)) (mvT C.2.1 (C.2.2.1 _ w4)) hy (backOf (W := W) (Q := fun v hh L => ((∀ y ∈ L, y.base ∈ ws' ∨ h.size ≤ y.base) ∧ Keep h hh ws' ∧ Q' v hh)) hM C.2.1 (C.2.2.1 _ w4) (C.2.2.1 _ w3) hfr hlo) (g := mkF m pc Ls (argsL.reverse ++ .ref a :: S)) rfl (hsz.trans C.2.2.2.2.1.symm) (Steps.refl _) (a := a) (argsL := argsL) (rest := S) hlen rfl hW (hb C.2.2.2.1 hd) (fun _ _ => ⟨rfl, e1, hc, hs⟩)
  dsimp only [Pt.U, Pt.locs, Pt.cells, Pt.slots] at X' hl hc' hs' st hN hKe hQ
  subst hl hc' hs'
  exact ow_stT st (k T' v hKe hQ ⟨_, X', rfl, fun y hy => (List.mem_append.mp hy).elim (N y) fun z => (hN y z).elim (fun u => hq _ u) fun u => Or.inr (Nat.le_trans K.1 u), K.trans hKe hq⟩)
theorem ow_callV (C : OwnCtx p s m meth c Z a0 tw y0 bytes ml ret) (A : OwnPos p l e R s m args below meth c h0 ws T h ck sk) {rm : Room} {cb : ByteArray} {cm : Nat} {cr : Option FieldType} {ws' : List Addr} {Q' : Option Value → Heap → Prop} {y : MethodName} {i W ck' sk' : Nat} {argsL : List Value} {z : MethodName} {D : String} {a : Addr} (E : Exa Z h a D) (hM : OwnCtr l Z z cb cm cr rm (.ref a :: argsL).toArray h ws' Q' []) (w1 : Jvm.Cond.methodLink y0.cls i y ∈ tw) (w5 : Jvm.Cond.declares y ∈ tw) (hnf : ∀ s : State, ∀ args : Array Value, Z.Warmed39 s.vm → NotFace s y) (w6 : Jvm.Cond.selects D y z ∈ tw) (w2 : Jvm.Cond.instanceMethod z ∈ tw) (w3 : Jvm.Cond.initialized z.cls ∈ tw) (w4 : Jvm.Cond.code z cb cm cr ∈ tw) (hy : y.cls ≠ "java/lang/invoke/MethodHandle" ∧ y.cls ≠ "java/lang/invoke/VarHandle") (hq : ∀ x ∈ ws', x ∈ ws ∨ h0.size ≤ x) (hfr : rm.frames + 1 ≤ R.frames) (hlo : W + (cm + 11) + rm.locals ≤ R.locals) (hck : ck + rm.cells = ck') (hsk : sk + rm.slots = sk') (hc : ck' ≤ R.cells) (hs : sk' ≤ R.slots) (hsz : Ls.size = ml) (hlen : ∀ sig, parseMethodDescriptor y.desc = some sig → argsL.length = sig.parameters.length) {st0 : List Value} (hst : st0 = argsL.reverse ++ .ref a :: S) (hW : 2 * 0 + (S.map fun v => v.category).sum ≤ W) (hd : decode bytes pc = .ok (.invokevirtual i, 3)) (hp : pc + 3 = pc') (k : ∀ T' v, Keep h T'.heap ws' → Q' v T'.heap → OwnPos p l e R s m args below meth c h0 ws T' T'.heap ck' sk' → OwnWP p e below s h0 ws Q CK SK T' (mkF m pc' Ls (v.toList ++ S))) : OwnWP p e below s h0 ws Q CK SK T (mkF m pc Ls st0) := by
  obtain ⟨locs, X, e1, N, K⟩ := A; subst hp hck hsk hst
  obtain ⟨cq, kq, qa, qb, qc⟩ := isOf C.2.1 e1 E
  obtain ⟨v, _, ⟨T', L', k', n'⟩, -, X', ⟨Lc, ⟨hN, hKe, hQ⟩, hl, hc', hs'⟩, st⟩ := X.virtualBack C.1 (y := y) (z := z) C.2.2.2.2.2.1 (mvT C.2.1 (C.2.2.1 _ w1)) (mvT C.2.1 (C.2.2.1 _ w5)) (hnf s #[] C.2.1) (mvT C.2.1 (C.2.2.1 _ w6)) (mvT C.2.1 (C.2.2.1 _ w2)) hy (backOf (W := W) (Q := fun v hh L => ((∀ y ∈ L, y.base ∈ ws' ∨ h.size ≤ y.base) ∧ Keep h hh ws' ∧ Q' v hh)) hM C.2.1 (C.2.2.1 _ w4) (C.2.2.1 _ w3) hfr hlo) qa qc (g := mkF m pc Ls (argsL.reverse ++ .ref a :: S)) rfl (hsz.trans C.2.2.2.2.1.symm) (Steps.refl _) (argsL := argsL) (rest := S) hlen rfl hW (hb C.2.2.2.1 hd) (fun _ _ => ⟨rfl, e1, hc, hs⟩)
  dsimp only [Pt.U, Pt.locs, Pt.cells, Pt.slots] at X' hl hc' hs' st hN hKe hQ
  subst hl hc' hs'
  exact ow_stT st (k T' v hKe hQ ⟨_, X', rfl, fun y hy => (List.mem_append.mp hy).elim (N y) fun z => (hN y z).elim (fun u => hq _ u) fun u => Or.inr (Nat.le_trans K.1 u), K.trans hKe hq⟩)
theorem ow_selP {y : MethodName} {n : Nat} (hy : y.cls ≠ "java/lang/invoke/MethodHandle" ∧ y.cls ≠ "java/lang/invoke/VarHandle") (hins : (Jvm.Cond.instantiable y.cls n).before args s = true) (hpriv : (Jvm.Cond.privateMethod y).before args s = true) (hinst : (Jvm.Cond.instanceMethod y).before args s = true) :
    (Jvm.Cond.selects y.cls y y).before args s = true := by
  obtain ⟨c, k, hc, hk, -, hniab, -, -⟩ := Cond.instantiable_spec hins
  have hni : k.isInterface = false := (Bool.or_eq_false_iff.mp hniab).1
  obtain ⟨mk, methM, hnamed, hmethM, -, -⟩ := Cond.instanceMethod_spec hinst
  have hfound : s.methodFound? y.cls y.name y.desc = some mk := State.methodFound?_of_named hnamed hy
  have hcls : mk.cls = c := Option.some.inj ((findClass_of_methodNamed hnamed).symm.trans hc)
  have hsel : selectMethod {} s.vm c mk = .method mk := selectMethod_private hmethM (Cond.privateMethod_at hpriv mk methM hnamed hmethM)
  simp only [Cond.before, Cond.holds, Cond.value, hc, hfound, hnamed, hsel, hcls, hk]
  simp; exact hni
theorem ow_callP (C : OwnCtx p s m meth c Z a0 tw y0 bytes ml ret) (A : OwnPos p l e R s m args below meth c h0 ws T h ck sk) {rm : Room} {cb : ByteArray} {cm : Nat} {cr : Option FieldType} {ws' : List Addr} {Q' : Option Value → Heap → Prop} {y : MethodName} {i W ck' sk' : Nat} {argsL : List Value} {D : String} {a : Addr} (E : Exa Z h a D) (hM : OwnCtr l Z y cb cm cr rm (.ref a :: argsL).toArray h ws' Q' []) (w1 : Jvm.Cond.methodLink y0.cls i y ∈ tw) (w5 : Jvm.Cond.privateMethod y ∈ tw) {ni : Nat} (w6 : Jvm.Cond.instantiable y.cls ni ∈ tw) (w2 : Jvm.Cond.instanceMethod y ∈ tw) (w3 : Jvm.Cond.initialized y.cls ∈ tw) (w4 : Jvm.Cond.code y cb cm cr ∈ tw) (hy : y.cls ≠ "java/lang/invoke/MethodHandle" ∧ y.cls ≠ "java/lang/invoke/VarHandle") (hq : ∀ x ∈ ws', x ∈ ws ∨ h0.size ≤ x) (hfr : rm.frames + 1 ≤ R.frames) (hlo : W + (cm + 11) + rm.locals ≤ R.locals) (hck : ck + rm.cells = ck') (hsk : sk + rm.slots = sk') (hc : ck' ≤ R.cells) (hs : sk' ≤ R.slots) (hsz : Ls.size = ml) (hlen : ∀ sig, parseMethodDescriptor y.desc = some sig → argsL.length = sig.parameters.length) {st0 : List Value} (hst : st0 = argsL.reverse ++ .ref a :: S) (hW : 2 * 0 + (S.map fun v => v.category).sum ≤ W) (hd : decode bytes pc = .ok (.invokevirtual i, 3)) (hp : pc + 3 = pc') (k : ∀ T' v, Keep h T'.heap ws' → Q' v T'.heap → OwnPos p l e R s m args below meth c h0 ws T' T'.heap ck' sk' → OwnWP p e below s h0 ws Q CK SK T' (mkF m pc' Ls (v.toList ++ S))) : OwnWP p e below s h0 ws Q CK SK T (mkF m pc Ls st0) := by
  obtain ⟨locs, X, e1, N, K⟩ := A; subst hp hck hsk hst
  obtain ⟨cq, qa, qb⟩ := E.cell
  obtain ⟨v, _, ⟨T', L', k', n'⟩, -, X', ⟨Lc, ⟨hN, hKe, hQ⟩, hl, hc', hs'⟩, st⟩ := X.privateBack C.1 (y := y) C.2.2.2.2.2.1 (mvT C.2.1 (C.2.2.1 _ w1)) (mvT C.2.1 (C.2.2.1 _ w2)) (ow_selP hy (mvT C.2.1 (C.2.2.1 _ w6)) (mvP C.2.1 (C.2.2.1 _ w5)) (mvT C.2.1 (C.2.2.1 _ w2))) (Cond.privateMethod_at (mvP C.2.1 (C.2.2.1 _ w5) (args := #[]))) (mvT C.2.1 (C.2.2.1 _ w4)) hy (backOf (W := W) (Q := fun v hh L => ((∀ y ∈ L, y.base ∈ ws' ∨ h.size ≤ y.base) ∧ Keep h hh ws' ∧ Q' v hh)) hM C.2.1 (C.2.2.1 _ w4) (C.2.2.1 _ w3) hfr hlo) (g := mkF m pc Ls (argsL.reverse ++ .ref a :: S)) rfl (hsz.trans C.2.2.2.2.1.symm) (Steps.refl _) (a := a) (by rw [e1]; exact qa) qb (argsL := argsL) (rest := S) hlen rfl hW (hb C.2.2.2.1 hd) (fun _ _ => ⟨rfl, e1, hc, hs⟩)
  dsimp only [Pt.U, Pt.locs, Pt.cells, Pt.slots] at X' hl hc' hs' st hN hKe hQ
  subst hl hc' hs'
  exact ow_stT st (k T' v hKe hQ ⟨_, X', rfl, fun y hy => (List.mem_append.mp hy).elim (N y) fun z => (hN y z).elim (fun u => hq _ u) fun u => Or.inr (Nat.le_trans K.1 u), K.trans hKe hq⟩)
theorem ow_nf {y : MethodName} {D : String} (hw : ∀ d ∈ tw, d.before a0 Z = true) (w6 : Jvm.Cond.selects D y y ∈ tw) : ∀ s : State, ∀ args : Array Value, Z.Warmed39 s.vm → NotFace s y := fun s args hZ => notFace_of_selects (args := args) (mvT hZ (hw _ w6))
theorem ow_acopy (C : OwnCtx p s m meth c Z a0 tw y0 bytes ml ret) (A : OwnPos p l e R s m args below meth c h0 [] T h ck sk) {i W : Nat} {a b : Addr} {kk kk' : ClassId} {ty : FieldType} {z z' sp dp nn : Int32} {vs vd us : List Value} {dv dd : Value} (w1 : Jvm.Cond.methodLink y0.cls i Jvm.Stand.acN ∈ tw) (w2 : Jvm.Cond.native Jvm.Stand.acN ∈ tw) (w3 : Jvm.Cond.static Jvm.Stand.acN ∈ tw) (w4 : Jvm.Cond.initialized "java/lang/System" ∈ tw) (VA : Arv Z h a kk ty z vs dv) (VB : Arv Z h b kk' ty z' vd dd) (hty : refKind ty = false) (h1 : ¬ sp < 0) (h2 : ¬ dp < 0) (h3 : ¬ nn < 0) (h4 : sp.toNatClampNeg + nn.toNatClampNeg ≤ z.toNatClampNeg) (h5 : dp.toNatClampNeg + nn.toNatClampNeg ≤ z'.toNatClampNeg) (hus : us = (List.range nn.toNatClampNeg).map fun i => vs.getD (sp.toNatClampNeg + i) dv) (hl : dp.toNatClampNeg + nn.toNatClampNeg ≤ vd.length) (q : h0.size ≤ b) (hsz : Ls.size = ml) (hd : decode bytes pc = .ok (.invokestatic i, 3)) (hp : pc + 3 = pc') (hf : 1 ≤ R.frames) (hW : 2 * 0 + (S.map fun v => v.category).sum ≤ W) (hlo : W + (nativeFrameWords "java/lang/System" "arraycopy" 5 + 11) ≤ R.locals)
    (k : ∀ T' h', Keep h h' [b] → Arv Z h' b kk' ty z' (vd.take dp.toNatClampNeg ++ us ++ vd.drop (dp.toNatClampNeg + nn.toNatClampNeg)) dd → OwnPos p l e R s m args below meth c h0 [] T' h' ck sk → OwnWP p e below s h0 [] Q CK SK T' (mkF m pc' Ls S)) : OwnWP p e below s h0 [] Q CK SK T (mkF m pc Ls (.int nn :: .int dp :: .ref b :: .int sp :: .ref a :: S)) := by
  obtain ⟨locs, X, e1, N, K⟩ := A; subst hp
  have N' : Fr h0.size locs := fun y hy => (N y hy).elim (fun u => nomatch u) id
  obtain ⟨T', h', L, X', e', N2, K2, V2, st⟩ := cpA X C.1 C.2.1 C.2.2.2.2.2.1 (C.2.2.1 _ w1) (C.2.2.1 _ w2) (C.2.2.1 _ w3) (C.2.2.1 _ w4) e1 VA VB (Or.inl ⟨rfl, hty⟩) h1 h2 h3 h4 h5 hus hl N' q (g := mkF m pc Ls (.int nn :: .int dp :: .ref b :: .int sp :: .ref a :: S)) rfl (hsz.trans C.2.2.2.2.1.symm) rfl (hb C.2.2.2.1 hd) hf (W := W) hW hlo
  exact ow_st st (k T' h' K2 V2 ⟨L, X', e', fun y hy => Or.inr (N2 y hy), K.trans K2 (allS (Or.inr q) all0)⟩)
end Own
end Jvm.RoadKit
namespace Jvm.Pilot.@@N@@
open Jvm Jvm.ClassFile Sem Op Lib Jvm.Free Jvm.Stand Jvm.LawKit Jvm.RoadKit Bundle Jvm.Pilot.@@N@@.Jvm.D
theorem tw_0 : (Jvm.Cond.classLink "com/example/phasorwire/phasorwire/RangeEncoderLengthBoundPinLaw" (10 : Nat) "com/example/phasorwire/phasorwire/RangeEncoder") ∈ tables_1 := List.mem_of_getElem? (i := 0) rfl
theorem tw_1 : (Jvm.Cond.instantiable "com/example/phasorwire/phasorwire/RangeEncoder" (6 : Nat)) ∈ tables_1 := List.mem_of_getElem? (i := 1) rfl
theorem tw_2 : (Jvm.Cond.initialized "com/example/phasorwire/phasorwire/RangeEncoder") ∈ tables_1 := List.mem_of_getElem? (i := 2) rfl
theorem tw_3 : (Jvm.Cond.methodLink "com/example/phasorwire/phasorwire/RangeEncoderLengthBoundPinLaw" (12 : Nat) ({ cls := "com/example/phasorwire/phasorwire/RangeEncoder", name := "<init>", desc := "()V" } : Jvm.MethodName)) ∈ tables_1 := List.mem_of_getElem? (i := 3) rfl
theorem tw_4 : (Jvm.Cond.instanceMethod ({ cls := "com/example/phasorwire/phasorwire/RangeEncoder", name := "<init>", desc := "()V" } : Jvm.MethodName)) ∈ tables_1 := List.mem_of_getElem? (i := 4) rfl
theorem tw_5 : (Jvm.Cond.code ({ cls := "com/example/phasorwire/phasorwire/RangeEncoder", name := "<init>", desc := "()V" } : Jvm.MethodName) prog_63_method_1_code (1 : Nat) (Option.none : Option Jvm.ClassFile.FieldType)) ∈ tables_1 := List.mem_of_getElem? (i := 5) rfl
theorem tw_6 : (Jvm.Cond.methodLink "com/example/phasorwire/phasorwire/RangeEncoder" (3 : Nat) ({ cls := "java/lang/Object", name := "<init>", desc := "()V" } : Jvm.MethodName)) ∈ tables_1 := List.mem_of_getElem? (i := 6) rfl
theorem tw_7 : (Jvm.Cond.instanceMethod ({ cls := "java/lang/Object", name := "<init>", desc := "()V" } : Jvm.MethodName)) ∈ tables_1 := List.mem_of_getElem? (i := 7) rfl
theorem tw_8 : (Jvm.Cond.code ({ cls := "java/lang/Object", name := "<init>", desc := "()V" } : Jvm.MethodName) object_method_1_code (1 : Nat) (Option.none : Option Jvm.ClassFile.FieldType)) ∈ tables_1 := List.mem_of_getElem? (i := 8) rfl
theorem tw_9 : (Jvm.Cond.constantLong "com/example/phasorwire/phasorwire/RangeEncoder" (9 : Nat) (4294967295 : Int64)) ∈ tables_1 := List.mem_of_getElem? (i := 9) rfl
theorem tw_10 : (Jvm.Cond.fieldLink "com/example/phasorwire/phasorwire/RangeEncoder" (11 : Nat) "com/example/phasorwire/phasorwire/RangeEncoder" "range" "J") ∈ tables_1 := List.mem_of_getElem? (i := 10) rfl
theorem tw_11 : (Jvm.Cond.lays "com/example/phasorwire/phasorwire/RangeEncoder" "com/example/phasorwire/phasorwire/RangeEncoder" "range" "J") ∈ tables_1 := List.mem_of_getElem? (i := 11) rfl
theorem tw_12 : (Jvm.Cond.fieldLink "com/example/phasorwire/phasorwire/RangeEncoder" (15 : Nat) "com/example/phasorwire/phasorwire/RangeEncoder" "held" "I") ∈ tables_1 := List.mem_of_getElem? (i := 12) rfl
theorem tw_13 : (Jvm.Cond.lays "com/example/phasorwire/phasorwire/RangeEncoder" "com/example/phasorwire/phasorwire/RangeEncoder" "held" "I") ∈ tables_1 := List.mem_of_getElem? (i := 13) rfl
theorem tw_14 : (Jvm.Cond.arrayClass Jvm.ClassFile.FieldType.byte) ∈ tables_1 := List.mem_of_getElem? (i := 14) rfl
theorem tw_15 : (Jvm.Cond.fieldLink "com/example/phasorwire/phasorwire/RangeEncoder" (19 : Nat) "com/example/phasorwire/phasorwire/RangeEncoder" "bytes" "[B") ∈ tables_1 := List.mem_of_getElem? (i := 15) rfl
theorem tw_16 : (Jvm.Cond.lays "com/example/phasorwire/phasorwire/RangeEncoder" "com/example/phasorwire/phasorwire/RangeEncoder" "bytes" "[B") ∈ tables_1 := List.mem_of_getElem? (i := 16) rfl
theorem tw_17 : (Jvm.Cond.constantLong "com/example/phasorwire/phasorwire/RangeEncoderLengthBoundPinLaw" (13 : Nat) (4294967295 : Int64)) ∈ tables_1 := List.mem_of_getElem? (i := 17) rfl
theorem tw_18 : (Jvm.Cond.constantLong "com/example/phasorwire/phasorwire/RangeEncoderLengthBoundPinLaw" (15 : Nat) (4 : Int64)) ∈ tables_1 := List.mem_of_getElem? (i := 18) rfl
theorem tw_19 : (Jvm.Cond.methodLink "com/example/phasorwire/phasorwire/RangeEncoderLengthBoundPinLaw" (17 : Nat) ({ cls := "com/example/phasorwire/phasorwire/RangeEncoder", name := "lengthBound", desc := "()J" } : Jvm.MethodName)) ∈ tables_1 := List.mem_of_getElem? (i := 19) rfl
theorem tw_20 : (Jvm.Cond.declares ({ cls := "com/example/phasorwire/phasorwire/RangeEncoder", name := "lengthBound", desc := "()J" } : Jvm.MethodName)) ∈ tables_1 := List.mem_of_getElem? (i := 20) rfl
theorem tw_21 : (Jvm.Cond.instanceMethod ({ cls := "com/example/phasorwire/phasorwire/RangeEncoder", name := "lengthBound", desc := "()J" } : Jvm.MethodName)) ∈ tables_1 := List.mem_of_getElem? (i := 21) rfl
theorem tw_22 : (Jvm.Cond.selects "com/example/phasorwire/phasorwire/RangeEncoder" ({ cls := "com/example/phasorwire/phasorwire/RangeEncoder", name := "lengthBound", desc := "()J" } : Jvm.MethodName) ({ cls := "com/example/phasorwire/phasorwire/RangeEncoder", name := "lengthBound", desc := "()J" } : Jvm.MethodName)) ∈ tables_1 := List.mem_of_getElem? (i := 22) rfl
theorem tw_23 : (Jvm.Cond.code ({ cls := "com/example/phasorwire/phasorwire/RangeEncoder", name := "lengthBound", desc := "()J" } : Jvm.MethodName) prog_63_method_3_code (1 : Nat) (Option.some Jvm.ClassFile.FieldType.long)) ∈ tables_1 := List.mem_of_getElem? (i := 23) rfl
theorem tw_24 : (Jvm.Cond.fieldLink "com/example/phasorwire/phasorwire/RangeEncoder" (35 : Nat) "com/example/phasorwire/phasorwire/RangeEncoder" "length" "I") ∈ tables_1 := List.mem_of_getElem? (i := 24) rfl
theorem tw_25 : (Jvm.Cond.lays "com/example/phasorwire/phasorwire/RangeEncoder" "com/example/phasorwire/phasorwire/RangeEncoder" "length" "I") ∈ tables_1 := List.mem_of_getElem? (i := 25) rfl
theorem tw_26 : (Jvm.Cond.fieldLink "com/example/phasorwire/phasorwire/RangeEncoder" (38 : Nat) "com/example/phasorwire/phasorwire/RangeEncoder" "heldOnes" "J") ∈ tables_1 := List.mem_of_getElem? (i := 26) rfl
theorem tw_27 : (Jvm.Cond.lays "com/example/phasorwire/phasorwire/RangeEncoder" "com/example/phasorwire/phasorwire/RangeEncoder" "heldOnes" "J") ∈ tables_1 := List.mem_of_getElem? (i := 27) rfl
theorem tw_28 : (Jvm.Cond.constantLong "com/example/phasorwire/phasorwire/RangeEncoder" (41 : Nat) (4 : Int64)) ∈ tables_1 := List.mem_of_getElem? (i := 28) rfl
theorem tw_29 : (Jvm.Cond.methodLink "com/example/phasorwire/phasorwire/RangeEncoderLengthBoundPinLaw" (21 : Nat) ({ cls := "com/example/phasorwire/phasorwire/RangeEncoderLengthBoundPinLaw", name := "prob", desc := "(I)I" } : Jvm.MethodName)) ∈ tables_1 := List.mem_of_getElem? (i := 29) rfl
theorem tw_30 : (Jvm.Cond.static ({ cls := "com/example/phasorwire/phasorwire/RangeEncoderLengthBoundPinLaw", name := "prob", desc := "(I)I" } : Jvm.MethodName)) ∈ tables_1 := List.mem_of_getElem? (i := 30) rfl
theorem tw_31 : (Jvm.Cond.initialized "com/example/phasorwire/phasorwire/RangeEncoderLengthBoundPinLaw") ∈ tables_1 := List.mem_of_getElem? (i := 31) rfl
theorem tw_32 : (Jvm.Cond.code ({ cls := "com/example/phasorwire/phasorwire/RangeEncoderLengthBoundPinLaw", name := "prob", desc := "(I)I" } : Jvm.MethodName) method_2_code (1 : Nat) (Option.some Jvm.ClassFile.FieldType.int)) ∈ tables_1 := List.mem_of_getElem? (i := 32) rfl
theorem tw_33 : (Jvm.Cond.constant "com/example/phasorwire/phasorwire/RangeEncoderLengthBoundPinLaw" (7 : Nat) (2147483647 : Int32)) ∈ tables_1 := List.mem_of_getElem? (i := 33) rfl
theorem tw_34 : (Jvm.Cond.methodLink "com/example/phasorwire/phasorwire/RangeEncoderLengthBoundPinLaw" (27 : Nat) ({ cls := "com/example/phasorwire/phasorwire/RangeEncoder", name := "encode", desc := "(IZ)V" } : Jvm.MethodName)) ∈ tables_1 := List.mem_of_getElem? (i := 34) rfl
theorem tw_35 : (Jvm.Cond.declares ({ cls := "com/example/phasorwire/phasorwire/RangeEncoder", name := "encode", desc := "(IZ)V" } : Jvm.MethodName)) ∈ tables_1 := List.mem_of_getElem? (i := 35) rfl
theorem tw_36 : (Jvm.Cond.instanceMethod ({ cls := "com/example/phasorwire/phasorwire/RangeEncoder", name := "encode", desc := "(IZ)V" } : Jvm.MethodName)) ∈ tables_1 := List.mem_of_getElem? (i := 36) rfl
theorem tw_37 : (Jvm.Cond.selects "com/example/phasorwire/phasorwire/RangeEncoder" ({ cls := "com/example/phasorwire/phasorwire/RangeEncoder", name := "encode", desc := "(IZ)V" } : Jvm.MethodName) ({ cls := "com/example/phasorwire/phasorwire/RangeEncoder", name := "encode", desc := "(IZ)V" } : Jvm.MethodName)) ∈ tables_1 := List.mem_of_getElem? (i := 37) rfl
theorem tw_38 : (Jvm.Cond.code ({ cls := "com/example/phasorwire/phasorwire/RangeEncoder", name := "encode", desc := "(IZ)V" } : Jvm.MethodName) prog_63_method_2_code (7 : Nat) (Option.none : Option Jvm.ClassFile.FieldType)) ∈ tables_1 := List.mem_of_getElem? (i := 38) rfl
theorem tw_39 : (Jvm.Cond.fieldLink "com/example/phasorwire/phasorwire/RangeEncoder" (25 : Nat) "com/example/phasorwire/phasorwire/RangeEncoder" "low" "J") ∈ tables_1 := List.mem_of_getElem? (i := 39) rfl
theorem tw_40 : (Jvm.Cond.lays "com/example/phasorwire/phasorwire/RangeEncoder" "com/example/phasorwire/phasorwire/RangeEncoder" "low" "J") ∈ tables_1 := List.mem_of_getElem? (i := 40) rfl
theorem tw_41 : (Jvm.Cond.constantLong "com/example/phasorwire/phasorwire/RangeEncoder" (28 : Nat) (2 : Int64)) ∈ tables_1 := List.mem_of_getElem? (i := 41) rfl
theorem tw_42 : (Jvm.Cond.constantLong "com/example/phasorwire/phasorwire/RangeEncoder" (30 : Nat) (16777216 : Int64)) ∈ tables_1 := List.mem_of_getElem? (i := 42) rfl
theorem tw_43 : (Jvm.Cond.methodLink "com/example/phasorwire/phasorwire/RangeEncoder" (32 : Nat) ({ cls := "com/example/phasorwire/phasorwire/RangeEncoder", name := "shift", desc := "()V" } : Jvm.MethodName)) ∈ tables_1 := List.mem_of_getElem? (i := 43) rfl
theorem tw_44 : (Jvm.Cond.instanceMethod ({ cls := "com/example/phasorwire/phasorwire/RangeEncoder", name := "shift", desc := "()V" } : Jvm.MethodName)) ∈ tables_1 := List.mem_of_getElem? (i := 44) rfl
theorem tw_45 : (Jvm.Cond.privateMethod ({ cls := "com/example/phasorwire/phasorwire/RangeEncoder", name := "shift", desc := "()V" } : Jvm.MethodName)) ∈ tables_1 := List.mem_of_getElem? (i := 45) rfl
theorem tw_46 : (Jvm.Cond.code ({ cls := "com/example/phasorwire/phasorwire/RangeEncoder", name := "shift", desc := "()V" } : Jvm.MethodName) prog_63_method_5_code (2 : Nat) (Option.none : Option Jvm.ClassFile.FieldType)) ∈ tables_1 := List.mem_of_getElem? (i := 46) rfl
theorem tw_47 : (Jvm.Cond.constantLong "com/example/phasorwire/phasorwire/RangeEncoder" (49 : Nat) (4278190080 : Int64)) ∈ tables_1 := List.mem_of_getElem? (i := 47) rfl
theorem tw_48 : (Jvm.Cond.constantLong "com/example/phasorwire/phasorwire/RangeEncoder" (57 : Nat) (16777215 : Int64)) ∈ tables_1 := List.mem_of_getElem? (i := 48) rfl
theorem tw_49 : (Jvm.Cond.methodLink "com/example/phasorwire/phasorwire/RangeEncoderLengthBoundPinLaw" (31 : Nat) ({ cls := "com/example/phasorwire/phasorwire/RangeEncoderLengthBoundPinLaw", name := "raw", desc := "(JIZ)J" } : Jvm.MethodName)) ∈ tables_1 := List.mem_of_getElem? (i := 49) rfl
theorem tw_50 : (Jvm.Cond.static ({ cls := "com/example/phasorwire/phasorwire/RangeEncoderLengthBoundPinLaw", name := "raw", desc := "(JIZ)J" } : Jvm.MethodName)) ∈ tables_1 := List.mem_of_getElem? (i := 50) rfl
theorem tw_51 : (Jvm.Cond.code ({ cls := "com/example/phasorwire/phasorwire/RangeEncoderLengthBoundPinLaw", name := "raw", desc := "(JIZ)J" } : Jvm.MethodName) method_3_code (6 : Nat) (Option.some Jvm.ClassFile.FieldType.long)) ∈ tables_1 := List.mem_of_getElem? (i := 51) rfl
theorem tw_52 : (Jvm.Cond.methodLink "com/example/phasorwire/phasorwire/RangeEncoderLengthBoundPinLaw" (35 : Nat) ({ cls := "com/example/phasorwire/phasorwire/RangeEncoderLengthBoundPinLaw", name := "shifts", desc := "(J)I" } : Jvm.MethodName)) ∈ tables_1 := List.mem_of_getElem? (i := 52) rfl
theorem tw_53 : (Jvm.Cond.static ({ cls := "com/example/phasorwire/phasorwire/RangeEncoderLengthBoundPinLaw", name := "shifts", desc := "(J)I" } : Jvm.MethodName)) ∈ tables_1 := List.mem_of_getElem? (i := 53) rfl
theorem tw_54 : (Jvm.Cond.code ({ cls := "com/example/phasorwire/phasorwire/RangeEncoderLengthBoundPinLaw", name := "shifts", desc := "(J)I" } : Jvm.MethodName) method_4_code (2 : Nat) (Option.some Jvm.ClassFile.FieldType.int)) ∈ tables_1 := List.mem_of_getElem? (i := 54) rfl
theorem tw_55 : (Jvm.Cond.constantLong "com/example/phasorwire/phasorwire/RangeEncoderLengthBoundPinLaw" (8 : Nat) (16777216 : Int64)) ∈ tables_1 := List.mem_of_getElem? (i := 55) rfl
theorem tw_56 : (Jvm.Cond.methodLink "com/example/phasorwire/phasorwire/RangeEncoder" (53 : Nat) ({ cls := "com/example/phasorwire/phasorwire/RangeEncoder", name := "write", desc := "(I)V" } : Jvm.MethodName)) ∈ tables_1 := List.mem_of_getElem? (i := 56) rfl
theorem tw_57 : (Jvm.Cond.instanceMethod ({ cls := "com/example/phasorwire/phasorwire/RangeEncoder", name := "write", desc := "(I)V" } : Jvm.MethodName)) ∈ tables_1 := List.mem_of_getElem? (i := 57) rfl
theorem tw_58 : (Jvm.Cond.privateMethod ({ cls := "com/example/phasorwire/phasorwire/RangeEncoder", name := "write", desc := "(I)V" } : Jvm.MethodName)) ∈ tables_1 := List.mem_of_getElem? (i := 58) rfl
theorem tw_59 : (Jvm.Cond.code ({ cls := "com/example/phasorwire/phasorwire/RangeEncoder", name := "write", desc := "(I)V" } : Jvm.MethodName) prog_63_method_6_code (2 : Nat) (Option.none : Option Jvm.ClassFile.FieldType)) ∈ tables_1 := List.mem_of_getElem? (i := 59) rfl
theorem tw_60 : (Jvm.Cond.methodLink "com/example/phasorwire/phasorwire/RangeEncoderLengthBoundPinLaw" (39 : Nat) ({ cls := "com/example/phasorwire/phasorwire/RangeEncoder", name := "finish", desc := "()[B" } : Jvm.MethodName)) ∈ tables_1 := List.mem_of_getElem? (i := 60) rfl
theorem tw_61 : (Jvm.Cond.declares ({ cls := "com/example/phasorwire/phasorwire/RangeEncoder", name := "finish", desc := "()[B" } : Jvm.MethodName)) ∈ tables_1 := List.mem_of_getElem? (i := 61) rfl
theorem tw_62 : (Jvm.Cond.instanceMethod ({ cls := "com/example/phasorwire/phasorwire/RangeEncoder", name := "finish", desc := "()[B" } : Jvm.MethodName)) ∈ tables_1 := List.mem_of_getElem? (i := 62) rfl
theorem tw_63 : (Jvm.Cond.selects "com/example/phasorwire/phasorwire/RangeEncoder" ({ cls := "com/example/phasorwire/phasorwire/RangeEncoder", name := "finish", desc := "()[B" } : Jvm.MethodName) ({ cls := "com/example/phasorwire/phasorwire/RangeEncoder", name := "finish", desc := "()[B" } : Jvm.MethodName)) ∈ tables_1 := List.mem_of_getElem? (i := 63) rfl
theorem tw_64 : (Jvm.Cond.code ({ cls := "com/example/phasorwire/phasorwire/RangeEncoder", name := "finish", desc := "()[B" } : Jvm.MethodName) prog_63_method_4_code (7 : Nat) (Option.some (Jvm.ClassFile.FieldType.array Jvm.ClassFile.FieldType.byte))) ∈ tables_1 := List.mem_of_getElem? (i := 64) rfl
theorem tw_65 : (Jvm.Cond.methodLink "com/example/phasorwire/phasorwire/RangeEncoder" (43 : Nat) ({ cls := "java/util/Arrays", name := "copyOf", desc := "([BI)[B" } : Jvm.MethodName)) ∈ tables_1 := List.mem_of_getElem? (i := 65) rfl
theorem tw_66 : (Jvm.Cond.static ({ cls := "java/util/Arrays", name := "copyOf", desc := "([BI)[B" } : Jvm.MethodName)) ∈ tables_1 := List.mem_of_getElem? (i := 66) rfl
theorem tw_67 : (Jvm.Cond.initialized "java/util/Arrays") ∈ tables_1 := List.mem_of_getElem? (i := 67) rfl
theorem tw_68 : (Jvm.Cond.code ({ cls := "java/util/Arrays", name := "copyOf", desc := "([BI)[B" } : Jvm.MethodName) jdk_65_method_121_code (3 : Nat) (Option.some (Jvm.ClassFile.FieldType.array Jvm.ClassFile.FieldType.byte))) ∈ tables_1 := List.mem_of_getElem? (i := 68) rfl
theorem tw_69 : (Jvm.Cond.methodLink "java/util/Arrays" (304 : Nat) ({ cls := "java/lang/Math", name := "min", desc := "(II)I" } : Jvm.MethodName)) ∈ tables_1 := List.mem_of_getElem? (i := 69) rfl
theorem tw_70 : (Jvm.Cond.static ({ cls := "java/lang/Math", name := "min", desc := "(II)I" } : Jvm.MethodName)) ∈ tables_1 := List.mem_of_getElem? (i := 70) rfl
theorem tw_71 : (Jvm.Cond.initialized "java/lang/Math") ∈ tables_1 := List.mem_of_getElem? (i := 71) rfl
theorem tw_72 : (Jvm.Cond.code ({ cls := "java/lang/Math", name := "min", desc := "(II)I" } : Jvm.MethodName) jdk_29_method_69_code (2 : Nat) (Option.some Jvm.ClassFile.FieldType.int)) ∈ tables_1 := List.mem_of_getElem? (i := 72) rfl
theorem tw_73 : (Jvm.Cond.methodLink "java/util/Arrays" (150 : Nat) ({ cls := "java/lang/System", name := "arraycopy", desc := "(Ljava/lang/Object;ILjava/lang/Object;II)V" } : Jvm.MethodName)) ∈ tables_1 := List.mem_of_getElem? (i := 73) rfl
theorem tw_74 : (Jvm.Cond.static ({ cls := "java/lang/System", name := "arraycopy", desc := "(Ljava/lang/Object;ILjava/lang/Object;II)V" } : Jvm.MethodName)) ∈ tables_1 := List.mem_of_getElem? (i := 74) rfl
theorem tw_75 : (Jvm.Cond.initialized "java/lang/System") ∈ tables_1 := List.mem_of_getElem? (i := 75) rfl
theorem tw_76 : (Jvm.Cond.native ({ cls := "java/lang/System", name := "arraycopy", desc := "(Ljava/lang/Object;ILjava/lang/Object;II)V" } : Jvm.MethodName)) ∈ tables_1 := List.mem_of_getElem? (i := 76) rfl
theorem tw_77 : (Jvm.Cond.constantLong "com/example/phasorwire/phasorwire/RangeEncoder" (23 : Nat) (-1 : Int64)) ∈ tables_1 := List.mem_of_getElem? (i := 77) rfl
theorem tw_78 : (Jvm.Cond.constantLong "com/example/phasorwire/phasorwire/RangeEncoder" (51 : Nat) (4294967296 : Int64)) ∈ tables_1 := List.mem_of_getElem? (i := 78) rfl
theorem sn_0 {Z : State} {a0 : Array Value} (hw : ∀ d ∈ tables_1, d.before a0 Z = true) : Jvm.RoadKit.slotOf Z "com/example/phasorwire/phasorwire/RangeEncoder" "held" "I" ≠ Jvm.RoadKit.slotOf Z "com/example/phasorwire/phasorwire/RangeEncoder" "range" "J" := Jvm.RoadKit.slot_ne (Or.inl (hw _ tw_13)) (Or.inl (hw _ tw_11)) (by decide) (t := .int) (t' := .long) (by decide) (by decide)
theorem sn_1 {Z : State} {a0 : Array Value} (hw : ∀ d ∈ tables_1, d.before a0 Z = true) : Jvm.RoadKit.slotOf Z "com/example/phasorwire/phasorwire/RangeEncoder" "bytes" "[B" ≠ Jvm.RoadKit.slotOf Z "com/example/phasorwire/phasorwire/RangeEncoder" "range" "J" := Jvm.RoadKit.slot_ne (Or.inl (hw _ tw_16)) (Or.inl (hw _ tw_11)) (by decide) (t := (.array .byte)) (t' := .long) (by decide) (by decide)
theorem sn_2 {Z : State} {a0 : Array Value} (hw : ∀ d ∈ tables_1, d.before a0 Z = true) : Jvm.RoadKit.slotOf Z "com/example/phasorwire/phasorwire/RangeEncoder" "bytes" "[B" ≠ Jvm.RoadKit.slotOf Z "com/example/phasorwire/phasorwire/RangeEncoder" "held" "I" := Jvm.RoadKit.slot_ne (Or.inl (hw _ tw_16)) (Or.inl (hw _ tw_13)) (by decide) (t := (.array .byte)) (t' := .int) (by decide) (by decide)
theorem sn_3 {Z : State} {a0 : Array Value} (hw : ∀ d ∈ tables_1, d.before a0 Z = true) : Jvm.RoadKit.slotOf Z "com/example/phasorwire/phasorwire/RangeEncoder" "low" "J" ≠ Jvm.RoadKit.slotOf Z "com/example/phasorwire/phasorwire/RangeEncoder" "range" "J" := Jvm.RoadKit.slot_ne (Or.inl (hw _ tw_40)) (Or.inl (hw _ tw_11)) (by decide) (t := .long) (t' := .long) (by decide) (by decide)
theorem sn_4 {Z : State} {a0 : Array Value} (hw : ∀ d ∈ tables_1, d.before a0 Z = true) : Jvm.RoadKit.slotOf Z "com/example/phasorwire/phasorwire/RangeEncoder" "low" "J" ≠ Jvm.RoadKit.slotOf Z "com/example/phasorwire/phasorwire/RangeEncoder" "held" "I" := Jvm.RoadKit.slot_ne (Or.inl (hw _ tw_40)) (Or.inl (hw _ tw_13)) (by decide) (t := .long) (t' := .int) (by decide) (by decide)
theorem sn_5 {Z : State} {a0 : Array Value} (hw : ∀ d ∈ tables_1, d.before a0 Z = true) : Jvm.RoadKit.slotOf Z "com/example/phasorwire/phasorwire/RangeEncoder" "low" "J" ≠ Jvm.RoadKit.slotOf Z "com/example/phasorwire/phasorwire/RangeEncoder" "bytes" "[B" := Jvm.RoadKit.slot_ne (Or.inl (hw _ tw_40)) (Or.inl (hw _ tw_16)) (by decide) (t := .long) (t' := (.array .byte)) (by decide) (by decide)
theorem sn_6 {Z : State} {a0 : Array Value} (hw : ∀ d ∈ tables_1, d.before a0 Z = true) : Jvm.RoadKit.slotOf Z "com/example/phasorwire/phasorwire/RangeEncoder" "range" "J" ≠ Jvm.RoadKit.slotOf Z "com/example/phasorwire/phasorwire/RangeEncoder" "held" "I" := Jvm.RoadKit.slot_ne (Or.inl (hw _ tw_11)) (Or.inl (hw _ tw_13)) (by decide) (t := .long) (t' := .int) (by decide) (by decide)
theorem sn_7 {Z : State} {a0 : Array Value} (hw : ∀ d ∈ tables_1, d.before a0 Z = true) : Jvm.RoadKit.slotOf Z "com/example/phasorwire/phasorwire/RangeEncoder" "range" "J" ≠ Jvm.RoadKit.slotOf Z "com/example/phasorwire/phasorwire/RangeEncoder" "bytes" "[B" := Jvm.RoadKit.slot_ne (Or.inl (hw _ tw_11)) (Or.inl (hw _ tw_16)) (by decide) (t := .long) (t' := (.array .byte)) (by decide) (by decide)
theorem sn_8 {Z : State} {a0 : Array Value} (hw : ∀ d ∈ tables_1, d.before a0 Z = true) : Jvm.RoadKit.slotOf Z "com/example/phasorwire/phasorwire/RangeEncoder" "held" "I" ≠ Jvm.RoadKit.slotOf Z "com/example/phasorwire/phasorwire/RangeEncoder" "bytes" "[B" := Jvm.RoadKit.slot_ne (Or.inl (hw _ tw_13)) (Or.inl (hw _ tw_16)) (by decide) (t := .int) (t' := (.array .byte)) (by decide) (by decide)
theorem sn_9 {Z : State} {a0 : Array Value} (hw : ∀ d ∈ tables_1, d.before a0 Z = true) : Jvm.RoadKit.slotOf Z "com/example/phasorwire/phasorwire/RangeEncoder" "heldOnes" "J" ≠ Jvm.RoadKit.slotOf Z "com/example/phasorwire/phasorwire/RangeEncoder" "range" "J" := Jvm.RoadKit.slot_ne (Or.inl (hw _ tw_27)) (Or.inl (hw _ tw_11)) (by decide) (t := .long) (t' := .long) (by decide) (by decide)
theorem sn_10 {Z : State} {a0 : Array Value} (hw : ∀ d ∈ tables_1, d.before a0 Z = true) : Jvm.RoadKit.slotOf Z "com/example/phasorwire/phasorwire/RangeEncoder" "heldOnes" "J" ≠ Jvm.RoadKit.slotOf Z "com/example/phasorwire/phasorwire/RangeEncoder" "held" "I" := Jvm.RoadKit.slot_ne (Or.inl (hw _ tw_27)) (Or.inl (hw _ tw_13)) (by decide) (t := .long) (t' := .int) (by decide) (by decide)
theorem sn_11 {Z : State} {a0 : Array Value} (hw : ∀ d ∈ tables_1, d.before a0 Z = true) : Jvm.RoadKit.slotOf Z "com/example/phasorwire/phasorwire/RangeEncoder" "heldOnes" "J" ≠ Jvm.RoadKit.slotOf Z "com/example/phasorwire/phasorwire/RangeEncoder" "bytes" "[B" := Jvm.RoadKit.slot_ne (Or.inl (hw _ tw_27)) (Or.inl (hw _ tw_16)) (by decide) (t := .long) (t' := (.array .byte)) (by decide) (by decide)
theorem sn_12 {Z : State} {a0 : Array Value} (hw : ∀ d ∈ tables_1, d.before a0 Z = true) : Jvm.RoadKit.slotOf Z "com/example/phasorwire/phasorwire/RangeEncoder" "length" "I" ≠ Jvm.RoadKit.slotOf Z "com/example/phasorwire/phasorwire/RangeEncoder" "range" "J" := Jvm.RoadKit.slot_ne (Or.inl (hw _ tw_25)) (Or.inl (hw _ tw_11)) (by decide) (t := .int) (t' := .long) (by decide) (by decide)
theorem sn_13 {Z : State} {a0 : Array Value} (hw : ∀ d ∈ tables_1, d.before a0 Z = true) : Jvm.RoadKit.slotOf Z "com/example/phasorwire/phasorwire/RangeEncoder" "length" "I" ≠ Jvm.RoadKit.slotOf Z "com/example/phasorwire/phasorwire/RangeEncoder" "held" "I" := Jvm.RoadKit.slot_ne (Or.inl (hw _ tw_25)) (Or.inl (hw _ tw_13)) (by decide) (t := .int) (t' := .int) (by decide) (by decide)
theorem sn_14 {Z : State} {a0 : Array Value} (hw : ∀ d ∈ tables_1, d.before a0 Z = true) : Jvm.RoadKit.slotOf Z "com/example/phasorwire/phasorwire/RangeEncoder" "length" "I" ≠ Jvm.RoadKit.slotOf Z "com/example/phasorwire/phasorwire/RangeEncoder" "bytes" "[B" := Jvm.RoadKit.slot_ne (Or.inl (hw _ tw_25)) (Or.inl (hw _ tw_16)) (by decide) (t := .int) (t' := (.array .byte)) (by decide) (by decide)
theorem sn_15 {Z : State} {a0 : Array Value} (hw : ∀ d ∈ tables_1, d.before a0 Z = true) : Jvm.RoadKit.slotOf Z "com/example/phasorwire/phasorwire/RangeEncoder" "low" "J" ≠ Jvm.RoadKit.slotOf Z "com/example/phasorwire/phasorwire/RangeEncoder" "length" "I" := Jvm.RoadKit.slot_ne (Or.inl (hw _ tw_40)) (Or.inl (hw _ tw_25)) (by decide) (t := .long) (t' := .int) (by decide) (by decide)
theorem sn_16 {Z : State} {a0 : Array Value} (hw : ∀ d ∈ tables_1, d.before a0 Z = true) : Jvm.RoadKit.slotOf Z "com/example/phasorwire/phasorwire/RangeEncoder" "range" "J" ≠ Jvm.RoadKit.slotOf Z "com/example/phasorwire/phasorwire/RangeEncoder" "length" "I" := Jvm.RoadKit.slot_ne (Or.inl (hw _ tw_11)) (Or.inl (hw _ tw_25)) (by decide) (t := .long) (t' := .int) (by decide) (by decide)
theorem sn_17 {Z : State} {a0 : Array Value} (hw : ∀ d ∈ tables_1, d.before a0 Z = true) : Jvm.RoadKit.slotOf Z "com/example/phasorwire/phasorwire/RangeEncoder" "held" "I" ≠ Jvm.RoadKit.slotOf Z "com/example/phasorwire/phasorwire/RangeEncoder" "length" "I" := Jvm.RoadKit.slot_ne (Or.inl (hw _ tw_13)) (Or.inl (hw _ tw_25)) (by decide) (t := .int) (t' := .int) (by decide) (by decide)
theorem sn_18 {Z : State} {a0 : Array Value} (hw : ∀ d ∈ tables_1, d.before a0 Z = true) : Jvm.RoadKit.slotOf Z "com/example/phasorwire/phasorwire/RangeEncoder" "heldOnes" "J" ≠ Jvm.RoadKit.slotOf Z "com/example/phasorwire/phasorwire/RangeEncoder" "length" "I" := Jvm.RoadKit.slot_ne (Or.inl (hw _ tw_27)) (Or.inl (hw _ tw_25)) (by decide) (t := .long) (t' := .int) (by decide) (by decide)
theorem sn_19 {Z : State} {a0 : Array Value} (hw : ∀ d ∈ tables_1, d.before a0 Z = true) : Jvm.RoadKit.slotOf Z "com/example/phasorwire/phasorwire/RangeEncoder" "bytes" "[B" ≠ Jvm.RoadKit.slotOf Z "com/example/phasorwire/phasorwire/RangeEncoder" "length" "I" := Jvm.RoadKit.slot_ne (Or.inl (hw _ tw_16)) (Or.inl (hw _ tw_25)) (by decide) (t := (.array .byte)) (t' := .int) (by decide) (by decide)
theorem sn_20 {Z : State} {a0 : Array Value} (hw : ∀ d ∈ tables_1, d.before a0 Z = true) : Jvm.RoadKit.slotOf Z "com/example/phasorwire/phasorwire/RangeEncoder" "low" "J" ≠ Jvm.RoadKit.slotOf Z "com/example/phasorwire/phasorwire/RangeEncoder" "heldOnes" "J" := Jvm.RoadKit.slot_ne (Or.inl (hw _ tw_40)) (Or.inl (hw _ tw_27)) (by decide) (t := .long) (t' := .long) (by decide) (by decide)
theorem sn_21 {Z : State} {a0 : Array Value} (hw : ∀ d ∈ tables_1, d.before a0 Z = true) : Jvm.RoadKit.slotOf Z "com/example/phasorwire/phasorwire/RangeEncoder" "range" "J" ≠ Jvm.RoadKit.slotOf Z "com/example/phasorwire/phasorwire/RangeEncoder" "heldOnes" "J" := Jvm.RoadKit.slot_ne (Or.inl (hw _ tw_11)) (Or.inl (hw _ tw_27)) (by decide) (t := .long) (t' := .long) (by decide) (by decide)
theorem sn_22 {Z : State} {a0 : Array Value} (hw : ∀ d ∈ tables_1, d.before a0 Z = true) : Jvm.RoadKit.slotOf Z "com/example/phasorwire/phasorwire/RangeEncoder" "held" "I" ≠ Jvm.RoadKit.slotOf Z "com/example/phasorwire/phasorwire/RangeEncoder" "heldOnes" "J" := Jvm.RoadKit.slot_ne (Or.inl (hw _ tw_13)) (Or.inl (hw _ tw_27)) (by decide) (t := .int) (t' := .long) (by decide) (by decide)
theorem sn_23 {Z : State} {a0 : Array Value} (hw : ∀ d ∈ tables_1, d.before a0 Z = true) : Jvm.RoadKit.slotOf Z "com/example/phasorwire/phasorwire/RangeEncoder" "bytes" "[B" ≠ Jvm.RoadKit.slotOf Z "com/example/phasorwire/phasorwire/RangeEncoder" "heldOnes" "J" := Jvm.RoadKit.slot_ne (Or.inl (hw _ tw_16)) (Or.inl (hw _ tw_27)) (by decide) (t := (.array .byte)) (t' := .long) (by decide) (by decide)
theorem sn_24 {Z : State} {a0 : Array Value} (hw : ∀ d ∈ tables_1, d.before a0 Z = true) : Jvm.RoadKit.slotOf Z "com/example/phasorwire/phasorwire/RangeEncoder" "length" "I" ≠ Jvm.RoadKit.slotOf Z "com/example/phasorwire/phasorwire/RangeEncoder" "heldOnes" "J" := Jvm.RoadKit.slot_ne (Or.inl (hw _ tw_25)) (Or.inl (hw _ tw_27)) (by decide) (t := .int) (t' := .long) (by decide) (by decide)
theorem sn_25 {Z : State} {a0 : Array Value} (hw : ∀ d ∈ tables_1, d.before a0 Z = true) : Jvm.RoadKit.slotOf Z "com/example/phasorwire/phasorwire/RangeEncoder" "range" "J" ≠ Jvm.RoadKit.slotOf Z "com/example/phasorwire/phasorwire/RangeEncoder" "low" "J" := Jvm.RoadKit.slot_ne (Or.inl (hw _ tw_11)) (Or.inl (hw _ tw_40)) (by decide) (t := .long) (t' := .long) (by decide) (by decide)
theorem sn_26 {Z : State} {a0 : Array Value} (hw : ∀ d ∈ tables_1, d.before a0 Z = true) : Jvm.RoadKit.slotOf Z "com/example/phasorwire/phasorwire/RangeEncoder" "held" "I" ≠ Jvm.RoadKit.slotOf Z "com/example/phasorwire/phasorwire/RangeEncoder" "low" "J" := Jvm.RoadKit.slot_ne (Or.inl (hw _ tw_13)) (Or.inl (hw _ tw_40)) (by decide) (t := .int) (t' := .long) (by decide) (by decide)
theorem sn_27 {Z : State} {a0 : Array Value} (hw : ∀ d ∈ tables_1, d.before a0 Z = true) : Jvm.RoadKit.slotOf Z "com/example/phasorwire/phasorwire/RangeEncoder" "heldOnes" "J" ≠ Jvm.RoadKit.slotOf Z "com/example/phasorwire/phasorwire/RangeEncoder" "low" "J" := Jvm.RoadKit.slot_ne (Or.inl (hw _ tw_27)) (Or.inl (hw _ tw_40)) (by decide) (t := .long) (t' := .long) (by decide) (by decide)
theorem sn_28 {Z : State} {a0 : Array Value} (hw : ∀ d ∈ tables_1, d.before a0 Z = true) : Jvm.RoadKit.slotOf Z "com/example/phasorwire/phasorwire/RangeEncoder" "bytes" "[B" ≠ Jvm.RoadKit.slotOf Z "com/example/phasorwire/phasorwire/RangeEncoder" "low" "J" := Jvm.RoadKit.slot_ne (Or.inl (hw _ tw_16)) (Or.inl (hw _ tw_40)) (by decide) (t := (.array .byte)) (t' := .long) (by decide) (by decide)
theorem sn_29 {Z : State} {a0 : Array Value} (hw : ∀ d ∈ tables_1, d.before a0 Z = true) : Jvm.RoadKit.slotOf Z "com/example/phasorwire/phasorwire/RangeEncoder" "length" "I" ≠ Jvm.RoadKit.slotOf Z "com/example/phasorwire/phasorwire/RangeEncoder" "low" "J" := Jvm.RoadKit.slot_ne (Or.inl (hw _ tw_25)) (Or.inl (hw _ tw_40)) (by decide) (t := .int) (t' := .long) (by decide) (by decide)
theorem pd_0 : parseMethodDescriptor "(I)V" = some ⟨[.int], none⟩ := by decide +kernel
theorem pd_1 : parseMethodDescriptor "(II)I" = some ⟨[.int, .int], some .int⟩ := by decide +kernel
theorem pd_2 : parseMethodDescriptor "()V" = some ⟨[], none⟩ := by decide +kernel
theorem pd_3 : parseMethodDescriptor "([BI)[B" = some ⟨[(.array .byte), .int], some (.array .byte)⟩ := by decide +kernel
theorem pd_4 : parseMethodDescriptor "()J" = some ⟨[], some .long⟩ := by decide +kernel
theorem pd_5 : parseMethodDescriptor "(I)I" = some ⟨[.int], some .int⟩ := by decide +kernel
theorem pd_6 : parseMethodDescriptor "(IZ)V" = some ⟨[.int, .boolean], none⟩ := by decide +kernel
theorem pd_7 : parseMethodDescriptor "(JIZ)J" = some ⟨[.long, .int, .boolean], some .long⟩ := by decide +kernel
theorem pd_8 : parseMethodDescriptor "(J)I" = some ⟨[.long], some .int⟩ := by decide +kernel
theorem pd_9 : parseMethodDescriptor "()[B" = some ⟨[], some (.array .byte)⟩ := by decide +kernel
theorem d1_0 : decode prog_63_method_1_code 0 = .ok (.aload_n 0, 1) := by decide +kernel
theorem d1_1 : decode prog_63_method_1_code 1 = .ok (.invokespecial 3, 3) := by decide +kernel
theorem d1_4 : decode prog_63_method_1_code 4 = .ok (.aload_n 0, 1) := by decide +kernel
theorem d1_5 : decode prog_63_method_1_code 5 = .ok (.ldc2_w 9, 3) := by decide +kernel
theorem d1_8 : decode prog_63_method_1_code 8 = .ok (.putfield 11, 3) := by decide +kernel
theorem d1_11 : decode prog_63_method_1_code 11 = .ok (.aload_n 0, 1) := by decide +kernel
theorem d1_12 : decode prog_63_method_1_code 12 = .ok (.iconst (-1), 1) := by decide +kernel
theorem d1_13 : decode prog_63_method_1_code 13 = .ok (.putfield 15, 3) := by decide +kernel
theorem d1_16 : decode prog_63_method_1_code 16 = .ok (.aload_n 0, 1) := by decide +kernel
theorem d1_17 : decode prog_63_method_1_code 17 = .ok (.bipush 32, 2) := by decide +kernel
theorem d1_19 : decode prog_63_method_1_code 19 = .ok (.newarray .byte, 2) := by decide +kernel
theorem d1_21 : decode prog_63_method_1_code 21 = .ok (.putfield 19, 3) := by decide +kernel
theorem d1_24 : decode prog_63_method_1_code 24 = .ok (.return_, 1) := by decide +kernel
theorem d3_0 : decode prog_63_method_3_code 0 = .ok (.aload_n 0, 1) := by decide +kernel
theorem d3_1 : decode prog_63_method_3_code 1 = .ok (.getfield 35, 3) := by decide +kernel
theorem d3_4 : decode prog_63_method_3_code 4 = .ok (.aload_n 0, 1) := by decide +kernel
theorem d3_5 : decode prog_63_method_3_code 5 = .ok (.getfield 15, 3) := by decide +kernel
theorem d3_8 : decode prog_63_method_3_code 8 = .ok (.ifCond .lt 7, 3) := by decide +kernel
theorem d3_11 : decode prog_63_method_3_code 11 = .ok (.iconst 1, 1) := by decide +kernel
theorem d3_12 : decode prog_63_method_3_code 12 = .ok (.goto 4, 3) := by decide +kernel
theorem d3_15 : decode prog_63_method_3_code 15 = .ok (.iconst 0, 1) := by decide +kernel
theorem d3_16 : decode prog_63_method_3_code 16 = .ok (.iadd, 1) := by decide +kernel
theorem d3_17 : decode prog_63_method_3_code 17 = .ok (.i2l, 1) := by decide +kernel
theorem d3_18 : decode prog_63_method_3_code 18 = .ok (.aload_n 0, 1) := by decide +kernel
theorem d3_19 : decode prog_63_method_3_code 19 = .ok (.getfield 38, 3) := by decide +kernel
theorem d3_22 : decode prog_63_method_3_code 22 = .ok (.ladd, 1) := by decide +kernel
theorem d3_23 : decode prog_63_method_3_code 23 = .ok (.ldc2_w 41, 3) := by decide +kernel
theorem d3_26 : decode prog_63_method_3_code 26 = .ok (.ladd, 1) := by decide +kernel
theorem d3_27 : decode prog_63_method_3_code 27 = .ok (.lreturn, 1) := by decide +kernel
theorem d4_0 : decode method_2_code 0 = .ok (.iconst 1, 1) := by decide +kernel
theorem d4_1 : decode method_2_code 1 = .ok (.iload_n 0, 1) := by decide +kernel
theorem d4_2 : decode method_2_code 2 = .ok (.ldc 7, 2) := by decide +kernel
theorem d4_4 : decode method_2_code 4 = .ok (.iand, 1) := by decide +kernel
theorem d4_5 : decode method_2_code 5 = .ok (.sipush 4095, 3) := by decide +kernel
theorem d4_8 : decode method_2_code 8 = .ok (.irem, 1) := by decide +kernel
theorem d4_9 : decode method_2_code 9 = .ok (.iadd, 1) := by decide +kernel
theorem d4_10 : decode method_2_code 10 = .ok (.ireturn, 1) := by decide +kernel
theorem d5_0 : decode prog_63_method_2_code 0 = .ok (.aload_n 0, 1) := by decide +kernel
theorem d5_1 : decode prog_63_method_2_code 1 = .ok (.getfield 11, 3) := by decide +kernel
theorem d5_4 : decode prog_63_method_2_code 4 = .ok (.bipush 12, 2) := by decide +kernel
theorem d5_6 : decode prog_63_method_2_code 6 = .ok (.lushr, 1) := by decide +kernel
theorem d5_7 : decode prog_63_method_2_code 7 = .ok (.iload_n 1, 1) := by decide +kernel
theorem d5_8 : decode prog_63_method_2_code 8 = .ok (.i2l, 1) := by decide +kernel
theorem d5_9 : decode prog_63_method_2_code 9 = .ok (.lmul, 1) := by decide +kernel
theorem d5_10 : decode prog_63_method_2_code 10 = .ok (.lstore_n 3, 1) := by decide +kernel
theorem d5_11 : decode prog_63_method_2_code 11 = .ok (.iload_n 2, 1) := by decide +kernel
theorem d5_12 : decode prog_63_method_2_code 12 = .ok (.ifCond .eq 9, 3) := by decide +kernel
theorem d5_15 : decode prog_63_method_2_code 15 = .ok (.ldc2_w 23, 3) := by decide +kernel
theorem d5_18 : decode prog_63_method_2_code 18 = .ok (.goto 4, 3) := by decide +kernel
theorem d5_21 : decode prog_63_method_2_code 21 = .ok (.lconst 0, 1) := by decide +kernel
theorem d5_22 : decode prog_63_method_2_code 22 = .ok (.lstore 5, 2) := by decide +kernel
theorem d5_24 : decode prog_63_method_2_code 24 = .ok (.aload_n 0, 1) := by decide +kernel
theorem d5_25 : decode prog_63_method_2_code 25 = .ok (.dup, 1) := by decide +kernel
theorem d5_26 : decode prog_63_method_2_code 26 = .ok (.getfield 25, 3) := by decide +kernel
theorem d5_29 : decode prog_63_method_2_code 29 = .ok (.lload_n 3, 1) := by decide +kernel
theorem d5_30 : decode prog_63_method_2_code 30 = .ok (.lload 5, 2) := by decide +kernel
theorem d5_32 : decode prog_63_method_2_code 32 = .ok (.land, 1) := by decide +kernel
theorem d5_33 : decode prog_63_method_2_code 33 = .ok (.ladd, 1) := by decide +kernel
theorem d5_34 : decode prog_63_method_2_code 34 = .ok (.putfield 25, 3) := by decide +kernel
theorem d5_37 : decode prog_63_method_2_code 37 = .ok (.aload_n 0, 1) := by decide +kernel
theorem d5_38 : decode prog_63_method_2_code 38 = .ok (.lload_n 3, 1) := by decide +kernel
theorem d5_39 : decode prog_63_method_2_code 39 = .ok (.aload_n 0, 1) := by decide +kernel
theorem d5_40 : decode prog_63_method_2_code 40 = .ok (.getfield 11, 3) := by decide +kernel
theorem d5_43 : decode prog_63_method_2_code 43 = .ok (.ldc2_w 28, 3) := by decide +kernel
theorem d5_46 : decode prog_63_method_2_code 46 = .ok (.lload_n 3, 1) := by decide +kernel
theorem d5_47 : decode prog_63_method_2_code 47 = .ok (.lmul, 1) := by decide +kernel
theorem d5_48 : decode prog_63_method_2_code 48 = .ok (.lsub, 1) := by decide +kernel
theorem d5_49 : decode prog_63_method_2_code 49 = .ok (.lload 5, 2) := by decide +kernel
theorem d5_51 : decode prog_63_method_2_code 51 = .ok (.land, 1) := by decide +kernel
theorem d5_52 : decode prog_63_method_2_code 52 = .ok (.ladd, 1) := by decide +kernel
theorem d5_53 : decode prog_63_method_2_code 53 = .ok (.putfield 11, 3) := by decide +kernel
theorem d5_56 : decode prog_63_method_2_code 56 = .ok (.aload_n 0, 1) := by decide +kernel
theorem d5_57 : decode prog_63_method_2_code 57 = .ok (.getfield 11, 3) := by decide +kernel
theorem d5_60 : decode prog_63_method_2_code 60 = .ok (.ldc2_w 30, 3) := by decide +kernel
theorem d5_63 : decode prog_63_method_2_code 63 = .ok (.lcmp, 1) := by decide +kernel
theorem d5_64 : decode prog_63_method_2_code 64 = .ok (.ifCond .ge 21, 3) := by decide +kernel
theorem d5_67 : decode prog_63_method_2_code 67 = .ok (.aload_n 0, 1) := by decide +kernel
theorem d5_68 : decode prog_63_method_2_code 68 = .ok (.dup, 1) := by decide +kernel
theorem d5_69 : decode prog_63_method_2_code 69 = .ok (.getfield 11, 3) := by decide +kernel
theorem d5_72 : decode prog_63_method_2_code 72 = .ok (.bipush 8, 2) := by decide +kernel
theorem d5_74 : decode prog_63_method_2_code 74 = .ok (.lshl, 1) := by decide +kernel
theorem d5_75 : decode prog_63_method_2_code 75 = .ok (.putfield 11, 3) := by decide +kernel
theorem d5_78 : decode prog_63_method_2_code 78 = .ok (.aload_n 0, 1) := by decide +kernel
theorem d5_79 : decode prog_63_method_2_code 79 = .ok (.invokevirtual 32, 3) := by decide +kernel
theorem d5_82 : decode prog_63_method_2_code 82 = .ok (.goto (-26), 3) := by decide +kernel
theorem d5_85 : decode prog_63_method_2_code 85 = .ok (.return_, 1) := by decide +kernel
theorem d6_0 : decode prog_63_method_5_code 0 = .ok (.aload_n 0, 1) := by decide +kernel
theorem d6_1 : decode prog_63_method_5_code 1 = .ok (.getfield 25, 3) := by decide +kernel
theorem d6_4 : decode prog_63_method_5_code 4 = .ok (.ldc2_w 49, 3) := by decide +kernel
theorem d6_7 : decode prog_63_method_5_code 7 = .ok (.lcmp, 1) := by decide +kernel
theorem d6_8 : decode prog_63_method_5_code 8 = .ok (.ifCond .lt 14, 3) := by decide +kernel
theorem d6_11 : decode prog_63_method_5_code 11 = .ok (.aload_n 0, 1) := by decide +kernel
theorem d6_12 : decode prog_63_method_5_code 12 = .ok (.getfield 25, 3) := by decide +kernel
theorem d6_15 : decode prog_63_method_5_code 15 = .ok (.ldc2_w 51, 3) := by decide +kernel
theorem d6_18 : decode prog_63_method_5_code 18 = .ok (.lcmp, 1) := by decide +kernel
theorem d6_19 : decode prog_63_method_5_code 19 = .ok (.ifCond .lt 79, 3) := by decide +kernel
theorem d6_22 : decode prog_63_method_5_code 22 = .ok (.aload_n 0, 1) := by decide +kernel
theorem d6_23 : decode prog_63_method_5_code 23 = .ok (.getfield 25, 3) := by decide +kernel
theorem d6_26 : decode prog_63_method_5_code 26 = .ok (.bipush 32, 2) := by decide +kernel
theorem d6_28 : decode prog_63_method_5_code 28 = .ok (.lushr, 1) := by decide +kernel
theorem d6_29 : decode prog_63_method_5_code 29 = .ok (.l2i, 1) := by decide +kernel
theorem d6_30 : decode prog_63_method_5_code 30 = .ok (.istore_n 1, 1) := by decide +kernel
theorem d6_31 : decode prog_63_method_5_code 31 = .ok (.aload_n 0, 1) := by decide +kernel
theorem d6_32 : decode prog_63_method_5_code 32 = .ok (.getfield 15, 3) := by decide +kernel
theorem d6_35 : decode prog_63_method_5_code 35 = .ok (.ifCond .lt 13, 3) := by decide +kernel
theorem d6_38 : decode prog_63_method_5_code 38 = .ok (.aload_n 0, 1) := by decide +kernel
theorem d6_39 : decode prog_63_method_5_code 39 = .ok (.aload_n 0, 1) := by decide +kernel
theorem d6_40 : decode prog_63_method_5_code 40 = .ok (.getfield 15, 3) := by decide +kernel
theorem d6_43 : decode prog_63_method_5_code 43 = .ok (.iload_n 1, 1) := by decide +kernel
theorem d6_44 : decode prog_63_method_5_code 44 = .ok (.iadd, 1) := by decide +kernel
theorem d6_45 : decode prog_63_method_5_code 45 = .ok (.invokevirtual 53, 3) := by decide +kernel
theorem d6_48 : decode prog_63_method_5_code 48 = .ok (.aload_n 0, 1) := by decide +kernel
theorem d6_49 : decode prog_63_method_5_code 49 = .ok (.getfield 38, 3) := by decide +kernel
theorem d6_52 : decode prog_63_method_5_code 52 = .ok (.lconst 0, 1) := by decide +kernel
theorem d6_53 : decode prog_63_method_5_code 53 = .ok (.lcmp, 1) := by decide +kernel
theorem d6_54 : decode prog_63_method_5_code 54 = .ok (.ifCond .le 25, 3) := by decide +kernel
theorem d6_57 : decode prog_63_method_5_code 57 = .ok (.aload_n 0, 1) := by decide +kernel
theorem d6_58 : decode prog_63_method_5_code 58 = .ok (.sipush 255, 3) := by decide +kernel
theorem d6_61 : decode prog_63_method_5_code 61 = .ok (.iload_n 1, 1) := by decide +kernel
theorem d6_62 : decode prog_63_method_5_code 62 = .ok (.iadd, 1) := by decide +kernel
theorem d6_63 : decode prog_63_method_5_code 63 = .ok (.invokevirtual 53, 3) := by decide +kernel
theorem d6_66 : decode prog_63_method_5_code 66 = .ok (.aload_n 0, 1) := by decide +kernel
theorem d6_67 : decode prog_63_method_5_code 67 = .ok (.dup, 1) := by decide +kernel
theorem d6_68 : decode prog_63_method_5_code 68 = .ok (.getfield 38, 3) := by decide +kernel
theorem d6_71 : decode prog_63_method_5_code 71 = .ok (.lconst 1, 1) := by decide +kernel
theorem d6_72 : decode prog_63_method_5_code 72 = .ok (.lsub, 1) := by decide +kernel
theorem d6_73 : decode prog_63_method_5_code 73 = .ok (.putfield 38, 3) := by decide +kernel
theorem d6_76 : decode prog_63_method_5_code 76 = .ok (.goto (-28), 3) := by decide +kernel
theorem d6_79 : decode prog_63_method_5_code 79 = .ok (.aload_n 0, 1) := by decide +kernel
theorem d6_80 : decode prog_63_method_5_code 80 = .ok (.aload_n 0, 1) := by decide +kernel
theorem d6_81 : decode prog_63_method_5_code 81 = .ok (.getfield 25, 3) := by decide +kernel
theorem d6_84 : decode prog_63_method_5_code 84 = .ok (.bipush 24, 2) := by decide +kernel
theorem d6_86 : decode prog_63_method_5_code 86 = .ok (.lushr, 1) := by decide +kernel
theorem d6_87 : decode prog_63_method_5_code 87 = .ok (.l2i, 1) := by decide +kernel
theorem d6_88 : decode prog_63_method_5_code 88 = .ok (.sipush 255, 3) := by decide +kernel
theorem d6_91 : decode prog_63_method_5_code 91 = .ok (.iand, 1) := by decide +kernel
theorem d6_92 : decode prog_63_method_5_code 92 = .ok (.putfield 15, 3) := by decide +kernel
theorem d6_95 : decode prog_63_method_5_code 95 = .ok (.goto 13, 3) := by decide +kernel
theorem d6_98 : decode prog_63_method_5_code 98 = .ok (.aload_n 0, 1) := by decide +kernel
theorem d6_99 : decode prog_63_method_5_code 99 = .ok (.dup, 1) := by decide +kernel
theorem d6_100 : decode prog_63_method_5_code 100 = .ok (.getfield 38, 3) := by decide +kernel
theorem d6_103 : decode prog_63_method_5_code 103 = .ok (.lconst 1, 1) := by decide +kernel
theorem d6_104 : decode prog_63_method_5_code 104 = .ok (.ladd, 1) := by decide +kernel
theorem d6_105 : decode prog_63_method_5_code 105 = .ok (.putfield 38, 3) := by decide +kernel
theorem d6_108 : decode prog_63_method_5_code 108 = .ok (.aload_n 0, 1) := by decide +kernel
theorem d6_109 : decode prog_63_method_5_code 109 = .ok (.aload_n 0, 1) := by decide +kernel
theorem d6_110 : decode prog_63_method_5_code 110 = .ok (.getfield 25, 3) := by decide +kernel
theorem d6_113 : decode prog_63_method_5_code 113 = .ok (.ldc2_w 57, 3) := by decide +kernel
theorem d6_116 : decode prog_63_method_5_code 116 = .ok (.land, 1) := by decide +kernel
theorem d6_117 : decode prog_63_method_5_code 117 = .ok (.bipush 8, 2) := by decide +kernel
theorem d6_119 : decode prog_63_method_5_code 119 = .ok (.lshl, 1) := by decide +kernel
theorem d6_120 : decode prog_63_method_5_code 120 = .ok (.putfield 25, 3) := by decide +kernel
theorem d6_123 : decode prog_63_method_5_code 123 = .ok (.return_, 1) := by decide +kernel
theorem d7_0 : decode method_3_code 0 = .ok (.lload_n 0, 1) := by decide +kernel
theorem d7_1 : decode method_3_code 1 = .ok (.bipush 12, 2) := by decide +kernel
theorem d7_3 : decode method_3_code 3 = .ok (.lushr, 1) := by decide +kernel
theorem d7_4 : decode method_3_code 4 = .ok (.iload_n 2, 1) := by decide +kernel
theorem d7_5 : decode method_3_code 5 = .ok (.i2l, 1) := by decide +kernel
theorem d7_6 : decode method_3_code 6 = .ok (.lmul, 1) := by decide +kernel
theorem d7_7 : decode method_3_code 7 = .ok (.lstore 4, 2) := by decide +kernel
theorem d7_9 : decode method_3_code 9 = .ok (.iload_n 3, 1) := by decide +kernel
theorem d7_10 : decode method_3_code 10 = .ok (.ifCond .eq 10, 3) := by decide +kernel
theorem d7_13 : decode method_3_code 13 = .ok (.lload_n 0, 1) := by decide +kernel
theorem d7_14 : decode method_3_code 14 = .ok (.lload 4, 2) := by decide +kernel
theorem d7_16 : decode method_3_code 16 = .ok (.lsub, 1) := by decide +kernel
theorem d7_17 : decode method_3_code 17 = .ok (.goto 5, 3) := by decide +kernel
theorem d7_20 : decode method_3_code 20 = .ok (.lload 4, 2) := by decide +kernel
theorem d7_22 : decode method_3_code 22 = .ok (.lreturn, 1) := by decide +kernel
theorem d8_0 : decode method_4_code 0 = .ok (.lload_n 0, 1) := by decide +kernel
theorem d8_1 : decode method_4_code 1 = .ok (.ldc2_w 8, 3) := by decide +kernel
theorem d8_4 : decode method_4_code 4 = .ok (.lcmp, 1) := by decide +kernel
theorem d8_5 : decode method_4_code 5 = .ok (.ifCond .lt 5, 3) := by decide +kernel
theorem d8_8 : decode method_4_code 8 = .ok (.iconst 0, 1) := by decide +kernel
theorem d8_9 : decode method_4_code 9 = .ok (.ireturn, 1) := by decide +kernel
theorem d8_10 : decode method_4_code 10 = .ok (.lload_n 0, 1) := by decide +kernel
theorem d8_11 : decode method_4_code 11 = .ok (.bipush 8, 2) := by decide +kernel
theorem d8_13 : decode method_4_code 13 = .ok (.lshl, 1) := by decide +kernel
theorem d8_14 : decode method_4_code 14 = .ok (.ldc2_w 8, 3) := by decide +kernel
theorem d8_17 : decode method_4_code 17 = .ok (.lcmp, 1) := by decide +kernel
theorem d8_18 : decode method_4_code 18 = .ok (.ifCond .lt 5, 3) := by decide +kernel
theorem d8_21 : decode method_4_code 21 = .ok (.iconst 1, 1) := by decide +kernel
theorem d8_22 : decode method_4_code 22 = .ok (.ireturn, 1) := by decide +kernel
theorem d8_23 : decode method_4_code 23 = .ok (.iconst 2, 1) := by decide +kernel
theorem d8_24 : decode method_4_code 24 = .ok (.ireturn, 1) := by decide +kernel
theorem d9_0 : decode prog_63_method_6_code 0 = .ok (.aload_n 0, 1) := by decide +kernel
theorem d9_1 : decode prog_63_method_6_code 1 = .ok (.getfield 35, 3) := by decide +kernel
theorem d9_4 : decode prog_63_method_6_code 4 = .ok (.aload_n 0, 1) := by decide +kernel
theorem d9_5 : decode prog_63_method_6_code 5 = .ok (.getfield 19, 3) := by decide +kernel
theorem d9_8 : decode prog_63_method_6_code 8 = .ok (.arraylength, 1) := by decide +kernel
theorem d9_9 : decode prog_63_method_6_code 9 = .ok (.if_icmp .ne 20, 3) := by decide +kernel
theorem d9_29 : decode prog_63_method_6_code 29 = .ok (.aload_n 0, 1) := by decide +kernel
theorem d9_30 : decode prog_63_method_6_code 30 = .ok (.getfield 19, 3) := by decide +kernel
theorem d9_33 : decode prog_63_method_6_code 33 = .ok (.aload_n 0, 1) := by decide +kernel
theorem d9_34 : decode prog_63_method_6_code 34 = .ok (.dup, 1) := by decide +kernel
theorem d9_35 : decode prog_63_method_6_code 35 = .ok (.getfield 35, 3) := by decide +kernel
theorem d9_38 : decode prog_63_method_6_code 38 = .ok (.dup_x1, 1) := by decide +kernel
theorem d9_39 : decode prog_63_method_6_code 39 = .ok (.iconst 1, 1) := by decide +kernel
theorem d9_40 : decode prog_63_method_6_code 40 = .ok (.iadd, 1) := by decide +kernel
theorem d9_41 : decode prog_63_method_6_code 41 = .ok (.putfield 35, 3) := by decide +kernel
theorem d9_44 : decode prog_63_method_6_code 44 = .ok (.iload_n 1, 1) := by decide +kernel
theorem d9_45 : decode prog_63_method_6_code 45 = .ok (.i2b, 1) := by decide +kernel
theorem d9_46 : decode prog_63_method_6_code 46 = .ok (.bastore, 1) := by decide +kernel
theorem d9_47 : decode prog_63_method_6_code 47 = .ok (.return_, 1) := by decide +kernel
theorem d10_0 : decode prog_63_method_4_code 0 = .ok (.iconst 4, 1) := by decide +kernel
theorem d10_1 : decode prog_63_method_4_code 1 = .ok (.istore_n 1, 1) := by decide +kernel
theorem d10_2 : decode prog_63_method_4_code 2 = .ok (.iconst 0, 1) := by decide +kernel
theorem d10_3 : decode prog_63_method_4_code 3 = .ok (.istore_n 2, 1) := by decide +kernel
theorem d10_4 : decode prog_63_method_4_code 4 = .ok (.iload_n 2, 1) := by decide +kernel
theorem d10_5 : decode prog_63_method_4_code 5 = .ok (.iconst 4, 1) := by decide +kernel
theorem d10_6 : decode prog_63_method_4_code 6 = .ok (.if_icmp .ge 58, 3) := by decide +kernel
theorem d10_9 : decode prog_63_method_4_code 9 = .ok (.lconst 1, 1) := by decide +kernel
theorem d10_10 : decode prog_63_method_4_code 10 = .ok (.bipush 8, 2) := by decide +kernel
theorem d10_12 : decode prog_63_method_4_code 12 = .ok (.iconst 4, 1) := by decide +kernel
theorem d10_13 : decode prog_63_method_4_code 13 = .ok (.iload_n 2, 1) := by decide +kernel
theorem d10_14 : decode prog_63_method_4_code 14 = .ok (.isub, 1) := by decide +kernel
theorem d10_15 : decode prog_63_method_4_code 15 = .ok (.imul, 1) := by decide +kernel
theorem d10_16 : decode prog_63_method_4_code 16 = .ok (.lshl, 1) := by decide +kernel
theorem d10_17 : decode prog_63_method_4_code 17 = .ok (.lstore_n 3, 1) := by decide +kernel
theorem d10_18 : decode prog_63_method_4_code 18 = .ok (.aload_n 0, 1) := by decide +kernel
theorem d10_19 : decode prog_63_method_4_code 19 = .ok (.getfield 25, 3) := by decide +kernel
theorem d10_22 : decode prog_63_method_4_code 22 = .ok (.lload_n 3, 1) := by decide +kernel
theorem d10_23 : decode prog_63_method_4_code 23 = .ok (.ladd, 1) := by decide +kernel
theorem d10_24 : decode prog_63_method_4_code 24 = .ok (.lconst 1, 1) := by decide +kernel
theorem d10_25 : decode prog_63_method_4_code 25 = .ok (.lsub, 1) := by decide +kernel
theorem d10_26 : decode prog_63_method_4_code 26 = .ok (.lload_n 3, 1) := by decide +kernel
theorem d10_27 : decode prog_63_method_4_code 27 = .ok (.ldiv, 1) := by decide +kernel
theorem d10_28 : decode prog_63_method_4_code 28 = .ok (.lload_n 3, 1) := by decide +kernel
theorem d10_29 : decode prog_63_method_4_code 29 = .ok (.lmul, 1) := by decide +kernel
theorem d10_30 : decode prog_63_method_4_code 30 = .ok (.lstore 5, 2) := by decide +kernel
theorem d10_32 : decode prog_63_method_4_code 32 = .ok (.lload 5, 2) := by decide +kernel
theorem d10_34 : decode prog_63_method_4_code 34 = .ok (.aload_n 0, 1) := by decide +kernel
theorem d10_35 : decode prog_63_method_4_code 35 = .ok (.getfield 25, 3) := by decide +kernel
theorem d10_38 : decode prog_63_method_4_code 38 = .ok (.aload_n 0, 1) := by decide +kernel
theorem d10_39 : decode prog_63_method_4_code 39 = .ok (.getfield 11, 3) := by decide +kernel
theorem d10_42 : decode prog_63_method_4_code 42 = .ok (.ladd, 1) := by decide +kernel
theorem d10_43 : decode prog_63_method_4_code 43 = .ok (.lcmp, 1) := by decide +kernel
theorem d10_44 : decode prog_63_method_4_code 44 = .ok (.ifCond .ge 14, 3) := by decide +kernel
theorem d10_47 : decode prog_63_method_4_code 47 = .ok (.aload_n 0, 1) := by decide +kernel
theorem d10_48 : decode prog_63_method_4_code 48 = .ok (.lload 5, 2) := by decide +kernel
theorem d10_50 : decode prog_63_method_4_code 50 = .ok (.putfield 25, 3) := by decide +kernel
theorem d10_53 : decode prog_63_method_4_code 53 = .ok (.iload_n 2, 1) := by decide +kernel
theorem d10_54 : decode prog_63_method_4_code 54 = .ok (.istore_n 1, 1) := by decide +kernel
theorem d10_55 : decode prog_63_method_4_code 55 = .ok (.goto 9, 3) := by decide +kernel
theorem d10_58 : decode prog_63_method_4_code 58 = .ok (.iinc 2 1, 3) := by decide +kernel
theorem d10_61 : decode prog_63_method_4_code 61 = .ok (.goto (-57), 3) := by decide +kernel
theorem d10_64 : decode prog_63_method_4_code 64 = .ok (.iconst 0, 1) := by decide +kernel
theorem d10_65 : decode prog_63_method_4_code 65 = .ok (.istore_n 2, 1) := by decide +kernel
theorem d10_66 : decode prog_63_method_4_code 66 = .ok (.iload_n 2, 1) := by decide +kernel
theorem d10_67 : decode prog_63_method_4_code 67 = .ok (.iload_n 1, 1) := by decide +kernel
theorem d10_68 : decode prog_63_method_4_code 68 = .ok (.if_icmp .gt 13, 3) := by decide +kernel
theorem d10_71 : decode prog_63_method_4_code 71 = .ok (.aload_n 0, 1) := by decide +kernel
theorem d10_72 : decode prog_63_method_4_code 72 = .ok (.invokevirtual 32, 3) := by decide +kernel
theorem d10_75 : decode prog_63_method_4_code 75 = .ok (.iinc 2 1, 3) := by decide +kernel
theorem d10_78 : decode prog_63_method_4_code 78 = .ok (.goto (-12), 3) := by decide +kernel
theorem d10_81 : decode prog_63_method_4_code 81 = .ok (.aload_n 0, 1) := by decide +kernel
theorem d10_82 : decode prog_63_method_4_code 82 = .ok (.getfield 35, 3) := by decide +kernel
theorem d10_85 : decode prog_63_method_4_code 85 = .ok (.istore_n 2, 1) := by decide +kernel
theorem d10_86 : decode prog_63_method_4_code 86 = .ok (.iload_n 2, 1) := by decide +kernel
theorem d10_87 : decode prog_63_method_4_code 87 = .ok (.ifCond .le 20, 3) := by decide +kernel
theorem d10_90 : decode prog_63_method_4_code 90 = .ok (.aload_n 0, 1) := by decide +kernel
theorem d10_91 : decode prog_63_method_4_code 91 = .ok (.getfield 19, 3) := by decide +kernel
theorem d10_94 : decode prog_63_method_4_code 94 = .ok (.iload_n 2, 1) := by decide +kernel
theorem d10_95 : decode prog_63_method_4_code 95 = .ok (.iconst 1, 1) := by decide +kernel
theorem d10_96 : decode prog_63_method_4_code 96 = .ok (.isub, 1) := by decide +kernel
theorem d10_97 : decode prog_63_method_4_code 97 = .ok (.baload, 1) := by decide +kernel
theorem d10_98 : decode prog_63_method_4_code 98 = .ok (.ifCond .ne 9, 3) := by decide +kernel
theorem d10_101 : decode prog_63_method_4_code 101 = .ok (.iinc 2 (-1), 3) := by decide +kernel
theorem d10_104 : decode prog_63_method_4_code 104 = .ok (.goto (-18), 3) := by decide +kernel
theorem d10_107 : decode prog_63_method_4_code 107 = .ok (.aload_n 0, 1) := by decide +kernel
theorem d10_108 : decode prog_63_method_4_code 108 = .ok (.getfield 19, 3) := by decide +kernel
theorem d10_111 : decode prog_63_method_4_code 111 = .ok (.iload_n 2, 1) := by decide +kernel
theorem d10_112 : decode prog_63_method_4_code 112 = .ok (.invokestatic 43, 3) := by decide +kernel
theorem d10_115 : decode prog_63_method_4_code 115 = .ok (.areturn, 1) := by decide +kernel
theorem d11_0 : decode jdk_65_method_121_code 0 = .ok (.iload_n 1, 1) := by decide +kernel
theorem d11_1 : decode jdk_65_method_121_code 1 = .ok (.aload_n 0, 1) := by decide +kernel
theorem d11_2 : decode jdk_65_method_121_code 2 = .ok (.arraylength, 1) := by decide +kernel
theorem d11_3 : decode jdk_65_method_121_code 3 = .ok (.if_icmp .ne 11, 3) := by decide +kernel
theorem d11_14 : decode jdk_65_method_121_code 14 = .ok (.iload_n 1, 1) := by decide +kernel
theorem d11_15 : decode jdk_65_method_121_code 15 = .ok (.newarray .byte, 2) := by decide +kernel
theorem d11_17 : decode jdk_65_method_121_code 17 = .ok (.astore_n 2, 1) := by decide +kernel
theorem d11_18 : decode jdk_65_method_121_code 18 = .ok (.aload_n 0, 1) := by decide +kernel
theorem d11_19 : decode jdk_65_method_121_code 19 = .ok (.iconst 0, 1) := by decide +kernel
theorem d11_20 : decode jdk_65_method_121_code 20 = .ok (.aload_n 2, 1) := by decide +kernel
theorem d11_21 : decode jdk_65_method_121_code 21 = .ok (.iconst 0, 1) := by decide +kernel
theorem d11_22 : decode jdk_65_method_121_code 22 = .ok (.aload_n 0, 1) := by decide +kernel
theorem d11_23 : decode jdk_65_method_121_code 23 = .ok (.arraylength, 1) := by decide +kernel
theorem d11_24 : decode jdk_65_method_121_code 24 = .ok (.iload_n 1, 1) := by decide +kernel
theorem d11_25 : decode jdk_65_method_121_code 25 = .ok (.invokestatic 304, 3) := by decide +kernel
theorem d11_28 : decode jdk_65_method_121_code 28 = .ok (.invokestatic 150, 3) := by decide +kernel
theorem d11_31 : decode jdk_65_method_121_code 31 = .ok (.aload_n 2, 1) := by decide +kernel
theorem d11_32 : decode jdk_65_method_121_code 32 = .ok (.areturn, 1) := by decide +kernel
theorem d12_0 : decode jdk_29_method_69_code 0 = .ok (.iload_n 0, 1) := by decide +kernel
theorem d12_1 : decode jdk_29_method_69_code 1 = .ok (.iload_n 1, 1) := by decide +kernel
theorem d12_2 : decode jdk_29_method_69_code 2 = .ok (.if_icmp .gt 7, 3) := by decide +kernel
theorem d12_5 : decode jdk_29_method_69_code 5 = .ok (.iload_n 0, 1) := by decide +kernel
theorem d12_6 : decode jdk_29_method_69_code 6 = .ok (.goto 4, 3) := by decide +kernel
theorem d12_9 : decode jdk_29_method_69_code 9 = .ok (.iload_n 1, 1) := by decide +kernel
theorem d12_10 : decode jdk_29_method_69_code 10 = .ok (.ireturn, 1) := by decide +kernel
theorem pn_0 : plainFor x = true := plainFor_of_name (by first | (simp [plainName, overriddenIn]; done) | decide +kernel)
theorem pn_1 : plainFor (⟨"com/example/phasorwire/phasorwire/RangeEncoder", "<init>", "()V"⟩ : MethodName) = true := plainFor_of_name (by first | (simp [plainName, overriddenIn]; done) | decide +kernel)
theorem pn_3 : plainFor (⟨"com/example/phasorwire/phasorwire/RangeEncoder", "lengthBound", "()J"⟩ : MethodName) = true := plainFor_of_name (by first | (simp [plainName, overriddenIn]; done) | decide +kernel)
theorem pn_4 : plainFor (⟨"com/example/phasorwire/phasorwire/RangeEncoderLengthBoundPinLaw", "prob", "(I)I"⟩ : MethodName) = true := plainFor_of_name (by first | (simp [plainName, overriddenIn]; done) | decide +kernel)
theorem pn_5 : plainFor (⟨"com/example/phasorwire/phasorwire/RangeEncoder", "encode", "(IZ)V"⟩ : MethodName) = true := plainFor_of_name (by first | (simp [plainName, overriddenIn]; done) | decide +kernel)
theorem pn_6 : plainFor (⟨"com/example/phasorwire/phasorwire/RangeEncoder", "shift", "()V"⟩ : MethodName) = true := plainFor_of_name (by first | (simp [plainName, overriddenIn]; done) | decide +kernel)
theorem pn_7 : plainFor (⟨"com/example/phasorwire/phasorwire/RangeEncoderLengthBoundPinLaw", "raw", "(JIZ)J"⟩ : MethodName) = true := plainFor_of_name (by first | (simp [plainName, overriddenIn]; done) | decide +kernel)
theorem pn_8 : plainFor (⟨"com/example/phasorwire/phasorwire/RangeEncoderLengthBoundPinLaw", "shifts", "(J)I"⟩ : MethodName) = true := plainFor_of_name (by first | (simp [plainName, overriddenIn]; done) | decide +kernel)
theorem pn_9 : plainFor (⟨"com/example/phasorwire/phasorwire/RangeEncoder", "write", "(I)V"⟩ : MethodName) = true := plainFor_of_name (by first | (simp [plainName, overriddenIn]; done) | decide +kernel)
theorem pn_10 : plainFor (⟨"com/example/phasorwire/phasorwire/RangeEncoder", "finish", "()[B"⟩ : MethodName) = true := plainFor_of_name (by first | (simp [plainName, overriddenIn]; done) | decide +kernel)
theorem pn_11 : plainFor (⟨"java/util/Arrays", "copyOf", "([BI)[B"⟩ : MethodName) = true := plainFor_of_name (by first | (simp [plainName, overriddenIn]; done) | decide +kernel)
theorem pn_12 : plainFor (⟨"java/lang/Math", "min", "(II)I"⟩ : MethodName) = true := Jvm.Free.JP.mathPlain rfl (by decide +kernel)
theorem own_lt32 {a b : Int32} (h : a.toInt < b.toInt) : a < b := Int32.lt_iff_toInt_lt.mpr h
theorem own_nlt32 {a b : Int32} (h : ¬ a.toInt < b.toInt) : ¬ a < b := fun z => h (Int32.lt_iff_toInt_lt.mp z)
theorem own_eq32 {a b : Int32} (h : a.toInt = b.toInt) : a = b := Int32.toInt_inj.mp h
theorem own_ne32 {a b : Int32} (h : ¬ a.toInt = b.toInt) : ¬ a = b := fun z => h (congrArg Int32.toInt z)
theorem own_lt32' {a b : Int32} (h : a < b) : a.toInt < b.toInt := Int32.lt_iff_toInt_lt.mp h
theorem own_nlt32' {a b : Int32} (h : ¬ a < b) : ¬ a.toInt < b.toInt := fun z => h (Int32.lt_iff_toInt_lt.mpr z)
theorem own_eq32' {a b : Int32} (h : a = b) : a.toInt = b.toInt := congrArg Int32.toInt h
theorem own_ne32' {a b : Int32} (h : ¬ a = b) : ¬ a.toInt = b.toInt := fun z => h (Int32.toInt_inj.mp z)
theorem own_lt64 {a b : Int64} (h : a.toInt < b.toInt) : a < b := Int64.lt_iff_toInt_lt.mpr h
theorem own_nlt64 {a b : Int64} (h : ¬ a.toInt < b.toInt) : ¬ a < b := fun z => h (Int64.lt_iff_toInt_lt.mp z)
theorem own_eq64 {a b : Int64} (h : a.toInt = b.toInt) : a = b := Int64.toInt_inj.mp h
theorem own_ne64 {a b : Int64} (h : ¬ a.toInt = b.toInt) : ¬ a = b := fun z => h (congrArg Int64.toInt z)
theorem own_lt64' {a b : Int64} (h : a < b) : a.toInt < b.toInt := Int64.lt_iff_toInt_lt.mp h
theorem own_nlt64' {a b : Int64} (h : ¬ a < b) : ¬ a.toInt < b.toInt := fun z => h (Int64.lt_iff_toInt_lt.mpr z)
theorem own_eq64' {a b : Int64} (h : a = b) : a.toInt = b.toInt := congrArg Int64.toInt h
theorem own_ne64' {a b : Int64} (h : ¬ a = b) : ¬ a.toInt = b.toInt := fun z => h (Int64.toInt_inj.mp z)
def rmz : Room := { frames := 0, cells := 0, slots := 0, locals := 0 }
def rmi : Room := { frames := 1, cells := 1, slots := 32, locals := 12 }
def rmh : Room := { frames := 1, cells := 0, slots := 0, locals := 16 }
def rme : Room := { frames := 2, cells := 0, slots := 0, locals := 32 }
def rmc : Room := { frames := 1, cells := 1, slots := 32, locals := 40 }
def rmf : Room := { frames := 2, cells := 1, slots := 32, locals := 64 }
def own_min (a b : Int32) : Int32 := if b < a then b else a
def Enc (Z : State) (h : Heap) (a b : Addr) (kk : ClassId) (lo ra : Int64) (he : Int32) (on : Int64) (bs : List Int32) : Prop := Exa Z h a "com/example/phasorwire/phasorwire/RangeEncoder" ∧ Fld Z h a "com/example/phasorwire/phasorwire/RangeEncoder" "low" "J" (.long lo) ∧ Fld Z h a "com/example/phasorwire/phasorwire/RangeEncoder" "range" "J" (.long ra) ∧ Fld Z h a "com/example/phasorwire/phasorwire/RangeEncoder" "held" "I" (.int he) ∧ Fld Z h a "com/example/phasorwire/phasorwire/RangeEncoder" "heldOnes" "J" (.long on) ∧ Fld Z h a "com/example/phasorwire/phasorwire/RangeEncoder" "bytes" "[B" (.ref b) ∧ Fld Z h a "com/example/phasorwire/phasorwire/RangeEncoder" "length" "I" (.int (Int32.ofNat bs.length)) ∧ Arv Z h b kk .byte (32 : Int32) (bs.map Value.int) (.int (0 : Int32)) ∧ a ≠ b
def QI (x : Int32) (h0 : Heap) (v : Option Value) (h : Heap) : Prop := v = some (.int x) ∧ h = h0
def QJ (x : Int64) (h0 : Heap) (v : Option Value) (h : Heap) : Prop := v = some (.long x) ∧ h = h0
def QE (Z : State) (a b : Addr) (kk : ClassId) (lo ra : Int64) (he : Int32) (on : Int64) (bs : List Int32) (v : Option Value) (h : Heap) : Prop := v = none ∧ Enc Z h a b kk lo ra he on bs
def QN (Z : State) (h0 : Heap) (a : Addr) (v : Option Value) (h : Heap) : Prop := v = none ∧ ∃ b kk, Enc Z h a b kk 0 4294967295 (-1) 0 [] ∧ h0.size ≤ b
def QY (Z : State) (h0 : Heap) (n : Int32) (vs : List Value) (v : Option Value) (h : Heap) : Prop := ∃ (r : Addr) (k : ClassId), v = some (.ref r) ∧ h0.size ≤ r ∧ Arv Z h r k .byte n vs (.int (0 : Int32))
def Q0 (v : Option Value) (h : Heap) : Prop := v = some (.int 1)
theorem own_ofn (n : Nat) (h : n < 2147483648) : (Int32.ofNat n).toInt = n := Int32.toInt_ofNat_of_lt h
theorem own_lt32c (n : Nat) (h : n < 32) : ¬ (Int32.ofNat n = 32) := fun q => by
  have e := congrArg Int32.toInt q
  rw [own_ofn n (by omega)] at e
  have k : (32 : Int32).toInt = 32 := rfl
  omega
theorem own_inb (n : Nat) (h : n < 32) : ¬ (Int32.ofNat n < 0) ∧ Int32.ofNat n < 32 := by
  have e := own_ofn n (by omega)
  refine ⟨own_nlt32 (by rw [e]; show ¬ ((n : Int) < 0); omega), own_lt32 (by rw [e]; show (n : Int) < 32; omega)⟩
theorem own_tn (i : Int32) : i.toNatClampNeg = i.toInt.toNat := rfl
theorem own_cl (n : Nat) (h : n < 2147483648) : (Int32.ofNat n).toNatClampNeg = n := by rw [own_tn, own_ofn n h]; omega
theorem own_add1 (n : Nat) (h : n < 2147483647) : Int32.ofNat n + 1 = Int32.ofNat (n + 1) := by
  apply Int32.toInt_inj.mp
  have e1 := own_ofn n (by omega)
  have e2 := own_ofn (n + 1) (by omega)
  have e3 := c_iadd (Int32.ofNat n) 1
  have k : (1 : Int32).toInt = 1 := rfl
  have r := rng32 (Int32.ofNat n + 1)
  omega
theorem own_set (bs : List Int32) (x : Int32) : (bs.map Value.int ++ List.replicate 1 (Value.int (0 : Int32))).set bs.length (.int x) = (bs ++ [x]).map Value.int := by
  rw [List.map_append, List.set_append_right _ _ (by simp)]; simp
theorem own_len (bs : List Int32) : bs.length < (bs.map Value.int ++ List.replicate 1 (Value.int (0 : Int32))).length := by simp
def own_by (x : Int32) : Int32 := x.toInt8.toInt32
theorem own_byby (x : Int32) : x.toInt8.toInt32.toInt8.toInt32 = own_by x := by unfold own_by; simp
def sh_fl (lo : Int64) : Prop := lo < 4278190080 ∨ ¬ (lo < 4294967296)
def sh_ca (lo : Int64) : Int32 := (own_ushrL lo 32).toInt32
def sh_he (lo : Int64) : Int32 := (own_ushrL lo 24).toInt32 &&& 255
def sh_lo (lo : Int64) : Int64 := (lo &&& 16777215) <<< ((8 : Int32) &&& 63).toInt64
def sh_b1 (lo : Int64) (he : Int32) (bs : List Int32) : List Int32 := if he < 0 then bs else bs ++ [own_by (he + sh_ca lo)]
def sh_bs (lo : Int64) (he : Int32) (on : Int64) (bs : List Int32) : List Int32 := sh_b1 lo he bs ++ List.replicate on.toInt.toNat (own_by (255 + sh_ca lo))
def QS (Z : State) (a b : Addr) (kk : ClassId) (lo ra : Int64) (he : Int32) (on : Int64) (bs : List Int32) (v : Option Value) (h : Heap) : Prop := v = none ∧ ((sh_fl lo ∧ Enc Z h a b kk (sh_lo lo) ra (sh_he lo) 0 (sh_bs lo he on bs)) ∨ (¬ sh_fl lo ∧ Enc Z h a b kk (sh_lo lo) ra he (on + 1) bs))
theorem own_z64 (x : Int64) (h : x.toInt = 0) : x = 0 := Int64.toInt_inj.mp h
theorem own_dec (x : Int64) (t : Nat) (h : x.toInt = (t + 1 : Nat)) : (x - 1).toInt = t := by
  have e := c_lsub x 1
  have k : (1 : Int64).toInt = 1 := rfl
  have r := rng64 (x - 1)
  have r2 := rng64 x
  omega
theorem own_rep (bs : List Int32) (x : Int32) (t : Nat) : (bs ++ [x]) ++ List.replicate t x = bs ++ List.replicate (t + 1) x := by
  rw [List.append_assoc]; rfl
def own_bd (ra : Int64) (p : Int32) : Int64 := own_ushrL ra 12 * p.toInt64
def own_r0 (ra : Int64) (p : Int32) : Int64 := own_bd ra p
def own_r1 (ra : Int64) (p : Int32) : Int64 := ra - own_bd ra p
theorem own_a1 (x : Int64) : x &&& (-1) = x := by
  apply Int64.toBitVec_inj.mp
  show x.toBitVec &&& BitVec.allOnes 64 = x.toBitVec
  exact BitVec.and_allOnes
theorem own_a0 (x : Int64) : x &&& 0 = 0 := by
  apply Int64.toBitVec_inj.mp
  show x.toBitVec &&& 0#64 = 0#64
  simp
theorem own_e0 (ra : Int64) (p : Int32) : own_bd ra p + ((ra - 2 * own_bd ra p) &&& 0) = own_r0 ra p := by
  rw [own_a0]; unfold own_r0
  have e := c_ladd (own_bd ra p) 0
  have k : (0 : Int64).toInt = 0 := rfl
  have r := rng64 (own_bd ra p + 0)
  have r2 := rng64 (own_bd ra p)
  apply Int64.toInt_inj.mp; omega
theorem own_e1 (ra : Int64) (p : Int32) : own_bd ra p + ((ra - 2 * own_bd ra p) &&& (-1)) = own_r1 ra p := by
  rw [own_a1]; unfold own_r1
  have e1 := c_lmul 2 (own_bd ra p)
  have k : (2 : Int64).toInt = 2 := rfl
  rw [k] at e1
  have e2 := c_lsub ra (2 * own_bd ra p)
  have e3 := c_ladd (own_bd ra p) (ra - 2 * own_bd ra p)
  have e4 := c_lsub ra (own_bd ra p)
  have r1 := rng64 (own_bd ra p + (ra - 2 * own_bd ra p))
  have r2 := rng64 (ra - own_bd ra p)
  apply Int64.toInt_inj.mp; omega
def Rok (ra : Int64) : Prop := 16777216 ≤ ra.toInt ∧ ra.toInt < 4294967296
def Pok (p : Int32) : Prop := 1 ≤ p.toInt ∧ p.toInt ≤ 4095
theorem own_p12 : ((2 ^ 12 : Nat) : Int) = 4096 := rfl
theorem own_us (ra : Int64) (h : Rok ra) : (own_ushrL ra 12).toInt = ra.toInt / 4096 := by
  unfold Rok at h
  have e : (own_ushrL ra 12).toInt = (ra.toInt % 18446744073709551616) / ((2 ^ 12 : Nat) : Int) := c_lushr ra 12 12 rfl (by decide)
  rw [own_p12] at e
  omega
theorem own_bdv (ra : Int64) (p : Int32) (h : Rok ra) (g : Pok p) : (own_bd ra p).toInt = (ra.toInt / 4096) * p.toInt ∧ ra.toInt / 4096 ≤ (own_bd ra p).toInt ∧ (own_bd ra p).toInt ≤ ra.toInt - ra.toInt / 4096 := by
  have e1 := own_us ra h
  have e2 := c_i2l p
  have e3 := c_lmul (own_ushrL ra 12) p.toInt64
  have r := rng64 (own_ushrL ra 12 * p.toInt64)
  unfold Rok at h
  unfold Pok at g
  rw [e1, e2] at e3
  have m1 : (ra.toInt / 4096) * 1 ≤ (ra.toInt / 4096) * p.toInt := Int.mul_le_mul_of_nonneg_left g.1 (by omega)
  have m2 : (ra.toInt / 4096) * p.toInt ≤ (ra.toInt / 4096) * 4095 := Int.mul_le_mul_of_nonneg_left g.2 (by omega)
  unfold own_bd
  generalize (ra.toInt / 4096) * p.toInt = X at *
  omega
theorem own_rb0 (ra : Int64) (p : Int32) (h : Rok ra) (g : Pok p) : 4096 ≤ (own_r0 ra p).toInt ∧ (own_r0 ra p).toInt < 4294967296 := by
  have e := own_bdv ra p h g
  unfold Rok at h; unfold own_r0; omega
theorem own_rb1 (ra : Int64) (p : Int32) (h : Rok ra) (g : Pok p) : 4096 ≤ (own_r1 ra p).toInt ∧ (own_r1 ra p).toInt < 4294967296 := by
  have e := own_bdv ra p h g
  have e4 := c_lsub ra (own_bd ra p)
  have r2 := rng64 (ra - own_bd ra p)
  unfold Rok at h; unfold own_r1; omega
theorem own_p8 : ((2 ^ 8 : Nat) : Int) = 256 := rfl
theorem own_sl8 (r : Int64) (h : 0 ≤ r.toInt ∧ r.toInt < 16777216) : (r <<< ((8 : Int32) &&& 63).toInt64).toInt = 256 * r.toInt := by
  have e : ((r <<< ((8 : Int32) &&& 63).toInt64).toInt - r.toInt * ((2 ^ 8 : Nat) : Int)) % 18446744073709551616 = 0 := c_lshl r 8 8 rfl
  rw [own_p8] at e
  have q := rng64 (r <<< ((8 : Int32) &&& 63).toInt64)
  omega
theorem own_pr (x : Int32) : Pok (1 + (x &&& 2147483647) % 4095) := by
  have e1 := c_and x 2147483647 (by decide)
  have e2 := (c_irem (x &&& 2147483647) 4095 4095 rfl).1 e1.1
  have e3 := c_iadd 1 ((x &&& 2147483647) % 4095)
  have k : (1 : Int32).toInt = 1 := rfl
  have r := rng32 (1 + (x &&& 2147483647) % 4095)
  unfold Pok; omega
theorem own_gd (bs : List Int32) (i : Nat) : (bs.map Value.int).getD i (.int (0 : Int32)) = .int (bs.getD i 0) := by
  simp only [List.getD_eq_getElem?_getD, List.getElem?_map]
  cases bs[i]? <;> rfl
theorem own_sub1 (n : Nat) (h0 : 0 < n) (h : n < 100) : (Int32.ofNat n - 1).toInt = (n : Int) - 1 := by
  have e0 := own_ofn n (by omega)
  have e1 := c_isub (Int32.ofNat n) 1
  have k : (1 : Int32).toInt = 1 := rfl
  have r := rng32 (Int32.ofNat n - 1)
  omega
theorem own_subn (n : Nat) (h : n + 1 < 100) : Int32.ofNat (n + 1) + (-1) = Int32.ofNat n := by
  apply Int32.toInt_inj.mp
  have e0 := own_ofn (n + 1) (by omega)
  have e2 := own_ofn n (by omega)
  have e1 := c_iadd (Int32.ofNat (n + 1)) (-1)
  have k : (-1 : Int32).toInt = -1 := rfl
  have r := rng32 (Int32.ofNat (n + 1) + (-1))
  omega
theorem own_mn (k : Nat) (h : k < 32) : own_min 32 (Int32.ofNat k) = Int32.ofNat k := by
  unfold own_min; rw [if_pos (own_inb k h).2]
def Inv (he : Int32) (on : Int64) (bs : List Int32) (t : Int) : Prop := 0 ≤ on.toInt ∧ ((he < 0 ∧ bs.length = 0 ∧ on.toInt = t) ∨ (¬ (he < 0) ∧ (bs.length : Int) + 1 + on.toInt = t))
theorem own_hepos (lo : Int64) : ¬ (sh_he lo < 0) := by
  have e := c_and (own_ushrL lo 24).toInt32 255 (by decide)
  exact own_nlt32 (by show ¬ (((own_ushrL lo 24).toInt32 &&& 255).toInt < 0); omega)
theorem own_shY (lo : Int64) (he : Int32) (on : Int64) (bs : List Int32) (t : Int) (h : Inv he on bs t) : Inv (sh_he lo) 0 (sh_bs lo he on bs) (t + 1) := by
  have k0 : (0 : Int64).toInt = 0 := rfl
  obtain ⟨h1, h2⟩ := h
  refine ⟨by rw [k0]; omega, Or.inr ⟨own_hepos lo, ?_⟩⟩
  rw [k0]
  unfold sh_bs sh_b1
  rw [List.length_append, List.length_replicate]
  rcases h2 with ⟨g1, g2, g3⟩ | ⟨g1, g2⟩
  · rw [if_pos g1]; omega
  · rw [if_neg g1, List.length_append]; simp only [List.length_cons, List.length_nil]; omega
theorem own_shN (he : Int32) (on : Int64) (bs : List Int32) (t : Int) (h : Inv he on bs t) (ht : t ≤ 1000) : Inv he (on + 1) bs (t + 1) := by
  obtain ⟨h1, h2⟩ := h
  have e := c_ladd on 1
  have k1 : (1 : Int64).toInt = 1 := rfl
  have r := rng64 (on + 1)
  have f : on.toInt ≤ t := by rcases h2 with ⟨g1, g2, g3⟩ | ⟨g1, g2⟩ <;> omega
  have e' : (on + 1).toInt = on.toInt + 1 := by omega
  refine ⟨by omega, ?_⟩
  rw [e']
  rcases h2 with ⟨g1, g2, g3⟩ | ⟨g1, g2⟩
  · exact Or.inl ⟨g1, g2, by omega⟩
  · exact Or.inr ⟨g1, by omega⟩
theorem own_cap (he : Int32) (on : Int64) (bs : List Int32) (t : Int) (h : Inv he on bs t) (ht : t ≤ 31) : 0 ≤ on.toInt ∧ bs.length + 1 + on.toInt.toNat ≤ 32 := by
  obtain ⟨h1, h2⟩ := h
  rcases h2 with ⟨g1, g2, g3⟩ | ⟨g1, g2⟩ <;> omega
def QSh (Z : State) (a b : Addr) (kk : ClassId) (ra : Int64) (t : Int) (v : Option Value) (h : Heap) : Prop := v = none ∧ ∃ lo he on bs, Enc Z h a b kk lo ra he on bs ∧ Inv he on bs (t + 1)
def own_rel (r ra n : Int) : Prop := (n = 0 ∧ 16777216 ≤ r ∧ ra = r) ∨ (n = 1 ∧ r < 16777216 ∧ 65536 ≤ r ∧ ra = 256 * r) ∨ (n = 2 ∧ r < 65536 ∧ ra = 65536 * r)
def QEn (Z : State) (a b : Addr) (kk : ClassId) (r t : Int) (v : Option Value) (h : Heap) : Prop := v = none ∧ ∃ lo ra he on bs n, Enc Z h a b kk lo ra he on bs ∧ own_rel r ra.toInt n ∧ Inv he on bs (t + n)
def QLb (h0 : Heap) (t : Int) (v : Option Value) (h : Heap) : Prop := h = h0 ∧ ∃ x : Int64, v = some (.long x) ∧ x.toInt = t + 4
def QPr (h0 : Heap) (v : Option Value) (h : Heap) : Prop := h = h0 ∧ ∃ x : Int32, v = some (.int x) ∧ Pok x
def QSs (h0 : Heap) (r : Int) (v : Option Value) (h : Heap) : Prop := h = h0 ∧ ∃ s : Int32, v = some (.int s) ∧ ((s = 0 ∧ 16777216 ≤ r) ∨ (s = 1 ∧ r < 16777216 ∧ 65536 ≤ r) ∨ (s = 2 ∧ r < 65536))
def QF (Z : State) (t : Int) (v : Option Value) (h : Heap) : Prop := ∃ r kk n vs, v = some (.ref r) ∧ Arv Z h r kk .byte n vs (.int (0 : Int32)) ∧ 0 ≤ n.toInt ∧ n.toInt ≤ t + 4
theorem own_lbv (n : Nat) (d : Int32) (on : Int64) (t : Int) (hn : n ≤ 100) (hd : d.toInt = 0 ∨ d.toInt = 1) (ho : 0 ≤ on.toInt ∧ on.toInt ≤ 100) (h : (n : Int) + d.toInt + on.toInt = t) : ((Int32.ofNat n + d).toInt64 + on + 4).toInt = t + 4 := by
  have e0 := own_ofn n (by omega)
  have e1 := c_iadd (Int32.ofNat n) d
  have r1 := rng32 (Int32.ofNat n + d)
  have e2 := c_i2l (Int32.ofNat n + d)
  have e3 := c_ladd (Int32.ofNat n + d).toInt64 on
  have r3 := rng64 ((Int32.ofNat n + d).toInt64 + on)
  have e4 := c_ladd ((Int32.ofNat n + d).toInt64 + on) 4
  have r4 := rng64 ((Int32.ofNat n + d).toInt64 + on + 4)
  have k : (4 : Int64).toInt = 4 := rfl
  omega
theorem own_s8 (r : Int64) (s : Int32) (h : 4096 ≤ r.toInt ∧ r.toInt < 4294967296) (g : (s = 0 ∧ 16777216 ≤ r.toInt) ∨ (s = 1 ∧ r.toInt < 16777216 ∧ 65536 ≤ r.toInt) ∨ (s = 2 ∧ r.toInt < 65536)) : own_rel r.toInt (r <<< ((8 * s) &&& 63).toInt64).toInt s.toInt := by
  rcases g with ⟨rfl, g1⟩ | ⟨rfl, g1, g2⟩ | ⟨rfl, g1⟩
  · refine Or.inl ⟨rfl, g1, ?_⟩
    have e : ((r <<< ((8 * (0 : Int32)) &&& 63).toInt64).toInt - r.toInt * ((2 ^ 0 : Nat) : Int)) % 18446744073709551616 = 0 := c_lshl r 0 0 rfl
    have k : ((2 ^ 0 : Nat) : Int) = 1 := rfl
    rw [k] at e
    have q := rng64 (r <<< ((8 * (0 : Int32)) &&& 63).toInt64)
    omega
  · refine Or.inr (Or.inl ⟨rfl, g1, g2, ?_⟩)
    have e : ((r <<< ((8 * (1 : Int32)) &&& 63).toInt64).toInt - r.toInt * ((2 ^ 8 : Nat) : Int)) % 18446744073709551616 = 0 := c_lshl r 8 8 rfl
    rw [own_p8] at e
    have q := rng64 (r <<< ((8 * (1 : Int32)) &&& 63).toInt64)
    omega
  · refine Or.inr (Or.inr ⟨rfl, g1, ?_⟩)
    have e : ((r <<< ((8 * (2 : Int32)) &&& 63).toInt64).toInt - r.toInt * ((2 ^ 16 : Nat) : Int)) % 18446744073709551616 = 0 := c_lshl r 16 16 rfl
    have k : ((2 ^ 16 : Nat) : Int) = 65536 := rfl
    rw [k] at e
    have q := rng64 (r <<< ((8 * (2 : Int32)) &&& 63).toInt64)
    omega
theorem own_un (r x y n m : Int) (h : own_rel r x n) (g : own_rel r y m) : x = y ∧ n = m := by
  unfold own_rel at h g; omega
theorem own_ok (r x n : Int) (h : own_rel r x n) (g : 4096 ≤ r ∧ r < 4294967296) : 16777216 ≤ x ∧ x < 4294967296 ∧ 0 ≤ n ∧ n ≤ 2 := by
  unfold own_rel at h; omega
theorem own_ex (ex : Int64) (s : Int32) (t n : Int) (h : ex.toInt = t + 4) (g : s.toInt = n) (b : 0 ≤ t ∧ t ≤ 100 ∧ 0 ≤ n ∧ n ≤ 2) : (ex + s.toInt64).toInt = t + n + 4 := by
  have e1 := c_i2l s
  have e2 := c_ladd ex s.toInt64
  have r := rng64 (ex + s.toInt64)
  omega
set_option maxRecDepth 65536 in
set_option maxHeartbeats 40000000 in
theorem rm_min (l : Launch) (Z : State) (a0 : Array Value) (hw : ∀ d ∈ tables_1, d.before a0 Z = true) (p1 p2 : Int32) (h0 : Heap)  (cs : List Jvm.Cond) :
    OwnCtr l Z (⟨"java/lang/Math", "min", "(II)I"⟩ : MethodName) jdk_29_method_69_code 2 (some .int) rmz #[(.int p1), (.int p2)] h0 [] (QI (own_min p1 p2) h0) cs := by
  refine ow_ctr pn_12 hw (Ls := #[.val (.int p1), .val (.int p2)]) (fun m => by first | (simp [entryFrame, mkF, argsToLocals, Value.category]; done) | rfl) ?_
  intro p e s m below meth c T0 C A0
  refine ow_iloadN C A0 d12_0 rfl rfl ?_
  refine ow_iloadN C A0 d12_1 rfl rfl ?_
  refine ow_icmp_gt C A0 d12_2 (by decide) (pcY := 9) (by decide) (pcN := 5) rfl (fun hc2 => ?_) (fun hc2 => ?_)
  · skip
    refine ow_iloadN C A0 d12_9 rfl rfl ?_
    refine ow_ireturn C A0 (t := .int) rfl rfl (by simp) d12_10 (by decide) (by decide) ?_
    exact ⟨by simp [own_min, hc2], rfl⟩
  · skip
    refine ow_iloadN C A0 d12_5 rfl rfl ?_
    refine ow_goto C A0 d12_6 (by decide) (pc' := 10) (by decide) ?_
    refine ow_ireturn C A0 (t := .int) rfl rfl (by simp) d12_10 (by decide) (by decide) ?_
    exact ⟨by simp [own_min, hc2], rfl⟩
set_option maxRecDepth 65536 in
set_option maxHeartbeats 40000000 in
theorem rm_init (l : Launch) (Z : State) (a0 : Array Value) (hw : ∀ d ∈ tables_1, d.before a0 Z = true) (a : Addr) (h0 : Heap) (E : Exa Z h0 a "com/example/phasorwire/phasorwire/RangeEncoder") (F_low : Fld Z h0 a "com/example/phasorwire/phasorwire/RangeEncoder" "low" "J" (.long (0 : Int64))) (F_range : Fld Z h0 a "com/example/phasorwire/phasorwire/RangeEncoder" "range" "J" (.long (0 : Int64))) (F_held : Fld Z h0 a "com/example/phasorwire/phasorwire/RangeEncoder" "held" "I" (.int (0 : Int32))) (F_heldOnes : Fld Z h0 a "com/example/phasorwire/phasorwire/RangeEncoder" "heldOnes" "J" (.long (0 : Int64))) (F_bytes : Fld Z h0 a "com/example/phasorwire/phasorwire/RangeEncoder" "bytes" "[B" .null) (F_length : Fld Z h0 a "com/example/phasorwire/phasorwire/RangeEncoder" "length" "I" (.int (0 : Int32))) (cs : List Jvm.Cond) :
    OwnCtr l Z (⟨"com/example/phasorwire/phasorwire/RangeEncoder", "<init>", "()V"⟩ : MethodName) prog_63_method_1_code 1 none rmi #[(.ref a)] h0 [a] (QN Z h0 a) cs := by
  refine ow_ctr pn_1 hw (Ls := #[.val (.ref a)]) (fun m => by first | (simp [entryFrame, mkF, argsToLocals, Value.category]; done) | rfl) ?_
  intro p e s m below meth c T0 C A0
  refine ow_aloadN C A0 d1_0 rfl rfl rfl ?_
  refine ow_initO C A0 tw_6 tw_7 tw_8 rfl d1_1 rfl (by decide) (W := 0) (Nat.le_of_eq rfl) (by decide) ?_
  intro T1 A2
  refine ow_aloadN C A2 d1_4 rfl rfl rfl ?_
  refine ow_ldc2 C A2 tw_9 d1_5 rfl ?_
  refine ow_putF C A2 tw_10 Via.refl F_range E tw_11 tw_1 (ty := .long) (by decide) rfl rfl (Or.inl (List.mem_of_getElem? (i := 0) rfl)) d1_8 rfl ?_
  intro T3 h5 W6 A4
  have f7 := F_range.same W6
  refine ow_aloadN C A4 d1_11 rfl rfl rfl ?_
  refine ow_iconst C A4 d1_12 (v := (-1)) rfl rfl ?_
  have f8 := (F_held.other W6 (Or.inr (sn_0 hw)))
  have f9 := (E.wr W6)
  refine ow_putF C A4 tw_12 Via.refl f8 f9 tw_13 tw_1 (ty := .int) (by decide) rfl rfl (Or.inl (List.mem_of_getElem? (i := 0) rfl)) d1_13 rfl ?_
  intro T10 h12 W13 A11
  have f14 := f8.same W13
  refine ow_aloadN C A11 d1_16 rfl rfl rfl ?_
  refine ow_bipush C A11 d1_17 (v := 32) rfl rfl ?_
  refine ow_newA C A11 (ty := .byte) rfl tw_14 d1_19 rfl (by decide) (cap := 32) (by decide) (by decide) (ck' := 1) (sk' := 32) rfl rfl (by decide) (by decide) ?_
  intro T15 h17 b18 kk19 g20 E21 V22 A16
  have f23 := (f9.wr W13)
  have ne24 : a ≠ b18 := Nat.ne_of_lt (Nat.lt_of_lt_of_le f23.lt (Nat.le_of_eq g20.symm))
  have ows_b18 : b18 ∈ ([a] : List Addr) ∨ h0.size ≤ b18 := Or.inr (Nat.le_trans (ow_le A11) (Nat.le_of_eq g20.symm))
  have f25 := (((F_bytes.other W6 (Or.inr (sn_1 hw))).other W13 (Or.inr (sn_2 hw))).ext E21)
  have f26 := (f23.ext E21)
  refine ow_putF C A16 tw_15 Via.refl f25 f26 tw_16 tw_1 (ty := (.array .byte)) (by decide) rfl rfl (Or.inl (List.mem_of_getElem? (i := 0) rfl)) d1_21 rfl ?_
  intro T27 h29 W30 A28
  have f31 := f25.same W30
  have f32 := (V22.other W30 (Ne.symm ne24))
  have f33 := (f26.wr W30)
  have f34 := ((((F_low.other W6 (Or.inr (sn_3 hw))).other W13 (Or.inr (sn_4 hw))).ext E21).other W30 (Or.inr (sn_5 hw)))
  have f35 := (((f7.other W13 (Or.inr (sn_6 hw))).ext E21).other W30 (Or.inr (sn_7 hw)))
  have f36 := ((f14.ext E21).other W30 (Or.inr (sn_8 hw)))
  have f37 := ((((F_heldOnes.other W6 (Or.inr (sn_9 hw))).other W13 (Or.inr (sn_10 hw))).ext E21).other W30 (Or.inr (sn_11 hw)))
  have f38 := ((((F_length.other W6 (Or.inr (sn_12 hw))).other W13 (Or.inr (sn_13 hw))).ext E21).other W30 (Or.inr (sn_14 hw)))
  refine ow_return C A28 rfl d1_24 (by decide) (by decide) ?_
  exact ⟨rfl, b18, kk19, ⟨f33, f34, f35, f36, f37, f31, f38, f32, ne24⟩, (ows_b18.elim (fun q => absurd (List.mem_singleton.mp q) (Ne.symm ne24)) id)⟩
set_option maxRecDepth 65536 in
set_option maxHeartbeats 40000000 in
theorem rm_write (l : Launch) (Z : State) (a0 : Array Value) (hw : ∀ d ∈ tables_1, d.before a0 Z = true) (a b : Addr) (kk : ClassId) (lo ra : Int64) (he : Int32) (on : Int64) (bs : List Int32) (p : Int32) (h0 : Heap) (O : Enc Z h0 a b kk lo ra he on bs) (hlen : bs.length < 32) (cs : List Jvm.Cond) :
    OwnCtr l Z (⟨"com/example/phasorwire/phasorwire/RangeEncoder", "write", "(I)V"⟩ : MethodName) prog_63_method_6_code 2 none rmz #[(.ref a), (.int p)] h0 [a, b] (QE Z a b kk lo ra he on (bs ++ [own_by p])) cs := by
  refine ow_ctr pn_9 hw (Ls := #[.val (.ref a), .val (.int p)]) (fun m => by first | (simp [entryFrame, mkF, argsToLocals, Value.category]; done) | rfl) ?_
  intro pG e s m below meth c T0 C A0
  obtain ⟨xE1, xL1, xR1, xH1, xO1, xB1, xN1, xV1, xU1⟩ := O
  refine ow_aloadN C A0 d9_0 rfl rfl rfl ?_
  refine ow_getF C A0 tw_24 Via.refl xN1 d9_1 rfl ?_
  intro T2 A3
  refine ow_aloadN C A3 d9_4 rfl rfl rfl ?_
  refine ow_getF C A3 tw_15 Via.refl xB1 d9_5 rfl ?_
  intro T4 A5
  refine ow_alen C A5 xV1 d9_8 rfl ?_
  refine ow_icmp_ne C A5 d9_9 (by decide) (pcY := 29) (by decide) (pcN := 12) rfl (fun _ => ?_) (fun zq => absurd zq (own_lt32c _ hlen))
  refine ow_aloadN C A5 d9_29 rfl rfl rfl ?_
  refine ow_getF C A5 tw_15 Via.refl xB1 d9_30 rfl ?_
  intro T6 A7
  refine ow_aloadN C A7 d9_33 rfl rfl rfl ?_
  refine ow_dup C A7 d9_34 rfl rfl ?_
  refine ow_getF C A7 tw_24 Via.refl xN1 d9_35 rfl ?_
  intro T8 A9
  refine ow_dup_x1 C A9 d9_38 rfl rfl rfl ?_
  refine ow_iconst C A9 d9_39 (v := 1) rfl rfl ?_
  refine ow_iadd C A9 d9_40 rfl ?_
  rw [own_add1 _ (by omega)]
  refine ow_putF C A9 tw_24 Via.refl xN1 xE1 tw_25 tw_1 (ty := .int) (by decide) rfl rfl (Or.inl (List.mem_of_getElem? (i := 0) rfl)) d9_41 rfl ?_
  intro T10 h12 W13 A11
  have f14 := xN1.same W13
  refine ow_iloadN C A11 d9_44 rfl rfl ?_
  refine ow_i2b C A11 d9_45 rfl ?_
  have f15 := (xV1.other W13 (Ne.symm xU1))
  have V16 := f15.pad (pad_rep (bs.map Value.int) (.int (0 : Int32)) 1)
  refine ow_bastore C A11 V16 (own_inb _ hlen) (i := bs.length) (own_cl _ (by omega)) (own_len bs) (Or.inl (List.mem_of_getElem? (i := 1) rfl)) d9_46 rfl ?_
  intro T17 h19 W20 V21 A18
  have V22 := (own_set bs (own_by p) ▸ (own_byby p ▸ V21))
  have f24 := (f14.other W20 (Or.inl xU1))
  have f23 : Fld Z h19 a "com/example/phasorwire/phasorwire/RangeEncoder" "length" "I" (.int (Int32.ofNat (bs ++ [own_by p]).length)) := by have q := f24; rw [List.length_append]; exact q
  have f25 := ((xE1.wr W13).wr W20)
  have f26 := ((xL1.other W13 (Or.inr (sn_15 hw))).other W20 (Or.inl xU1))
  have f27 := ((xR1.other W13 (Or.inr (sn_16 hw))).other W20 (Or.inl xU1))
  have f28 := ((xH1.other W13 (Or.inr (sn_17 hw))).other W20 (Or.inl xU1))
  have f29 := ((xO1.other W13 (Or.inr (sn_18 hw))).other W20 (Or.inl xU1))
  have f30 := ((xB1.other W13 (Or.inr (sn_19 hw))).other W20 (Or.inl xU1))
  refine ow_return C A18 rfl d9_47 (by decide) (by decide) ?_
  exact ⟨rfl, ⟨f25, f26, f27, f28, f29, f30, f23, V22, xU1⟩⟩
set_option maxRecDepth 65536 in
set_option maxHeartbeats 40000000 in
theorem shift_loop {p : Program} {l : Launch} {e : Env} {s : State} {m : MethodId} {args : Array Value} {below : List Frame} {meth : Method} {c : Code} {Z : State} {a0 : Array Value} {h0 : Heap} {Q : Option Value → Heap → Prop} (hw : ∀ d ∈ tables_1, d.before a0 Z = true) (C : OwnCtx p s m meth c Z a0 tables_1 (⟨"com/example/phasorwire/phasorwire/RangeEncoder", "shift", "()V"⟩ : MethodName) prog_63_method_5_code 2 none) (a b : Addr) (kk : ClassId) (lo ra : Int64) (he ca : Int32) :
    ∀ (t : Nat) (T : State) (h : Heap) (on : Int64) (bs : List Int32), OwnPos p l e rmh s m args below meth c h0 [a, b] T h 0 0 → Enc Z h a b kk lo ra he on bs → on.toInt = t → bs.length + t ≤ 32 → (∀ (T' : State) (h' : Heap), OwnPos p l e rmh s m args below meth c h0 [a, b] T' h' 0 0 → Enc Z h' a b kk lo ra he 0 (bs ++ List.replicate t (own_by (255 + ca))) → OwnWP p e below s h0 [a, b] Q rmh.cells rmh.slots T' (mkF m 79 #[.val (.ref a), .val (.int ca)] [])) → OwnWP p e below s h0 [a, b] Q rmh.cells rmh.slots T (mkF m 48 #[.val (.ref a), .val (.int ca)] []) := by
  intro t
  induction t with
  | zero =>
    intro T h on bs A O hon hlen k
    obtain rfl := own_z64 on hon
    obtain ⟨xE1, xL1, xR1, xH1, xO1, xB1, xN1, xV1, xU1⟩ := O
    refine ow_aloadN C A d6_48 rfl rfl rfl ?_
    refine ow_getF C A tw_26 Via.refl xO1 d6_49 rfl ?_
    intro T2 A3
    refine ow_lconst C A3 d6_52 (v := 0) rfl rfl ?_
    refine ow_lcmp_le C A3 d6_53 rfl d6_54 (by decide) (pcY := 79) (by decide) (pcN := 57) rfl (fun _ => ?_) (fun zq => absurd zq (by decide))
    exact k _ _ A3 (by rw [List.replicate_zero, List.append_nil]; exact (⟨xE1, xL1, xR1, xH1, xO1, xB1, xN1, xV1, xU1⟩ : Enc Z h a b kk lo ra he 0 bs))
  | succ t ih =>
    intro T h on bs A O hon hlen k
    obtain ⟨xE4, xL4, xR4, xH4, xO4, xB4, xN4, xV4, xU4⟩ := O
    refine ow_aloadN C A d6_48 rfl rfl rfl ?_
    refine ow_getF C A tw_26 Via.refl xO4 d6_49 rfl ?_
    intro T5 A6
    refine ow_lconst C A6 d6_52 (v := 0) rfl rfl ?_
    refine ow_lcmp_le C A6 d6_53 rfl d6_54 (by decide) (pcY := 79) (by decide) (pcN := 57) rfl (fun zq => absurd (own_lt64 (by show 0 < on.toInt; omega)) zq) (fun _ => ?_)
    refine ow_aloadN C A6 d6_57 rfl rfl rfl ?_
    refine ow_sipush C A6 d6_58 (v := 255) rfl rfl ?_
    refine ow_iloadN C A6 d6_61 rfl rfl ?_
    refine ow_iadd C A6 d6_62 rfl ?_
    refine ow_callP C A6 (argsL := [(.int ((255 : Int32) + ca))]) xE4 (rm_write l Z a0 hw a b kk lo ra he on bs ((255 : Int32) + ca) h ⟨xE4, xL4, xR4, xH4, xO4, xB4, xN4, xV4, xU4⟩  (by omega) []) tw_56 tw_58 tw_1 tw_57 tw_2 tw_59 (by decide) (allS (Or.inl (List.mem_of_getElem? (i := 0) rfl)) (allS (Or.inl (List.mem_of_getElem? (i := 1) rfl)) all0)) (by decide) (by decide) (ck' := 0) (sk' := 0) rfl rfl (by decide) (by decide) rfl (lenOf pd_0 rfl) (S := []) rfl (W := 0) (Nat.le_of_eq rfl) d6_63 rfl ?_
    intro T7 v7 K7 hQ7 A7
    obtain ⟨rfl, O7⟩ := hQ7
    show OwnWP _ _ _ _ _ _ _ _ _ T7 (mkF m 66 #[.val (.ref a), .val (.int ca)] [])
    obtain ⟨xE8, xL8, xR8, xH8, xO8, xB8, xN8, xV8, xU8⟩ := O7
    refine ow_aloadN C A7 d6_66 rfl rfl rfl ?_
    refine ow_dup C A7 d6_67 rfl rfl ?_
    refine ow_getF C A7 tw_26 Via.refl xO8 d6_68 rfl ?_
    intro T9 A10
    refine ow_lconst C A10 d6_71 (v := 1) rfl rfl ?_
    refine ow_lsub C A10 d6_72 rfl ?_
    refine ow_putF C A10 tw_26 Via.refl xO8 xE8 tw_27 tw_1 (ty := .long) (by decide) rfl rfl (Or.inl (List.mem_of_getElem? (i := 0) rfl)) d6_73 rfl ?_
    intro T11 h13 W14 A12
    have f15 := xO8.same W14
    refine ow_goto C A12 d6_76 (by decide) (pc' := 48) (by decide) ?_
    have f16 := (xE8.wr W14)
    have f17 := (xL8.other W14 (Or.inr (sn_20 hw)))
    have f18 := (xR8.other W14 (Or.inr (sn_21 hw)))
    have f19 := (xH8.other W14 (Or.inr (sn_22 hw)))
    have f20 := (xB8.other W14 (Or.inr (sn_23 hw)))
    have f21 := (xN8.other W14 (Or.inr (sn_24 hw)))
    have f22 := (xV8.other W14 (Ne.symm xU8))
    exact ih _ _ _ _ A12 (⟨f16, f17, f18, f19, f15, f20, f21, f22, xU8⟩ : Enc Z h13 a b kk lo ra he (on - 1) (bs ++ [own_by ((255 : Int32) + ca)])) (own_dec on t hon) (by simp only [List.length_append, List.length_cons, List.length_nil]; omega) (fun T' h' A' O' => k T' h' A' (own_rep bs _ t ▸ O'))
set_option maxRecDepth 65536 in
set_option maxHeartbeats 40000000 in
theorem rm_shift (l : Launch) (Z : State) (a0 : Array Value) (hw : ∀ d ∈ tables_1, d.before a0 Z = true) (a b : Addr) (kk : ClassId) (lo ra : Int64) (he : Int32) (on : Int64) (bs : List Int32) (h0 : Heap) (O : Enc Z h0 a b kk lo ra he on bs) (hon : 0 ≤ on.toInt) (hlen : bs.length + 1 + on.toInt.toNat ≤ 32) (cs : List Jvm.Cond) :
    OwnCtr l Z (⟨"com/example/phasorwire/phasorwire/RangeEncoder", "shift", "()V"⟩ : MethodName) prog_63_method_5_code 2 none rmh #[(.ref a)] h0 [a, b] (QS Z a b kk lo ra he on bs) cs := by
  refine ow_ctr pn_6 hw (Ls := #[.val (.ref a), .unset]) (fun m => by first | (simp [entryFrame, mkF, argsToLocals, Value.category]; done) | rfl) ?_
  intro p e s m below meth c T0 C A0
  obtain ⟨xE1, xL1, xR1, xH1, xO1, xB1, xN1, xV1, xU1⟩ := O
  refine ow_aloadN C A0 d6_0 rfl rfl rfl ?_
  refine ow_getF C A0 tw_39 Via.refl xL1 d6_1 rfl ?_
  intro T2 A3
  refine ow_ldc2 C A3 tw_47 d6_4 rfl ?_
  refine ow_lcmp_lt C A3 d6_7 rfl d6_8 (by decide) (pcY := 22) (by decide) (pcN := 11) rfl (fun hc7 => ?_) (fun hc7 => ?_)
  · skip
    refine ow_aloadN C A3 d6_22 rfl rfl rfl ?_
    refine ow_getF C A3 tw_39 Via.refl xL1 d6_23 rfl ?_
    intro T4 A5
    refine ow_bipush C A5 d6_26 (v := 32) rfl rfl ?_
    refine ow_lushr C A5 d6_28 rfl ?_
    refine ow_l2i C A5 d6_29 rfl ?_
    refine ow_istoreN C A5 d6_30 (Ls' := #[.val (.ref a), .val (.int (own_ushrL lo (32 : Int32)).toInt32)]) rfl rfl ?_
    refine ow_aloadN C A5 d6_31 rfl rfl rfl ?_
    refine ow_getF C A5 tw_12 Via.refl xH1 d6_32 rfl ?_
    intro T6 A7
    refine ow_if_lt C A7 d6_35 (by decide) (pcY := 48) (by decide) (pcN := 38) rfl (fun hc35 => ?_) (fun hc35 => ?_)
    · skip
      refine shift_loop hw C a b kk lo ra he (own_ushrL lo (32 : Int32)).toInt32 on.toInt.toNat _ _ on (bs) A7 ⟨xE1, xL1, xR1, xH1, xO1, xB1, xN1, xV1, xU1⟩ (by omega) (by omega) ?_
      intro T8 h8 A8 O8
      obtain ⟨xE9, xL9, xR9, xH9, xO9, xB9, xN9, xV9, xU9⟩ := O8
      refine ow_aloadN C A8 d6_79 rfl rfl rfl ?_
      refine ow_aloadN C A8 d6_80 rfl rfl rfl ?_
      refine ow_getF C A8 tw_39 Via.refl xL9 d6_81 rfl ?_
      intro T10 A11
      refine ow_bipush C A11 d6_84 (v := 24) rfl rfl ?_
      refine ow_lushr C A11 d6_86 rfl ?_
      refine ow_l2i C A11 d6_87 rfl ?_
      refine ow_sipush C A11 d6_88 (v := 255) rfl rfl ?_
      refine ow_iand C A11 d6_91 rfl ?_
      refine ow_putF C A11 tw_12 Via.refl xH9 xE9 tw_13 tw_1 (ty := .int) (by decide) rfl rfl (Or.inl (List.mem_of_getElem? (i := 0) rfl)) d6_92 rfl ?_
      intro T12 h14 W15 A13
      have f16 := xH9.same W15
      refine ow_goto C A13 d6_95 (by decide) (pc' := 108) (by decide) ?_
      refine ow_aloadN C A13 d6_108 rfl rfl rfl ?_
      refine ow_aloadN C A13 d6_109 rfl rfl rfl ?_
      have f17 := (xL9.other W15 (Or.inr (sn_4 hw)))
      refine ow_getF C A13 tw_39 Via.refl f17 d6_110 rfl ?_
      intro T18 A19
      refine ow_ldc2 C A19 tw_48 d6_113 rfl ?_
      refine ow_land C A19 d6_116 rfl ?_
      refine ow_bipush C A19 d6_117 (v := 8) rfl rfl ?_
      refine ow_lshl C A19 d6_119 rfl ?_
      have f20 := (xE9.wr W15)
      refine ow_putF C A19 tw_39 Via.refl f17 f20 tw_40 tw_1 (ty := .long) (by decide) rfl rfl (Or.inl (List.mem_of_getElem? (i := 0) rfl)) d6_120 rfl ?_
      intro T21 h23 W24 A22
      have f25 := f17.same W24
      have eb26 : ((bs) ++ List.replicate on.toInt.toNat (own_by (255 + (own_ushrL lo (32 : Int32)).toInt32))) = sh_bs lo he on bs := by unfold sh_bs sh_b1; rw [if_pos hc35]; rfl
      have f27 := (f20.wr W24)
      have f28 := ((xR9.other W15 (Or.inr (sn_6 hw))).other W24 (Or.inr (sn_25 hw)))
      have f29 := (f16.other W24 (Or.inr (sn_26 hw)))
      have f30 := ((xO9.other W15 (Or.inr (sn_10 hw))).other W24 (Or.inr (sn_27 hw)))
      have f31 := ((xB9.other W15 (Or.inr (sn_2 hw))).other W24 (Or.inr (sn_28 hw)))
      have f32 := ((xN9.other W15 (Or.inr (sn_13 hw))).other W24 (Or.inr (sn_29 hw)))
      have f33 := ((xV9.other W15 (Ne.symm xU9)).other W24 (Ne.symm xU9))
      have O9 : Enc Z h23 a b kk (sh_lo lo) ra (sh_he lo) 0 (((bs) ++ List.replicate on.toInt.toNat (own_by (255 + (own_ushrL lo (32 : Int32)).toInt32)))) := ⟨f27, f25, f28, f29, f30, f31, f32, f33, xU9⟩
      rw [eb26] at O9
      refine ow_return C A22 rfl d6_123 (by decide) (by decide) ?_
      exact ⟨rfl, Or.inl ⟨(Or.inl hc7), O9⟩⟩
    · skip
      refine ow_aloadN C A7 d6_38 rfl rfl rfl ?_
      refine ow_aloadN C A7 d6_39 rfl rfl rfl ?_
      refine ow_getF C A7 tw_12 Via.refl xH1 d6_40 rfl ?_
      intro T34 A35
      refine ow_iloadN C A35 d6_43 rfl rfl ?_
      refine ow_iadd C A35 d6_44 rfl ?_
      refine ow_callP C A35 (argsL := [(.int (he + (own_ushrL lo (32 : Int32)).toInt32))]) xE1 (rm_write l Z a0 hw a b kk lo ra he on bs (he + (own_ushrL lo (32 : Int32)).toInt32) h0 ⟨xE1, xL1, xR1, xH1, xO1, xB1, xN1, xV1, xU1⟩  (by omega) []) tw_56 tw_58 tw_1 tw_57 tw_2 tw_59 (by decide) (allS (Or.inl (List.mem_of_getElem? (i := 0) rfl)) (allS (Or.inl (List.mem_of_getElem? (i := 1) rfl)) all0)) (by decide) (by decide) (ck' := 0) (sk' := 0) rfl rfl (by decide) (by decide) rfl (lenOf pd_0 rfl) (S := []) rfl (W := 0) (Nat.le_of_eq rfl) d6_45 rfl ?_
      intro T36 v36 K36 hQ36 A36
      obtain ⟨rfl, O36⟩ := hQ36
      show OwnWP _ _ _ _ _ _ _ _ _ T36 (mkF m 48 #[.val (.ref a), .val (.int (own_ushrL lo (32 : Int32)).toInt32)] [])
      obtain ⟨xE37, xL37, xR37, xH37, xO37, xB37, xN37, xV37, xU37⟩ := O36
      refine shift_loop hw C a b kk lo ra he (own_ushrL lo (32 : Int32)).toInt32 on.toInt.toNat _ _ on ((bs ++ [own_by (he + (own_ushrL lo (32 : Int32)).toInt32)])) A36 ⟨xE37, xL37, xR37, xH37, xO37, xB37, xN37, xV37, xU37⟩ (by omega) (by simp only [List.length_append, List.length_cons, List.length_nil]; omega) ?_
      intro T38 h38 A38 O38
      obtain ⟨xE39, xL39, xR39, xH39, xO39, xB39, xN39, xV39, xU39⟩ := O38
      refine ow_aloadN C A38 d6_79 rfl rfl rfl ?_
      refine ow_aloadN C A38 d6_80 rfl rfl rfl ?_
      refine ow_getF C A38 tw_39 Via.refl xL39 d6_81 rfl ?_
      intro T40 A41
      refine ow_bipush C A41 d6_84 (v := 24) rfl rfl ?_
      refine ow_lushr C A41 d6_86 rfl ?_
      refine ow_l2i C A41 d6_87 rfl ?_
      refine ow_sipush C A41 d6_88 (v := 255) rfl rfl ?_
      refine ow_iand C A41 d6_91 rfl ?_
      refine ow_putF C A41 tw_12 Via.refl xH39 xE39 tw_13 tw_1 (ty := .int) (by decide) rfl rfl (Or.inl (List.mem_of_getElem? (i := 0) rfl)) d6_92 rfl ?_
      intro T42 h44 W45 A43
      have f46 := xH39.same W45
      refine ow_goto C A43 d6_95 (by decide) (pc' := 108) (by decide) ?_
      refine ow_aloadN C A43 d6_108 rfl rfl rfl ?_
      refine ow_aloadN C A43 d6_109 rfl rfl rfl ?_
      have f47 := (xL39.other W45 (Or.inr (sn_4 hw)))
      refine ow_getF C A43 tw_39 Via.refl f47 d6_110 rfl ?_
      intro T48 A49
      refine ow_ldc2 C A49 tw_48 d6_113 rfl ?_
      refine ow_land C A49 d6_116 rfl ?_
      refine ow_bipush C A49 d6_117 (v := 8) rfl rfl ?_
      refine ow_lshl C A49 d6_119 rfl ?_
      have f50 := (xE39.wr W45)
      refine ow_putF C A49 tw_39 Via.refl f47 f50 tw_40 tw_1 (ty := .long) (by decide) rfl rfl (Or.inl (List.mem_of_getElem? (i := 0) rfl)) d6_120 rfl ?_
      intro T51 h53 W54 A52
      have f55 := f47.same W54
      have eb56 : (((bs ++ [own_by (he + (own_ushrL lo (32 : Int32)).toInt32)])) ++ List.replicate on.toInt.toNat (own_by (255 + (own_ushrL lo (32 : Int32)).toInt32))) = sh_bs lo he on bs := by unfold sh_bs sh_b1; rw [if_neg hc35]; rfl
      have f57 := (f50.wr W54)
      have f58 := ((xR39.other W45 (Or.inr (sn_6 hw))).other W54 (Or.inr (sn_25 hw)))
      have f59 := (f46.other W54 (Or.inr (sn_26 hw)))
      have f60 := ((xO39.other W45 (Or.inr (sn_10 hw))).other W54 (Or.inr (sn_27 hw)))
      have f61 := ((xB39.other W45 (Or.inr (sn_2 hw))).other W54 (Or.inr (sn_28 hw)))
      have f62 := ((xN39.other W45 (Or.inr (sn_13 hw))).other W54 (Or.inr (sn_29 hw)))
      have f63 := ((xV39.other W45 (Ne.symm xU39)).other W54 (Ne.symm xU39))
      have O9 : Enc Z h53 a b kk (sh_lo lo) ra (sh_he lo) 0 ((((bs ++ [own_by (he + (own_ushrL lo (32 : Int32)).toInt32)])) ++ List.replicate on.toInt.toNat (own_by (255 + (own_ushrL lo (32 : Int32)).toInt32)))) := ⟨f57, f55, f58, f59, f60, f61, f62, f63, xU39⟩
      rw [eb56] at O9
      refine ow_return C A52 rfl d6_123 (by decide) (by decide) ?_
      exact ⟨rfl, Or.inl ⟨(Or.inl hc7), O9⟩⟩
  · skip
    refine ow_aloadN C A3 d6_11 rfl rfl rfl ?_
    refine ow_getF C A3 tw_39 Via.refl xL1 d6_12 rfl ?_
    intro T64 A65
    refine ow_ldc2 C A65 tw_78 d6_15 rfl ?_
    refine ow_lcmp_lt C A65 d6_18 rfl d6_19 (by decide) (pcY := 98) (by decide) (pcN := 22) rfl (fun hc18 => ?_) (fun hc18 => ?_)
    · skip
      refine ow_aloadN C A65 d6_98 rfl rfl rfl ?_
      refine ow_dup C A65 d6_99 rfl rfl ?_
      refine ow_getF C A65 tw_26 Via.refl xO1 d6_100 rfl ?_
      intro T66 A67
      refine ow_lconst C A67 d6_103 (v := 1) rfl rfl ?_
      refine ow_ladd C A67 d6_104 rfl ?_
      refine ow_putF C A67 tw_26 Via.refl xO1 xE1 tw_27 tw_1 (ty := .long) (by decide) rfl rfl (Or.inl (List.mem_of_getElem? (i := 0) rfl)) d6_105 rfl ?_
      intro T68 h70 W71 A69
      have f72 := xO1.same W71
      refine ow_aloadN C A69 d6_108 rfl rfl rfl ?_
      refine ow_aloadN C A69 d6_109 rfl rfl rfl ?_
      have f73 := (xL1.other W71 (Or.inr (sn_20 hw)))
      refine ow_getF C A69 tw_39 Via.refl f73 d6_110 rfl ?_
      intro T74 A75
      refine ow_ldc2 C A75 tw_48 d6_113 rfl ?_
      refine ow_land C A75 d6_116 rfl ?_
      refine ow_bipush C A75 d6_117 (v := 8) rfl rfl ?_
      refine ow_lshl C A75 d6_119 rfl ?_
      have f76 := (xE1.wr W71)
      refine ow_putF C A75 tw_39 Via.refl f73 f76 tw_40 tw_1 (ty := .long) (by decide) rfl rfl (Or.inl (List.mem_of_getElem? (i := 0) rfl)) d6_120 rfl ?_
      intro T77 h79 W80 A78
      have f81 := f73.same W80
      have f82 := (f76.wr W80)
      have f83 := ((xR1.other W71 (Or.inr (sn_21 hw))).other W80 (Or.inr (sn_25 hw)))
      have f84 := ((xH1.other W71 (Or.inr (sn_22 hw))).other W80 (Or.inr (sn_26 hw)))
      have f85 := (f72.other W80 (Or.inr (sn_27 hw)))
      have f86 := ((xB1.other W71 (Or.inr (sn_23 hw))).other W80 (Or.inr (sn_28 hw)))
      have f87 := ((xN1.other W71 (Or.inr (sn_24 hw))).other W80 (Or.inr (sn_29 hw)))
      have f88 := ((xV1.other W71 (Ne.symm xU1)).other W80 (Ne.symm xU1))
      refine ow_return C A78 rfl d6_123 (by decide) (by decide) ?_
      exact ⟨rfl, Or.inr ⟨fun z => z.elim hc7 (fun y => y hc18), ⟨f82, f81, f83, f84, f85, f86, f87, f88, xU1⟩⟩⟩
    · skip
      refine ow_aloadN C A65 d6_22 rfl rfl rfl ?_
      refine ow_getF C A65 tw_39 Via.refl xL1 d6_23 rfl ?_
      intro T89 A90
      refine ow_bipush C A90 d6_26 (v := 32) rfl rfl ?_
      refine ow_lushr C A90 d6_28 rfl ?_
      refine ow_l2i C A90 d6_29 rfl ?_
      refine ow_istoreN C A90 d6_30 (Ls' := #[.val (.ref a), .val (.int (own_ushrL lo (32 : Int32)).toInt32)]) rfl rfl ?_
      refine ow_aloadN C A90 d6_31 rfl rfl rfl ?_
      refine ow_getF C A90 tw_12 Via.refl xH1 d6_32 rfl ?_
      intro T91 A92
      refine ow_if_lt C A92 d6_35 (by decide) (pcY := 48) (by decide) (pcN := 38) rfl (fun hc35 => ?_) (fun hc35 => ?_)
      · skip
        refine shift_loop hw C a b kk lo ra he (own_ushrL lo (32 : Int32)).toInt32 on.toInt.toNat _ _ on (bs) A92 ⟨xE1, xL1, xR1, xH1, xO1, xB1, xN1, xV1, xU1⟩ (by omega) (by omega) ?_
        intro T93 h93 A93 O93
        obtain ⟨xE94, xL94, xR94, xH94, xO94, xB94, xN94, xV94, xU94⟩ := O93
        refine ow_aloadN C A93 d6_79 rfl rfl rfl ?_
        refine ow_aloadN C A93 d6_80 rfl rfl rfl ?_
        refine ow_getF C A93 tw_39 Via.refl xL94 d6_81 rfl ?_
        intro T95 A96
        refine ow_bipush C A96 d6_84 (v := 24) rfl rfl ?_
        refine ow_lushr C A96 d6_86 rfl ?_
        refine ow_l2i C A96 d6_87 rfl ?_
        refine ow_sipush C A96 d6_88 (v := 255) rfl rfl ?_
        refine ow_iand C A96 d6_91 rfl ?_
        refine ow_putF C A96 tw_12 Via.refl xH94 xE94 tw_13 tw_1 (ty := .int) (by decide) rfl rfl (Or.inl (List.mem_of_getElem? (i := 0) rfl)) d6_92 rfl ?_
        intro T97 h99 W100 A98
        have f101 := xH94.same W100
        refine ow_goto C A98 d6_95 (by decide) (pc' := 108) (by decide) ?_
        refine ow_aloadN C A98 d6_108 rfl rfl rfl ?_
        refine ow_aloadN C A98 d6_109 rfl rfl rfl ?_
        have f102 := (xL94.other W100 (Or.inr (sn_4 hw)))
        refine ow_getF C A98 tw_39 Via.refl f102 d6_110 rfl ?_
        intro T103 A104
        refine ow_ldc2 C A104 tw_48 d6_113 rfl ?_
        refine ow_land C A104 d6_116 rfl ?_
        refine ow_bipush C A104 d6_117 (v := 8) rfl rfl ?_
        refine ow_lshl C A104 d6_119 rfl ?_
        have f105 := (xE94.wr W100)
        refine ow_putF C A104 tw_39 Via.refl f102 f105 tw_40 tw_1 (ty := .long) (by decide) rfl rfl (Or.inl (List.mem_of_getElem? (i := 0) rfl)) d6_120 rfl ?_
        intro T106 h108 W109 A107
        have f110 := f102.same W109
        have eb111 : ((bs) ++ List.replicate on.toInt.toNat (own_by (255 + (own_ushrL lo (32 : Int32)).toInt32))) = sh_bs lo he on bs := by unfold sh_bs sh_b1; rw [if_pos hc35]; rfl
        have f112 := (f105.wr W109)
        have f113 := ((xR94.other W100 (Or.inr (sn_6 hw))).other W109 (Or.inr (sn_25 hw)))
        have f114 := (f101.other W109 (Or.inr (sn_26 hw)))
        have f115 := ((xO94.other W100 (Or.inr (sn_10 hw))).other W109 (Or.inr (sn_27 hw)))
        have f116 := ((xB94.other W100 (Or.inr (sn_2 hw))).other W109 (Or.inr (sn_28 hw)))
        have f117 := ((xN94.other W100 (Or.inr (sn_13 hw))).other W109 (Or.inr (sn_29 hw)))
        have f118 := ((xV94.other W100 (Ne.symm xU94)).other W109 (Ne.symm xU94))
        have O9 : Enc Z h108 a b kk (sh_lo lo) ra (sh_he lo) 0 (((bs) ++ List.replicate on.toInt.toNat (own_by (255 + (own_ushrL lo (32 : Int32)).toInt32)))) := ⟨f112, f110, f113, f114, f115, f116, f117, f118, xU94⟩
        rw [eb111] at O9
        refine ow_return C A107 rfl d6_123 (by decide) (by decide) ?_
        exact ⟨rfl, Or.inl ⟨(Or.inr hc18), O9⟩⟩
      · skip
        refine ow_aloadN C A92 d6_38 rfl rfl rfl ?_
        refine ow_aloadN C A92 d6_39 rfl rfl rfl ?_
        refine ow_getF C A92 tw_12 Via.refl xH1 d6_40 rfl ?_
        intro T119 A120
        refine ow_iloadN C A120 d6_43 rfl rfl ?_
        refine ow_iadd C A120 d6_44 rfl ?_
        refine ow_callP C A120 (argsL := [(.int (he + (own_ushrL lo (32 : Int32)).toInt32))]) xE1 (rm_write l Z a0 hw a b kk lo ra he on bs (he + (own_ushrL lo (32 : Int32)).toInt32) h0 ⟨xE1, xL1, xR1, xH1, xO1, xB1, xN1, xV1, xU1⟩  (by omega) []) tw_56 tw_58 tw_1 tw_57 tw_2 tw_59 (by decide) (allS (Or.inl (List.mem_of_getElem? (i := 0) rfl)) (allS (Or.inl (List.mem_of_getElem? (i := 1) rfl)) all0)) (by decide) (by decide) (ck' := 0) (sk' := 0) rfl rfl (by decide) (by decide) rfl (lenOf pd_0 rfl) (S := []) rfl (W := 0) (Nat.le_of_eq rfl) d6_45 rfl ?_
        intro T121 v121 K121 hQ121 A121
        obtain ⟨rfl, O121⟩ := hQ121
        show OwnWP _ _ _ _ _ _ _ _ _ T121 (mkF m 48 #[.val (.ref a), .val (.int (own_ushrL lo (32 : Int32)).toInt32)] [])
        obtain ⟨xE122, xL122, xR122, xH122, xO122, xB122, xN122, xV122, xU122⟩ := O121
        refine shift_loop hw C a b kk lo ra he (own_ushrL lo (32 : Int32)).toInt32 on.toInt.toNat _ _ on ((bs ++ [own_by (he + (own_ushrL lo (32 : Int32)).toInt32)])) A121 ⟨xE122, xL122, xR122, xH122, xO122, xB122, xN122, xV122, xU122⟩ (by omega) (by simp only [List.length_append, List.length_cons, List.length_nil]; omega) ?_
        intro T123 h123 A123 O123
        obtain ⟨xE124, xL124, xR124, xH124, xO124, xB124, xN124, xV124, xU124⟩ := O123
        refine ow_aloadN C A123 d6_79 rfl rfl rfl ?_
        refine ow_aloadN C A123 d6_80 rfl rfl rfl ?_
        refine ow_getF C A123 tw_39 Via.refl xL124 d6_81 rfl ?_
        intro T125 A126
        refine ow_bipush C A126 d6_84 (v := 24) rfl rfl ?_
        refine ow_lushr C A126 d6_86 rfl ?_
        refine ow_l2i C A126 d6_87 rfl ?_
        refine ow_sipush C A126 d6_88 (v := 255) rfl rfl ?_
        refine ow_iand C A126 d6_91 rfl ?_
        refine ow_putF C A126 tw_12 Via.refl xH124 xE124 tw_13 tw_1 (ty := .int) (by decide) rfl rfl (Or.inl (List.mem_of_getElem? (i := 0) rfl)) d6_92 rfl ?_
        intro T127 h129 W130 A128
        have f131 := xH124.same W130
        refine ow_goto C A128 d6_95 (by decide) (pc' := 108) (by decide) ?_
        refine ow_aloadN C A128 d6_108 rfl rfl rfl ?_
        refine ow_aloadN C A128 d6_109 rfl rfl rfl ?_
        have f132 := (xL124.other W130 (Or.inr (sn_4 hw)))
        refine ow_getF C A128 tw_39 Via.refl f132 d6_110 rfl ?_
        intro T133 A134
        refine ow_ldc2 C A134 tw_48 d6_113 rfl ?_
        refine ow_land C A134 d6_116 rfl ?_
        refine ow_bipush C A134 d6_117 (v := 8) rfl rfl ?_
        refine ow_lshl C A134 d6_119 rfl ?_
        have f135 := (xE124.wr W130)
        refine ow_putF C A134 tw_39 Via.refl f132 f135 tw_40 tw_1 (ty := .long) (by decide) rfl rfl (Or.inl (List.mem_of_getElem? (i := 0) rfl)) d6_120 rfl ?_
        intro T136 h138 W139 A137
        have f140 := f132.same W139
        have eb141 : (((bs ++ [own_by (he + (own_ushrL lo (32 : Int32)).toInt32)])) ++ List.replicate on.toInt.toNat (own_by (255 + (own_ushrL lo (32 : Int32)).toInt32))) = sh_bs lo he on bs := by unfold sh_bs sh_b1; rw [if_neg hc35]; rfl
        have f142 := (f135.wr W139)
        have f143 := ((xR124.other W130 (Or.inr (sn_6 hw))).other W139 (Or.inr (sn_25 hw)))
        have f144 := (f131.other W139 (Or.inr (sn_26 hw)))
        have f145 := ((xO124.other W130 (Or.inr (sn_10 hw))).other W139 (Or.inr (sn_27 hw)))
        have f146 := ((xB124.other W130 (Or.inr (sn_2 hw))).other W139 (Or.inr (sn_28 hw)))
        have f147 := ((xN124.other W130 (Or.inr (sn_13 hw))).other W139 (Or.inr (sn_29 hw)))
        have f148 := ((xV124.other W130 (Ne.symm xU124)).other W139 (Ne.symm xU124))
        have O9 : Enc Z h138 a b kk (sh_lo lo) ra (sh_he lo) 0 ((((bs ++ [own_by (he + (own_ushrL lo (32 : Int32)).toInt32)])) ++ List.replicate on.toInt.toNat (own_by (255 + (own_ushrL lo (32 : Int32)).toInt32)))) := ⟨f142, f140, f143, f144, f145, f146, f147, f148, xU124⟩
        rw [eb141] at O9
        refine ow_return C A137 rfl d6_123 (by decide) (by decide) ?_
        exact ⟨rfl, Or.inl ⟨(Or.inr hc18), O9⟩⟩
set_option maxRecDepth 65536 in
set_option maxHeartbeats 40000000 in
theorem rm_copy (l : Launch) (Z : State) (a0 : Array Value) (hw : ∀ d ∈ tables_1, d.before a0 Z = true) (a : Addr) (kk : ClassId) (z n : Int32) (k : Nat) (vs : List Value) (h0 : Heap) (Va : Arv Z h0 a kk .byte z vs (.int (0 : Int32))) (hne : ¬ (n = z)) (hn0 : ¬ (n < 0)) (hn32 : n.toNatClampNeg ≤ 32) (hm0 : ¬ (own_min z n < 0)) (hmk : (own_min z n).toNatClampNeg = k) (hm1 : (0 : Int32).toNatClampNeg + (own_min z n).toNatClampNeg ≤ z.toNatClampNeg) (hm2 : (0 : Int32).toNatClampNeg + (own_min z n).toNatClampNeg ≤ n.toNatClampNeg) (cs : List Jvm.Cond) :
    OwnCtr l Z (⟨"java/util/Arrays", "copyOf", "([BI)[B"⟩ : MethodName) jdk_65_method_121_code 3 (some (.array .byte)) rmc #[(.ref a), (.int n)] h0 [] (QY Z h0 n ((List.range k).map fun i => vs.getD i (.int (0 : Int32)))) cs := by
  refine ow_ctr pn_11 hw (Ls := #[.val (.ref a), .val (.int n), .unset]) (fun m => by first | (simp [entryFrame, mkF, argsToLocals, Value.category]; done) | rfl) ?_
  intro p e s m below meth c T0 C A0
  refine ow_iloadN C A0 d11_0 rfl rfl ?_
  refine ow_aloadN C A0 d11_1 rfl rfl rfl ?_
  refine ow_alen C A0 Va d11_2 rfl ?_
  refine ow_icmp_ne C A0 d11_3 (by decide) (pcY := 14) (by decide) (pcN := 6) rfl (fun _ => ?_) (fun zq => absurd zq (hne))
  refine ow_iloadN C A0 d11_14 rfl rfl ?_
  refine ow_newA C A0 (ty := .byte) rfl tw_14 d11_15 rfl hn0 (cap := 32) hn32 (by decide) (ck' := 1) (sk' := 32) rfl rfl (by decide) (by decide) ?_
  intro T1 h3 b4 kk5 g6 E7 V8 A2
  have ne9 : a ≠ b4 := Nat.ne_of_lt (Nat.lt_of_lt_of_le Va.lt (Nat.le_of_eq g6.symm))
  have ows_b4 : b4 ∈ ([] : List Addr) ∨ h0.size ≤ b4 := Or.inr (Nat.le_trans (ow_le A0) (Nat.le_of_eq g6.symm))
  refine ow_astoreN C A2 d11_17 rfl (Ls' := #[.val (.ref a), .val (.int n), .val (.ref b4)]) rfl rfl ?_
  refine ow_aloadN C A2 d11_18 rfl rfl rfl ?_
  refine ow_iconst C A2 d11_19 (v := 0) rfl rfl ?_
  refine ow_aloadN C A2 d11_20 rfl rfl rfl ?_
  refine ow_iconst C A2 d11_21 (v := 0) rfl rfl ?_
  refine ow_aloadN C A2 d11_22 rfl rfl rfl ?_
  have f10 := (Va.ext E7)
  refine ow_alen C A2 f10 d11_23 rfl ?_
  refine ow_iloadN C A2 d11_24 rfl rfl ?_
  refine ow_callS C A2 (argsL := [(.int z), (.int n)]) (rm_min l Z a0 hw z n h3 []) tw_69 tw_70 tw_71 tw_72 (by decide) all0 (by decide) (by decide) (ck' := 1) (sk' := 32) rfl rfl (by decide) (by decide) rfl (lenOf pd_1 rfl) (S := [(.int (0 : Int32)), (.ref b4), (.int (0 : Int32)), (.ref a)]) rfl (W := 4) (Nat.le_of_eq rfl) d11_25 rfl ?_
  intro T11 v11 K11 hQ11 A11
  obtain ⟨rfl, ee11⟩ := hQ11
  rw [ee11] at A11 K11
  show OwnWP _ _ _ _ _ _ _ _ _ T11 (mkF m 28 #[.val (.ref a), .val (.int n), .val (.ref b4)] [(.int (own_min z n)), (.int (0 : Int32)), (.ref b4), (.int (0 : Int32)), (.ref a)])
  have V12 : Arv Z h3 b4 kk5 .byte n (List.replicate k (.int (0 : Int32))) (.int (0 : Int32)) := V8.pad (pad_rep [] (.int (0 : Int32)) k)
  refine ow_acopy C A11 tw_73 tw_76 tw_74 tw_75 f10 V12 rfl (by decide) (by decide) hm0 hm1 hm2 (us := ((List.range k).map fun i => vs.getD i (.int (0 : Int32)))) (by rw [hmk]; simp) (by rw [hmk]; simp) (ows_b4.elim (fun q => nomatch q) id) rfl d11_28 rfl (by decide) (W := 0) (Nat.le_of_eq rfl) (by decide) ?_
  intro T13 h15 K16 V17 A14
  have V18 : Arv Z h15 b4 kk5 .byte n ((List.range k).map fun i => vs.getD i (.int (0 : Int32))) (.int (0 : Int32)) := (by have q := V17; simpa [hmk] using q)
  refine ow_aloadN C A14 d11_31 rfl rfl rfl ?_
  refine ow_areturn C A14 (t := (.array .byte)) rfl rfl rfl d11_32 (by decide) (by decide) ?_
  exact ⟨b4, kk5, rfl, (ows_b4.elim (fun q => nomatch q) id), V18⟩
theorem rm_shT (l : Launch) (Z : State) (a0 : Array Value) (hw : ∀ d ∈ tables_1, d.before a0 Z = true) (a b : Addr) (kk : ClassId) (lo ra : Int64) (he : Int32) (on : Int64) (bs : List Int32) (t : Int) (h0 : Heap) (O : Enc Z h0 a b kk lo ra he on bs) (hI : Inv he on bs t) (ht : t ≤ 31) (cs : List Jvm.Cond) :
    OwnCtr l Z (⟨"com/example/phasorwire/phasorwire/RangeEncoder", "shift", "()V"⟩ : MethodName) prog_63_method_5_code 2 none rmh #[(.ref a)] h0 [a, b] (QSh Z a b kk ra t) cs := by
  have g := own_cap he on bs t hI ht
  refine ow_ctr_mono (rm_shift l Z a0 hw a b kk lo ra he on bs h0 O g.1 g.2 cs) ?_
  rintro v h ⟨rfl, ⟨-, q⟩ | ⟨-, q⟩⟩
  · exact ⟨rfl, _, _, _, _, q, own_shY lo he on bs t hI⟩
  · exact ⟨rfl, _, _, _, _, q, own_shN he on bs t hI (by omega)⟩
set_option maxRecDepth 65536 in
set_option maxHeartbeats 40000000 in
theorem rm_enc0 (l : Launch) (Z : State) (a0 : Array Value) (hw : ∀ d ∈ tables_1, d.before a0 Z = true) (a b : Addr) (kk : ClassId) (lo ra : Int64) (he : Int32) (on : Int64) (bs : List Int32) (p : Int32) (t : Int) (h0 : Heap) (O : Enc Z h0 a b kk lo ra he on bs) (hI : Inv he on bs t) (ht : t ≤ 20) (hra : Rok ra) (hp : Pok p) (cs : List Jvm.Cond) :
    OwnCtr l Z (⟨"com/example/phasorwire/phasorwire/RangeEncoder", "encode", "(IZ)V"⟩ : MethodName) prog_63_method_2_code 7 none rme #[(.ref a), (.int p), (.int (0 : Int32))] h0 [a, b] (QEn Z a b kk (own_r0 ra p).toInt t) cs := by
  refine ow_ctr pn_5 hw (Ls := #[.val (.ref a), .val (.int p), .val (.int (0 : Int32)), .unset, .unset, .unset, .unset]) (fun m => by first | (simp [entryFrame, mkF, argsToLocals, Value.category]; done) | rfl) ?_
  intro pG e s m below meth c T0 C A0
  obtain ⟨xE1, xL1, xR1, xH1, xO1, xB1, xN1, xV1, xU1⟩ := O
  refine ow_aloadN C A0 d5_0 rfl rfl rfl ?_
  refine ow_getF C A0 tw_10 Via.refl xR1 d5_1 rfl ?_
  intro T2 A3
  refine ow_bipush C A3 d5_4 (v := 12) rfl rfl ?_
  refine ow_lushr C A3 d5_6 rfl ?_
  refine ow_iloadN C A3 d5_7 rfl rfl ?_
  refine ow_i2l C A3 d5_8 rfl ?_
  refine ow_lmul C A3 d5_9 rfl ?_
  show OwnWP _ _ _ _ _ _ _ _ _ T2 (mkF m 10 #[.val (.ref a), .val (.int p), .val (.int (0 : Int32)), .unset, .unset, .unset, .unset] [(.long (own_bd ra p))])
  refine ow_lstoreN C A3 d5_10 (Ls' := #[.val (.ref a), .val (.int p), .val (.int (0 : Int32)), .val (.long (own_bd ra p)), .second, .unset, .unset]) rfl rfl ?_
  refine ow_iloadN C A3 d5_11 rfl rfl ?_
  refine ow_if_eq C A3 d5_12 (by decide) (pcY := 21) (by decide) (pcN := 15) rfl (fun _ => ?_) (fun zq => absurd (by decide) zq)
  refine ow_lconst C A3 d5_21 (v := 0) rfl rfl ?_
  refine ow_lstore C A3 d5_22 (Ls' := #[.val (.ref a), .val (.int p), .val (.int (0 : Int32)), .val (.long (own_bd ra p)), .second, .val (.long (0 : Int64)), .second]) rfl rfl ?_
  refine ow_aloadN C A3 d5_24 rfl rfl rfl ?_
  refine ow_dup C A3 d5_25 rfl rfl ?_
  refine ow_getF C A3 tw_39 Via.refl xL1 d5_26 rfl ?_
  intro T4 A5
  refine ow_lloadN C A5 d5_29 rfl rfl ?_
  refine ow_lload C A5 d5_30 rfl rfl ?_
  refine ow_land C A5 d5_32 rfl ?_
  refine ow_ladd C A5 d5_33 rfl ?_
  refine ow_putF C A5 tw_39 Via.refl xL1 xE1 tw_40 tw_1 (ty := .long) (by decide) rfl rfl (Or.inl (List.mem_of_getElem? (i := 0) rfl)) d5_34 rfl ?_
  intro T6 h8 W9 A7
  have f10 := xL1.same W9
  refine ow_aloadN C A7 d5_37 rfl rfl rfl ?_
  refine ow_lloadN C A7 d5_38 rfl rfl ?_
  refine ow_aloadN C A7 d5_39 rfl rfl rfl ?_
  have f11 := (xR1.other W9 (Or.inr (sn_25 hw)))
  refine ow_getF C A7 tw_10 Via.refl f11 d5_40 rfl ?_
  intro T12 A13
  refine ow_ldc2 C A13 tw_41 d5_43 rfl ?_
  refine ow_lloadN C A13 d5_46 rfl rfl ?_
  refine ow_lmul C A13 d5_47 rfl ?_
  refine ow_lsub C A13 d5_48 rfl ?_
  refine ow_lload C A13 d5_49 rfl rfl ?_
  refine ow_land C A13 d5_51 rfl ?_
  refine ow_ladd C A13 d5_52 rfl ?_
  have f14 := (xE1.wr W9)
  refine ow_putF C A13 tw_10 Via.refl f11 f14 tw_11 tw_1 (ty := .long) (by decide) rfl rfl (Or.inl (List.mem_of_getElem? (i := 0) rfl)) d5_53 rfl ?_
  intro T15 h17 W18 A16
  have f19 := f11.same W18
  obtain ⟨r20, hr20⟩ : ∃ z, z = own_r0 ra p := ⟨_, rfl⟩
  have f21 : Fld Z h17 a "com/example/phasorwire/phasorwire/RangeEncoder" "range" "J" (.long r20) := by have q := f19; rw [hr20, ← own_e0 ra p]; exact q
  have br20 : 4096 ≤ r20.toInt ∧ r20.toInt < 4294967296 := by rw [hr20]; exact own_rb0 ra p hra hp
  obtain ⟨lw20, hlw20⟩ : ∃ z, z = (lo + ((own_bd ra p) &&& (0 : Int64))) := ⟨_, rfl⟩
  have f23 := (f10.other W18 (Or.inr (sn_3 hw)))
  have f22 : Fld Z h17 a "com/example/phasorwire/phasorwire/RangeEncoder" "low" "J" (.long lw20) := by have q := f23; rw [hlw20]; exact q
  refine ow_aloadN C A16 d5_56 rfl rfl rfl ?_
  refine ow_getF C A16 tw_10 Via.refl f21 d5_57 rfl ?_
  intro T24 A25
  refine ow_ldc2 C A25 tw_42 d5_60 rfl ?_
  refine ow_lcmp_ge C A25 d5_63 rfl d5_64 (by decide) (pcY := 85) (by decide) (pcN := 67) rfl (fun hc63 => ?_) (fun hc63 => ?_)
  · skip
    have iv26 : ¬ (r20.toInt < 16777216) := own_nlt64' hc63
    have f27 := (f14.wr W18)
    have f28 := ((xH1.other W9 (Or.inr (sn_26 hw))).other W18 (Or.inr (sn_0 hw)))
    have f29 := ((xO1.other W9 (Or.inr (sn_27 hw))).other W18 (Or.inr (sn_9 hw)))
    have f30 := ((xB1.other W9 (Or.inr (sn_28 hw))).other W18 (Or.inr (sn_1 hw)))
    have f31 := ((xN1.other W9 (Or.inr (sn_29 hw))).other W18 (Or.inr (sn_12 hw)))
    have f32 := ((xV1.other W9 (Ne.symm xU1)).other W18 (Ne.symm xU1))
    refine ow_return C A25 rfl d5_85 (by decide) (by decide) ?_
    exact ⟨rfl, lw20, r20, he, on, bs, 0, ⟨f27, f22, f21, f28, f29, f30, f31, f32, xU1⟩, Or.inl ⟨rfl, by rw [← hr20]; omega, by rw [← hr20]⟩, (by have q := hI; rw [Int.add_zero]; exact q)⟩
  · skip
    have iv33 : r20.toInt < 16777216 := own_lt64' hc63
    refine ow_aloadN C A25 d5_67 rfl rfl rfl ?_
    refine ow_dup C A25 d5_68 rfl rfl ?_
    refine ow_getF C A25 tw_10 Via.refl f21 d5_69 rfl ?_
    intro T34 A35
    refine ow_bipush C A35 d5_72 (v := 8) rfl rfl ?_
    refine ow_lshl C A35 d5_74 rfl ?_
    have f36 := (f14.wr W18)
    refine ow_putF C A35 tw_10 Via.refl f21 f36 tw_11 tw_1 (ty := .long) (by decide) rfl rfl (Or.inl (List.mem_of_getElem? (i := 0) rfl)) d5_75 rfl ?_
    intro T37 h39 W40 A38
    have f41 := f21.same W40
    refine ow_aloadN C A38 d5_78 rfl rfl rfl ?_
    have f42 := (f36.wr W40)
    have f43 := (f22.other W40 (Or.inr (sn_3 hw)))
    have f44 := (((xH1.other W9 (Or.inr (sn_26 hw))).other W18 (Or.inr (sn_0 hw))).other W40 (Or.inr (sn_0 hw)))
    have f45 := (((xO1.other W9 (Or.inr (sn_27 hw))).other W18 (Or.inr (sn_9 hw))).other W40 (Or.inr (sn_9 hw)))
    have f46 := (((xB1.other W9 (Or.inr (sn_28 hw))).other W18 (Or.inr (sn_1 hw))).other W40 (Or.inr (sn_1 hw)))
    have f47 := (((xN1.other W9 (Or.inr (sn_29 hw))).other W18 (Or.inr (sn_12 hw))).other W40 (Or.inr (sn_12 hw)))
    have f48 := (((xV1.other W9 (Ne.symm xU1)).other W18 (Ne.symm xU1)).other W40 (Ne.symm xU1))
    refine ow_callP C A38 (argsL := []) f42 (rm_shT l Z a0 hw a b kk lw20 (r20 <<< ((8 : Int32) &&& 63).toInt64) he on bs t h39 ⟨f42, f43, f41, f44, f45, f46, f47, f48, xU1⟩ hI (by omega) []) tw_43 tw_45 tw_1 tw_44 tw_2 tw_46 (by decide) (allS (Or.inl (List.mem_of_getElem? (i := 0) rfl)) (allS (Or.inl (List.mem_of_getElem? (i := 1) rfl)) all0)) (by decide) (by decide) (ck' := 0) (sk' := 0) rfl rfl (by decide) (by decide) rfl (lenOf pd_2 rfl) (S := []) rfl (W := 0) (Nat.le_of_eq rfl) d5_79 rfl ?_
    intro T49 v49 K49 hQ49 A49
    obtain ⟨rfl, lo49, he49, on49, bs49, O49, I49⟩ := hQ49
    show OwnWP _ _ _ _ _ _ _ _ _ T49 (mkF m 82 #[.val (.ref a), .val (.int p), .val (.int (0 : Int32)), .val (.long (own_bd ra p)), .second, .val (.long (0 : Int64)), .second] [])
    obtain ⟨xE50, xL50, xR50, xH50, xO50, xB50, xN50, xV50, xU50⟩ := O49
    refine ow_goto C A49 d5_82 (by decide) (pc' := 56) (by decide) ?_
    have sr51 := own_sl8 r20 ⟨by omega, by omega⟩
    obtain ⟨r51, hr51⟩ : ∃ z, z = (r20 <<< ((8 : Int32) &&& 63).toInt64) := ⟨_, rfl⟩
    have f52 : Fld Z T49.heap a "com/example/phasorwire/phasorwire/RangeEncoder" "range" "J" (.long r51) := by have q := xR50; rw [hr51]; exact q
    rw [← hr51] at sr51
    refine ow_aloadN C A49 d5_56 rfl rfl rfl ?_
    refine ow_getF C A49 tw_10 Via.refl f52 d5_57 rfl ?_
    intro T53 A54
    refine ow_ldc2 C A54 tw_42 d5_60 rfl ?_
    refine ow_lcmp_ge C A54 d5_63 rfl d5_64 (by decide) (pcY := 85) (by decide) (pcN := 67) rfl (fun hc55 => ?_) (fun hc55 => ?_)
    · skip
      have iv56 : ¬ (r51.toInt < 16777216) := own_nlt64' hc55
      refine ow_return C A54 rfl d5_85 (by decide) (by decide) ?_
      exact ⟨rfl, lo49, r51, he49, on49, bs49, 1, ⟨xE50, xL50, f52, xH50, xO50, xB50, xN50, xV50, xU50⟩, Or.inr (Or.inl ⟨rfl, by rw [← hr20]; omega, by rw [← hr20]; omega, by rw [← hr20]; omega⟩), (by have q := I49; exact q)⟩
    · skip
      have iv57 : r51.toInt < 16777216 := own_lt64' hc55
      refine ow_aloadN C A54 d5_67 rfl rfl rfl ?_
      refine ow_dup C A54 d5_68 rfl rfl ?_
      refine ow_getF C A54 tw_10 Via.refl f52 d5_69 rfl ?_
      intro T58 A59
      refine ow_bipush C A59 d5_72 (v := 8) rfl rfl ?_
      refine ow_lshl C A59 d5_74 rfl ?_
      refine ow_putF C A59 tw_10 Via.refl f52 xE50 tw_11 tw_1 (ty := .long) (by decide) rfl rfl (Or.inl (List.mem_of_getElem? (i := 0) rfl)) d5_75 rfl ?_
      intro T60 h62 W63 A61
      have f64 := f52.same W63
      refine ow_aloadN C A61 d5_78 rfl rfl rfl ?_
      have f65 := (xE50.wr W63)
      have f66 := (xL50.other W63 (Or.inr (sn_3 hw)))
      have f67 := (xH50.other W63 (Or.inr (sn_0 hw)))
      have f68 := (xO50.other W63 (Or.inr (sn_9 hw)))
      have f69 := (xB50.other W63 (Or.inr (sn_1 hw)))
      have f70 := (xN50.other W63 (Or.inr (sn_12 hw)))
      have f71 := (xV50.other W63 (Ne.symm xU50))
      refine ow_callP C A61 (argsL := []) f65 (rm_shT l Z a0 hw a b kk lo49 (r51 <<< ((8 : Int32) &&& 63).toInt64) he49 on49 bs49 (t + 1) h62 ⟨f65, f66, f64, f67, f68, f69, f70, f71, xU50⟩ I49 (by omega) []) tw_43 tw_45 tw_1 tw_44 tw_2 tw_46 (by decide) (allS (Or.inl (List.mem_of_getElem? (i := 0) rfl)) (allS (Or.inl (List.mem_of_getElem? (i := 1) rfl)) all0)) (by decide) (by decide) (ck' := 0) (sk' := 0) rfl rfl (by decide) (by decide) rfl (lenOf pd_2 rfl) (S := []) rfl (W := 0) (Nat.le_of_eq rfl) d5_79 rfl ?_
      intro T72 v72 K72 hQ72 A72
      obtain ⟨rfl, lo72, he72, on72, bs72, O72, I72⟩ := hQ72
      show OwnWP _ _ _ _ _ _ _ _ _ T72 (mkF m 82 #[.val (.ref a), .val (.int p), .val (.int (0 : Int32)), .val (.long (own_bd ra p)), .second, .val (.long (0 : Int64)), .second] [])
      obtain ⟨xE73, xL73, xR73, xH73, xO73, xB73, xN73, xV73, xU73⟩ := O72
      refine ow_goto C A72 d5_82 (by decide) (pc' := 56) (by decide) ?_
      have sr74 := own_sl8 r51 ⟨by omega, by omega⟩
      obtain ⟨r74, hr74⟩ : ∃ z, z = (r51 <<< ((8 : Int32) &&& 63).toInt64) := ⟨_, rfl⟩
      have f75 : Fld Z T72.heap a "com/example/phasorwire/phasorwire/RangeEncoder" "range" "J" (.long r74) := by have q := xR73; rw [hr74]; exact q
      rw [← hr74] at sr74
      refine ow_aloadN C A72 d5_56 rfl rfl rfl ?_
      refine ow_getF C A72 tw_10 Via.refl f75 d5_57 rfl ?_
      intro T76 A77
      refine ow_ldc2 C A77 tw_42 d5_60 rfl ?_
      refine ow_lcmp_ge C A77 d5_63 rfl d5_64 (by decide) (pcY := 85) (by decide) (pcN := 67) rfl (fun _ => ?_) (fun zq => absurd zq (own_nlt64 (by show ¬ (r74.toInt < 16777216); omega)))
      refine ow_return C A77 rfl d5_85 (by decide) (by decide) ?_
      exact ⟨rfl, lo72, r74, he72, on72, bs72, 2, ⟨xE73, xL73, f75, xH73, xO73, xB73, xN73, xV73, xU73⟩, Or.inr (Or.inr ⟨rfl, by rw [← hr20]; omega, by rw [← hr20]; omega⟩), (by have q := I72; rw [Int.add_assoc] at q; exact q)⟩
set_option maxRecDepth 65536 in
set_option maxHeartbeats 40000000 in
theorem rm_enc1 (l : Launch) (Z : State) (a0 : Array Value) (hw : ∀ d ∈ tables_1, d.before a0 Z = true) (a b : Addr) (kk : ClassId) (lo ra : Int64) (he : Int32) (on : Int64) (bs : List Int32) (p : Int32) (t : Int) (h0 : Heap) (O : Enc Z h0 a b kk lo ra he on bs) (hI : Inv he on bs t) (ht : t ≤ 20) (hra : Rok ra) (hp : Pok p) (cs : List Jvm.Cond) :
    OwnCtr l Z (⟨"com/example/phasorwire/phasorwire/RangeEncoder", "encode", "(IZ)V"⟩ : MethodName) prog_63_method_2_code 7 none rme #[(.ref a), (.int p), (.int (1 : Int32))] h0 [a, b] (QEn Z a b kk (own_r1 ra p).toInt t) cs := by
  refine ow_ctr pn_5 hw (Ls := #[.val (.ref a), .val (.int p), .val (.int (1 : Int32)), .unset, .unset, .unset, .unset]) (fun m => by first | (simp [entryFrame, mkF, argsToLocals, Value.category]; done) | rfl) ?_
  intro pG e s m below meth c T0 C A0
  obtain ⟨xE1, xL1, xR1, xH1, xO1, xB1, xN1, xV1, xU1⟩ := O
  refine ow_aloadN C A0 d5_0 rfl rfl rfl ?_
  refine ow_getF C A0 tw_10 Via.refl xR1 d5_1 rfl ?_
  intro T2 A3
  refine ow_bipush C A3 d5_4 (v := 12) rfl rfl ?_
  refine ow_lushr C A3 d5_6 rfl ?_
  refine ow_iloadN C A3 d5_7 rfl rfl ?_
  refine ow_i2l C A3 d5_8 rfl ?_
  refine ow_lmul C A3 d5_9 rfl ?_
  show OwnWP _ _ _ _ _ _ _ _ _ T2 (mkF m 10 #[.val (.ref a), .val (.int p), .val (.int (1 : Int32)), .unset, .unset, .unset, .unset] [(.long (own_bd ra p))])
  refine ow_lstoreN C A3 d5_10 (Ls' := #[.val (.ref a), .val (.int p), .val (.int (1 : Int32)), .val (.long (own_bd ra p)), .second, .unset, .unset]) rfl rfl ?_
  refine ow_iloadN C A3 d5_11 rfl rfl ?_
  refine ow_if_eq C A3 d5_12 (by decide) (pcY := 21) (by decide) (pcN := 15) rfl (fun zq => absurd zq (by decide)) (fun _ => ?_)
  refine ow_ldc2 C A3 tw_77 d5_15 rfl ?_
  refine ow_goto C A3 d5_18 (by decide) (pc' := 22) (by decide) ?_
  refine ow_lstore C A3 d5_22 (Ls' := #[.val (.ref a), .val (.int p), .val (.int (1 : Int32)), .val (.long (own_bd ra p)), .second, .val (.long (-1 : Int64)), .second]) rfl rfl ?_
  refine ow_aloadN C A3 d5_24 rfl rfl rfl ?_
  refine ow_dup C A3 d5_25 rfl rfl ?_
  refine ow_getF C A3 tw_39 Via.refl xL1 d5_26 rfl ?_
  intro T4 A5
  refine ow_lloadN C A5 d5_29 rfl rfl ?_
  refine ow_lload C A5 d5_30 rfl rfl ?_
  refine ow_land C A5 d5_32 rfl ?_
  refine ow_ladd C A5 d5_33 rfl ?_
  refine ow_putF C A5 tw_39 Via.refl xL1 xE1 tw_40 tw_1 (ty := .long) (by decide) rfl rfl (Or.inl (List.mem_of_getElem? (i := 0) rfl)) d5_34 rfl ?_
  intro T6 h8 W9 A7
  have f10 := xL1.same W9
  refine ow_aloadN C A7 d5_37 rfl rfl rfl ?_
  refine ow_lloadN C A7 d5_38 rfl rfl ?_
  refine ow_aloadN C A7 d5_39 rfl rfl rfl ?_
  have f11 := (xR1.other W9 (Or.inr (sn_25 hw)))
  refine ow_getF C A7 tw_10 Via.refl f11 d5_40 rfl ?_
  intro T12 A13
  refine ow_ldc2 C A13 tw_41 d5_43 rfl ?_
  refine ow_lloadN C A13 d5_46 rfl rfl ?_
  refine ow_lmul C A13 d5_47 rfl ?_
  refine ow_lsub C A13 d5_48 rfl ?_
  refine ow_lload C A13 d5_49 rfl rfl ?_
  refine ow_land C A13 d5_51 rfl ?_
  refine ow_ladd C A13 d5_52 rfl ?_
  have f14 := (xE1.wr W9)
  refine ow_putF C A13 tw_10 Via.refl f11 f14 tw_11 tw_1 (ty := .long) (by decide) rfl rfl (Or.inl (List.mem_of_getElem? (i := 0) rfl)) d5_53 rfl ?_
  intro T15 h17 W18 A16
  have f19 := f11.same W18
  obtain ⟨r20, hr20⟩ : ∃ z, z = own_r1 ra p := ⟨_, rfl⟩
  have f21 : Fld Z h17 a "com/example/phasorwire/phasorwire/RangeEncoder" "range" "J" (.long r20) := by have q := f19; rw [hr20, ← own_e1 ra p]; exact q
  have br20 : 4096 ≤ r20.toInt ∧ r20.toInt < 4294967296 := by rw [hr20]; exact own_rb1 ra p hra hp
  obtain ⟨lw20, hlw20⟩ : ∃ z, z = (lo + ((own_bd ra p) &&& (-1 : Int64))) := ⟨_, rfl⟩
  have f23 := (f10.other W18 (Or.inr (sn_3 hw)))
  have f22 : Fld Z h17 a "com/example/phasorwire/phasorwire/RangeEncoder" "low" "J" (.long lw20) := by have q := f23; rw [hlw20]; exact q
  refine ow_aloadN C A16 d5_56 rfl rfl rfl ?_
  refine ow_getF C A16 tw_10 Via.refl f21 d5_57 rfl ?_
  intro T24 A25
  refine ow_ldc2 C A25 tw_42 d5_60 rfl ?_
  refine ow_lcmp_ge C A25 d5_63 rfl d5_64 (by decide) (pcY := 85) (by decide) (pcN := 67) rfl (fun hc63 => ?_) (fun hc63 => ?_)
  · skip
    have iv26 : ¬ (r20.toInt < 16777216) := own_nlt64' hc63
    have f27 := (f14.wr W18)
    have f28 := ((xH1.other W9 (Or.inr (sn_26 hw))).other W18 (Or.inr (sn_0 hw)))
    have f29 := ((xO1.other W9 (Or.inr (sn_27 hw))).other W18 (Or.inr (sn_9 hw)))
    have f30 := ((xB1.other W9 (Or.inr (sn_28 hw))).other W18 (Or.inr (sn_1 hw)))
    have f31 := ((xN1.other W9 (Or.inr (sn_29 hw))).other W18 (Or.inr (sn_12 hw)))
    have f32 := ((xV1.other W9 (Ne.symm xU1)).other W18 (Ne.symm xU1))
    refine ow_return C A25 rfl d5_85 (by decide) (by decide) ?_
    exact ⟨rfl, lw20, r20, he, on, bs, 0, ⟨f27, f22, f21, f28, f29, f30, f31, f32, xU1⟩, Or.inl ⟨rfl, by rw [← hr20]; omega, by rw [← hr20]⟩, (by have q := hI; rw [Int.add_zero]; exact q)⟩
  · skip
    have iv33 : r20.toInt < 16777216 := own_lt64' hc63
    refine ow_aloadN C A25 d5_67 rfl rfl rfl ?_
    refine ow_dup C A25 d5_68 rfl rfl ?_
    refine ow_getF C A25 tw_10 Via.refl f21 d5_69 rfl ?_
    intro T34 A35
    refine ow_bipush C A35 d5_72 (v := 8) rfl rfl ?_
    refine ow_lshl C A35 d5_74 rfl ?_
    have f36 := (f14.wr W18)
    refine ow_putF C A35 tw_10 Via.refl f21 f36 tw_11 tw_1 (ty := .long) (by decide) rfl rfl (Or.inl (List.mem_of_getElem? (i := 0) rfl)) d5_75 rfl ?_
    intro T37 h39 W40 A38
    have f41 := f21.same W40
    refine ow_aloadN C A38 d5_78 rfl rfl rfl ?_
    have f42 := (f36.wr W40)
    have f43 := (f22.other W40 (Or.inr (sn_3 hw)))
    have f44 := (((xH1.other W9 (Or.inr (sn_26 hw))).other W18 (Or.inr (sn_0 hw))).other W40 (Or.inr (sn_0 hw)))
    have f45 := (((xO1.other W9 (Or.inr (sn_27 hw))).other W18 (Or.inr (sn_9 hw))).other W40 (Or.inr (sn_9 hw)))
    have f46 := (((xB1.other W9 (Or.inr (sn_28 hw))).other W18 (Or.inr (sn_1 hw))).other W40 (Or.inr (sn_1 hw)))
    have f47 := (((xN1.other W9 (Or.inr (sn_29 hw))).other W18 (Or.inr (sn_12 hw))).other W40 (Or.inr (sn_12 hw)))
    have f48 := (((xV1.other W9 (Ne.symm xU1)).other W18 (Ne.symm xU1)).other W40 (Ne.symm xU1))
    refine ow_callP C A38 (argsL := []) f42 (rm_shT l Z a0 hw a b kk lw20 (r20 <<< ((8 : Int32) &&& 63).toInt64) he on bs t h39 ⟨f42, f43, f41, f44, f45, f46, f47, f48, xU1⟩ hI (by omega) []) tw_43 tw_45 tw_1 tw_44 tw_2 tw_46 (by decide) (allS (Or.inl (List.mem_of_getElem? (i := 0) rfl)) (allS (Or.inl (List.mem_of_getElem? (i := 1) rfl)) all0)) (by decide) (by decide) (ck' := 0) (sk' := 0) rfl rfl (by decide) (by decide) rfl (lenOf pd_2 rfl) (S := []) rfl (W := 0) (Nat.le_of_eq rfl) d5_79 rfl ?_
    intro T49 v49 K49 hQ49 A49
    obtain ⟨rfl, lo49, he49, on49, bs49, O49, I49⟩ := hQ49
    show OwnWP _ _ _ _ _ _ _ _ _ T49 (mkF m 82 #[.val (.ref a), .val (.int p), .val (.int (1 : Int32)), .val (.long (own_bd ra p)), .second, .val (.long (-1 : Int64)), .second] [])
    obtain ⟨xE50, xL50, xR50, xH50, xO50, xB50, xN50, xV50, xU50⟩ := O49
    refine ow_goto C A49 d5_82 (by decide) (pc' := 56) (by decide) ?_
    have sr51 := own_sl8 r20 ⟨by omega, by omega⟩
    obtain ⟨r51, hr51⟩ : ∃ z, z = (r20 <<< ((8 : Int32) &&& 63).toInt64) := ⟨_, rfl⟩
    have f52 : Fld Z T49.heap a "com/example/phasorwire/phasorwire/RangeEncoder" "range" "J" (.long r51) := by have q := xR50; rw [hr51]; exact q
    rw [← hr51] at sr51
    refine ow_aloadN C A49 d5_56 rfl rfl rfl ?_
    refine ow_getF C A49 tw_10 Via.refl f52 d5_57 rfl ?_
    intro T53 A54
    refine ow_ldc2 C A54 tw_42 d5_60 rfl ?_
    refine ow_lcmp_ge C A54 d5_63 rfl d5_64 (by decide) (pcY := 85) (by decide) (pcN := 67) rfl (fun hc55 => ?_) (fun hc55 => ?_)
    · skip
      have iv56 : ¬ (r51.toInt < 16777216) := own_nlt64' hc55
      refine ow_return C A54 rfl d5_85 (by decide) (by decide) ?_
      exact ⟨rfl, lo49, r51, he49, on49, bs49, 1, ⟨xE50, xL50, f52, xH50, xO50, xB50, xN50, xV50, xU50⟩, Or.inr (Or.inl ⟨rfl, by rw [← hr20]; omega, by rw [← hr20]; omega, by rw [← hr20]; omega⟩), (by have q := I49; exact q)⟩
    · skip
      have iv57 : r51.toInt < 16777216 := own_lt64' hc55
      refine ow_aloadN C A54 d5_67 rfl rfl rfl ?_
      refine ow_dup C A54 d5_68 rfl rfl ?_
      refine ow_getF C A54 tw_10 Via.refl f52 d5_69 rfl ?_
      intro T58 A59
      refine ow_bipush C A59 d5_72 (v := 8) rfl rfl ?_
      refine ow_lshl C A59 d5_74 rfl ?_
      refine ow_putF C A59 tw_10 Via.refl f52 xE50 tw_11 tw_1 (ty := .long) (by decide) rfl rfl (Or.inl (List.mem_of_getElem? (i := 0) rfl)) d5_75 rfl ?_
      intro T60 h62 W63 A61
      have f64 := f52.same W63
      refine ow_aloadN C A61 d5_78 rfl rfl rfl ?_
      have f65 := (xE50.wr W63)
      have f66 := (xL50.other W63 (Or.inr (sn_3 hw)))
      have f67 := (xH50.other W63 (Or.inr (sn_0 hw)))
      have f68 := (xO50.other W63 (Or.inr (sn_9 hw)))
      have f69 := (xB50.other W63 (Or.inr (sn_1 hw)))
      have f70 := (xN50.other W63 (Or.inr (sn_12 hw)))
      have f71 := (xV50.other W63 (Ne.symm xU50))
      refine ow_callP C A61 (argsL := []) f65 (rm_shT l Z a0 hw a b kk lo49 (r51 <<< ((8 : Int32) &&& 63).toInt64) he49 on49 bs49 (t + 1) h62 ⟨f65, f66, f64, f67, f68, f69, f70, f71, xU50⟩ I49 (by omega) []) tw_43 tw_45 tw_1 tw_44 tw_2 tw_46 (by decide) (allS (Or.inl (List.mem_of_getElem? (i := 0) rfl)) (allS (Or.inl (List.mem_of_getElem? (i := 1) rfl)) all0)) (by decide) (by decide) (ck' := 0) (sk' := 0) rfl rfl (by decide) (by decide) rfl (lenOf pd_2 rfl) (S := []) rfl (W := 0) (Nat.le_of_eq rfl) d5_79 rfl ?_
      intro T72 v72 K72 hQ72 A72
      obtain ⟨rfl, lo72, he72, on72, bs72, O72, I72⟩ := hQ72
      show OwnWP _ _ _ _ _ _ _ _ _ T72 (mkF m 82 #[.val (.ref a), .val (.int p), .val (.int (1 : Int32)), .val (.long (own_bd ra p)), .second, .val (.long (-1 : Int64)), .second] [])
      obtain ⟨xE73, xL73, xR73, xH73, xO73, xB73, xN73, xV73, xU73⟩ := O72
      refine ow_goto C A72 d5_82 (by decide) (pc' := 56) (by decide) ?_
      have sr74 := own_sl8 r51 ⟨by omega, by omega⟩
      obtain ⟨r74, hr74⟩ : ∃ z, z = (r51 <<< ((8 : Int32) &&& 63).toInt64) := ⟨_, rfl⟩
      have f75 : Fld Z T72.heap a "com/example/phasorwire/phasorwire/RangeEncoder" "range" "J" (.long r74) := by have q := xR73; rw [hr74]; exact q
      rw [← hr74] at sr74
      refine ow_aloadN C A72 d5_56 rfl rfl rfl ?_
      refine ow_getF C A72 tw_10 Via.refl f75 d5_57 rfl ?_
      intro T76 A77
      refine ow_ldc2 C A77 tw_42 d5_60 rfl ?_
      refine ow_lcmp_ge C A77 d5_63 rfl d5_64 (by decide) (pcY := 85) (by decide) (pcN := 67) rfl (fun _ => ?_) (fun zq => absurd zq (own_nlt64 (by show ¬ (r74.toInt < 16777216); omega)))
      refine ow_return C A77 rfl d5_85 (by decide) (by decide) ?_
      exact ⟨rfl, lo72, r74, he72, on72, bs72, 2, ⟨xE73, xL73, f75, xH73, xO73, xB73, xN73, xV73, xU73⟩, Or.inr (Or.inr ⟨rfl, by rw [← hr20]; omega, by rw [← hr20]; omega⟩), (by have q := I72; rw [Int.add_assoc] at q; exact q)⟩
set_option maxRecDepth 65536 in
set_option maxHeartbeats 40000000 in
theorem rm_lb (l : Launch) (Z : State) (a0 : Array Value) (hw : ∀ d ∈ tables_1, d.before a0 Z = true) (a b : Addr) (kk : ClassId) (lo ra : Int64) (he : Int32) (on : Int64) (bs : List Int32) (t : Int) (h0 : Heap) (O : Enc Z h0 a b kk lo ra he on bs) (hI : Inv he on bs t) (ht : t ≤ 31) (cs : List Jvm.Cond) :
    OwnCtr l Z (⟨"com/example/phasorwire/phasorwire/RangeEncoder", "lengthBound", "()J"⟩ : MethodName) prog_63_method_3_code 1 (some .long) rmz #[(.ref a)] h0 [] (QLb h0 t) cs := by
  refine ow_ctr pn_3 hw (Ls := #[.val (.ref a)]) (fun m => by first | (simp [entryFrame, mkF, argsToLocals, Value.category]; done) | rfl) ?_
  intro p e s m below meth c T0 C A0
  obtain ⟨xE1, xL1, xR1, xH1, xO1, xB1, xN1, xV1, xU1⟩ := O
  refine ow_aloadN C A0 d3_0 rfl rfl rfl ?_
  refine ow_getF C A0 tw_24 Via.refl xN1 d3_1 rfl ?_
  intro T2 A3
  refine ow_aloadN C A3 d3_4 rfl rfl rfl ?_
  refine ow_getF C A3 tw_12 Via.refl xH1 d3_5 rfl ?_
  intro T4 A5
  refine ow_if_lt C A5 d3_8 (by decide) (pcY := 15) (by decide) (pcN := 11) rfl (fun hc8 => ?_) (fun hc8 => ?_)
  · skip
    refine ow_iconst C A5 d3_15 (v := 0) rfl rfl ?_
    refine ow_iadd C A5 d3_16 rfl ?_
    refine ow_i2l C A5 d3_17 rfl ?_
    refine ow_aloadN C A5 d3_18 rfl rfl rfl ?_
    refine ow_getF C A5 tw_26 Via.refl xO1 d3_19 rfl ?_
    intro T6 A7
    refine ow_ladd C A7 d3_22 rfl ?_
    refine ow_ldc2 C A7 tw_28 d3_23 rfl ?_
    refine ow_ladd C A7 d3_26 rfl ?_
    refine ow_lreturn C A7 rfl d3_27 (by decide) (by decide) ?_
    obtain ⟨i1, i2⟩ := hI
    rcases i2 with ⟨g1, g2, g3⟩ | ⟨g1, g2⟩
    · exact ⟨rfl, _, rfl, own_lbv _ _ _ _ (by omega) (Or.inl rfl) (by omega) (by show (bs.length : Int) + 0 + on.toInt = t; omega)⟩
    · exact absurd hc8 g1
  · skip
    refine ow_iconst C A5 d3_11 (v := 1) rfl rfl ?_
    refine ow_goto C A5 d3_12 (by decide) (pc' := 16) (by decide) ?_
    refine ow_iadd C A5 d3_16 rfl ?_
    refine ow_i2l C A5 d3_17 rfl ?_
    refine ow_aloadN C A5 d3_18 rfl rfl rfl ?_
    refine ow_getF C A5 tw_26 Via.refl xO1 d3_19 rfl ?_
    intro T8 A9
    refine ow_ladd C A9 d3_22 rfl ?_
    refine ow_ldc2 C A9 tw_28 d3_23 rfl ?_
    refine ow_ladd C A9 d3_26 rfl ?_
    refine ow_lreturn C A9 rfl d3_27 (by decide) (by decide) ?_
    obtain ⟨i1, i2⟩ := hI
    rcases i2 with ⟨g1, g2, g3⟩ | ⟨g1, g2⟩
    · exact absurd g1 hc8
    · exact ⟨rfl, _, rfl, own_lbv _ _ _ _ (by omega) (Or.inr rfl) (by omega) (by show (bs.length : Int) + 1 + on.toInt = t; omega)⟩
set_option maxRecDepth 65536 in
set_option maxHeartbeats 40000000 in
theorem rm_prob (l : Launch) (Z : State) (a0 : Array Value) (hw : ∀ d ∈ tables_1, d.before a0 Z = true) (p1 : Int32) (h0 : Heap)  (cs : List Jvm.Cond) :
    OwnCtr l Z (⟨"com/example/phasorwire/phasorwire/RangeEncoderLengthBoundPinLaw", "prob", "(I)I"⟩ : MethodName) method_2_code 1 (some .int) rmz #[(.int p1)] h0 [] (QPr h0) cs := by
  refine ow_ctr pn_4 hw (Ls := #[.val (.int p1)]) (fun m => by first | (simp [entryFrame, mkF, argsToLocals, Value.category]; done) | rfl) ?_
  intro p e s m below meth c T0 C A0
  refine ow_iconst C A0 d4_0 (v := 1) rfl rfl ?_
  refine ow_iloadN C A0 d4_1 rfl rfl ?_
  refine ow_ldcInt C A0 tw_33 d4_2 rfl ?_
  refine ow_iand C A0 d4_4 rfl ?_
  refine ow_sipush C A0 d4_5 (v := 4095) rfl rfl ?_
  refine ow_irem C A0 d4_8 (by decide) rfl ?_
  refine ow_iadd C A0 d4_9 rfl ?_
  refine ow_ireturn C A0 (t := .int) rfl rfl (by simp) d4_10 (by decide) (by decide) ?_
  exact ⟨rfl, _, rfl, own_pr p1⟩
set_option maxRecDepth 65536 in
set_option maxHeartbeats 40000000 in
theorem rm_raw0 (l : Launch) (Z : State) (a0 : Array Value) (hw : ∀ d ∈ tables_1, d.before a0 Z = true) (ra : Int64) (p : Int32) (h0 : Heap)  (cs : List Jvm.Cond) :
    OwnCtr l Z (⟨"com/example/phasorwire/phasorwire/RangeEncoderLengthBoundPinLaw", "raw", "(JIZ)J"⟩ : MethodName) method_3_code 6 (some .long) rmz #[(.long ra), (.int p), (.int (0 : Int32))] h0 [] (QJ (own_r0 ra p) h0) cs := by
  refine ow_ctr pn_7 hw (Ls := #[.val (.long ra), .second, .val (.int p), .val (.int (0 : Int32)), .unset, .unset]) (fun m => by first | (simp [entryFrame, mkF, argsToLocals, Value.category]; done) | rfl) ?_
  intro pG e s m below meth c T0 C A0
  refine ow_lloadN C A0 d7_0 rfl rfl ?_
  refine ow_bipush C A0 d7_1 (v := 12) rfl rfl ?_
  refine ow_lushr C A0 d7_3 rfl ?_
  refine ow_iloadN C A0 d7_4 rfl rfl ?_
  refine ow_i2l C A0 d7_5 rfl ?_
  refine ow_lmul C A0 d7_6 rfl ?_
  refine ow_lstore C A0 d7_7 (Ls' := #[.val (.long ra), .second, .val (.int p), .val (.int (0 : Int32)), .val (.long ((own_ushrL ra (12 : Int32)) * p.toInt64)), .second]) rfl rfl ?_
  refine ow_iloadN C A0 d7_9 rfl rfl ?_
  refine ow_if_eq C A0 d7_10 (by decide) (pcY := 20) (by decide) (pcN := 13) rfl (fun _ => ?_) (fun zq => absurd (by decide) zq)
  refine ow_lload C A0 d7_20 rfl rfl ?_
  refine ow_lreturn C A0 rfl d7_22 (by decide) (by decide) ?_
  exact ⟨rfl, rfl⟩
set_option maxRecDepth 65536 in
set_option maxHeartbeats 40000000 in
theorem rm_raw1 (l : Launch) (Z : State) (a0 : Array Value) (hw : ∀ d ∈ tables_1, d.before a0 Z = true) (ra : Int64) (p : Int32) (h0 : Heap)  (cs : List Jvm.Cond) :
    OwnCtr l Z (⟨"com/example/phasorwire/phasorwire/RangeEncoderLengthBoundPinLaw", "raw", "(JIZ)J"⟩ : MethodName) method_3_code 6 (some .long) rmz #[(.long ra), (.int p), (.int (1 : Int32))] h0 [] (QJ (own_r1 ra p) h0) cs := by
  refine ow_ctr pn_7 hw (Ls := #[.val (.long ra), .second, .val (.int p), .val (.int (1 : Int32)), .unset, .unset]) (fun m => by first | (simp [entryFrame, mkF, argsToLocals, Value.category]; done) | rfl) ?_
  intro pG e s m below meth c T0 C A0
  refine ow_lloadN C A0 d7_0 rfl rfl ?_
  refine ow_bipush C A0 d7_1 (v := 12) rfl rfl ?_
  refine ow_lushr C A0 d7_3 rfl ?_
  refine ow_iloadN C A0 d7_4 rfl rfl ?_
  refine ow_i2l C A0 d7_5 rfl ?_
  refine ow_lmul C A0 d7_6 rfl ?_
  refine ow_lstore C A0 d7_7 (Ls' := #[.val (.long ra), .second, .val (.int p), .val (.int (1 : Int32)), .val (.long ((own_ushrL ra (12 : Int32)) * p.toInt64)), .second]) rfl rfl ?_
  refine ow_iloadN C A0 d7_9 rfl rfl ?_
  refine ow_if_eq C A0 d7_10 (by decide) (pcY := 20) (by decide) (pcN := 13) rfl (fun zq => absurd zq (by decide)) (fun _ => ?_)
  refine ow_lloadN C A0 d7_13 rfl rfl ?_
  refine ow_lload C A0 d7_14 rfl rfl ?_
  refine ow_lsub C A0 d7_16 rfl ?_
  refine ow_goto C A0 d7_17 (by decide) (pc' := 22) (by decide) ?_
  refine ow_lreturn C A0 rfl d7_22 (by decide) (by decide) ?_
  exact ⟨rfl, rfl⟩
set_option maxRecDepth 65536 in
set_option maxHeartbeats 40000000 in
theorem rm_sft (l : Launch) (Z : State) (a0 : Array Value) (hw : ∀ d ∈ tables_1, d.before a0 Z = true) (r : Int64) (h0 : Heap) (hr : 4096 ≤ r.toInt ∧ r.toInt < 4294967296) (cs : List Jvm.Cond) :
    OwnCtr l Z (⟨"com/example/phasorwire/phasorwire/RangeEncoderLengthBoundPinLaw", "shifts", "(J)I"⟩ : MethodName) method_4_code 2 (some .int) rmz #[(.long r)] h0 [] (QSs h0 r.toInt) cs := by
  refine ow_ctr pn_8 hw (Ls := #[.val (.long r), .second]) (fun m => by first | (simp [entryFrame, mkF, argsToLocals, Value.category]; done) | rfl) ?_
  intro p e s m below meth c T0 C A0
  refine ow_lloadN C A0 d8_0 rfl rfl ?_
  refine ow_ldc2 C A0 tw_55 d8_1 rfl ?_
  refine ow_lcmp_lt C A0 d8_4 rfl d8_5 (by decide) (pcY := 10) (by decide) (pcN := 8) rfl (fun hc4 => ?_) (fun hc4 => ?_)
  · skip
    refine ow_lloadN C A0 d8_10 rfl rfl ?_
    refine ow_bipush C A0 d8_11 (v := 8) rfl rfl ?_
    refine ow_lshl C A0 d8_13 rfl ?_
    refine ow_ldc2 C A0 tw_55 d8_14 rfl ?_
    refine ow_lcmp_lt C A0 d8_17 rfl d8_18 (by decide) (pcY := 23) (by decide) (pcN := 21) rfl (fun hc17 => ?_) (fun hc17 => ?_)
    · skip
      refine ow_iconst C A0 d8_23 (v := 2) rfl rfl ?_
      refine ow_ireturn C A0 (t := .int) rfl rfl (by simp) d8_24 (by decide) (by decide) ?_
      have c0 := own_lt64' hc4
      have c0' : r.toInt < 16777216 := c0
      have sl := own_sl8 r ⟨by omega, by omega⟩
      have c1 := own_lt64' hc17
      have c1' : (r <<< ((8 : Int32) &&& 63).toInt64).toInt < 16777216 := c1
      exact ⟨rfl, _, rfl, Or.inr (Or.inr ⟨rfl, by omega⟩)⟩
    · skip
      refine ow_iconst C A0 d8_21 (v := 1) rfl rfl ?_
      refine ow_ireturn C A0 (t := .int) rfl rfl (by simp) d8_22 (by decide) (by decide) ?_
      have c0 := own_lt64' hc4
      have c0' : r.toInt < 16777216 := c0
      have sl := own_sl8 r ⟨by omega, by omega⟩
      have c1 := own_nlt64' hc17
      have c1' : ¬ ((r <<< ((8 : Int32) &&& 63).toInt64).toInt < 16777216) := c1
      exact ⟨rfl, _, rfl, Or.inr (Or.inl ⟨rfl, by omega, by omega⟩)⟩
  · skip
    refine ow_iconst C A0 d8_8 (v := 0) rfl rfl ?_
    refine ow_ireturn C A0 (t := .int) rfl rfl (by simp) d8_9 (by decide) (by decide) ?_
    have c0 := own_nlt64' hc4
    have c0' : ¬ (r.toInt < 16777216) := c0
    exact ⟨rfl, _, rfl, Or.inl ⟨rfl, by omega⟩⟩
set_option maxRecDepth 65536 in
set_option maxHeartbeats 40000000 in
theorem fin_loop {p : Program} {l : Launch} {e : Env} {s : State} {m : MethodId} {args : Array Value} {below : List Frame} {meth : Method} {c : Code} {Z : State} {a0 : Array Value} {h0 h : Heap} {Q : Option Value → Heap → Prop} (hw : ∀ d ∈ tables_1, d.before a0 Z = true) (C : OwnCtx p s m meth c Z a0 tables_1 (⟨"com/example/phasorwire/phasorwire/RangeEncoder", "finish", "()[B"⟩ : MethodName) prog_63_method_4_code 7 (some (.array .byte))) (a b : Addr) (kk : ClassId) (lo ra : Int64) (he : Int32) (on : Int64) (bs : List Int32) (kp : Int32) (s3 s4 s5 s6 : Slot) (O : Enc Z h a b kk lo ra he on bs) (hbs : bs.length < 32) :
    ∀ (k : Nat) (T : State), k ≤ bs.length → OwnPos p l e rmf s m args below meth c h0 [a, b] T h 0 0 → (∀ (T' : State) (k' : Nat), k' ≤ k → (k' = 0 ∨ ¬ (bs.getD (k' - 1) 0 = 0)) → (∀ i, k' ≤ i → i < k → bs.getD i 0 = 0) → OwnPos p l e rmf s m args below meth c h0 [a, b] T' h 0 0 → OwnWP p e below s h0 [a, b] Q rmf.cells rmf.slots T' (mkF m 107 #[.val (.ref a), .val (.int kp), .val (.int (Int32.ofNat k')), s3, s4, s5, s6] [])) → OwnWP p e below s h0 [a, b] Q rmf.cells rmf.slots T (mkF m 86 #[.val (.ref a), .val (.int kp), .val (.int (Int32.ofNat k)), s3, s4, s5, s6] []) := by
  intro k
  induction k with
  | zero =>
    intro T hk A kont
    obtain ⟨xE1, xL1, xR1, xH1, xO1, xB1, xN1, xV1, xU1⟩ := O
    refine ow_iloadN C A d10_86 rfl rfl ?_
    refine ow_if_le C A d10_87 (by decide) (pcY := 107) (by decide) (pcN := 90) rfl (fun _ => ?_) (fun zq => absurd zq (by decide))
    exact kont _ 0 (Nat.le_refl _) (Or.inl rfl) (fun i _ hi => absurd hi (Nat.not_lt_zero _)) A
  | succ k ih =>
    intro T hk A kont
    obtain ⟨xE2, xL2, xR2, xH2, xO2, xB2, xN2, xV2, xU2⟩ := O
    have e0 := own_ofn (k + 1) (by omega)
    have e1 := own_sub1 (k + 1) (by omega) (by omega)
    refine ow_iloadN C A d10_86 rfl rfl ?_
    refine ow_if_le C A d10_87 (by decide) (pcY := 107) (by decide) (pcN := 90) rfl (fun zq => absurd (own_lt32 (by show 0 < (Int32.ofNat (k + 1)).toInt; omega)) zq) (fun _ => ?_)
    refine ow_aloadN C A d10_90 rfl rfl rfl ?_
    refine ow_getF C A tw_15 Via.refl xB2 d10_91 rfl ?_
    intro T3 A4
    refine ow_iloadN C A4 d10_94 rfl rfl ?_
    refine ow_iconst C A4 d10_95 (v := 1) rfl rfl ?_
    refine ow_isub C A4 d10_96 rfl ?_
    refine ow_baload C A4 xV2 ⟨own_nlt32 (by show ¬ ((Int32.ofNat (k + 1) - 1).toInt < 0); omega), own_lt32 (by show (Int32.ofNat (k + 1) - 1).toInt < 32; omega)⟩ (v := (.int (bs.getD k 0))) (by rw [own_tn, e1, show ((((k + 1 : Nat) : Int) - 1).toNat) = k from by omega]; exact own_gd bs k) d10_97 rfl ?_
    refine ow_if_ne C A4 d10_98 (by decide) (pcY := 107) (by decide) (pcN := 101) rfl (fun hc98 => ?_) (fun hc98 => ?_)
    · skip
      exact kont _ (k + 1) (Nat.le_refl _) (Or.inr (by simpa using hc98)) (fun i h1 h2 => absurd h2 (by omega)) A4
    · skip
      refine ow_iinc C A4 d10_101 rfl (Ls' := #[.val (.ref a), .val (.int kp), .val (.int ((Int32.ofNat (k + 1)) + (-1 : Int32))), s3, s4, s5, s6]) rfl rfl ?_
      refine ow_goto C A4 d10_104 (by decide) (pc' := 86) (by decide) ?_
      rw [own_subn k (by omega)]
      refine ih _ (by omega) A4 ?_
      intro T' k' h1 h2 h3 A'
      exact kont T' k' (by omega) h2 (fun i g1 g2 => if g : i < k then h3 i g1 g else by (have e : i = k := (by omega)); subst e; exact hc98) A'
set_option maxRecDepth 65536 in
set_option maxHeartbeats 40000000 in
theorem rm_fin (l : Launch) (Z : State) (a0 : Array Value) (hw : ∀ d ∈ tables_1, d.before a0 Z = true) (a b : Addr) (kk : ClassId) (lo ra : Int64) (he : Int32) (on : Int64) (bs : List Int32) (t : Int) (h0 : Heap) (O : Enc Z h0 a b kk lo ra he on bs) (hI : Inv he on bs t) (ht0 : 0 ≤ t) (ht : t ≤ 20) (cs : List Jvm.Cond) :
    OwnCtr l Z (⟨"com/example/phasorwire/phasorwire/RangeEncoder", "finish", "()[B"⟩ : MethodName) prog_63_method_4_code 7 (some (.array .byte)) rmf #[(.ref a)] h0 [a, b] (QF Z t) cs := by
  refine ow_ctr pn_10 hw (Ls := #[.val (.ref a), .unset, .unset, .unset, .unset, .unset, .unset]) (fun m => by first | (simp [entryFrame, mkF, argsToLocals, Value.category]; done) | rfl) ?_
  intro p e s m below meth c T0 C A0
  obtain ⟨xE1, xL1, xR1, xH1, xO1, xB1, xN1, xV1, xU1⟩ := O
  refine ow_iconst C A0 d10_0 (v := 4) rfl rfl ?_
  refine ow_istoreN C A0 d10_1 (Ls' := #[.val (.ref a), .val (.int (4 : Int32)), .unset, .unset, .unset, .unset, .unset]) rfl rfl ?_
  refine ow_iconst C A0 d10_2 (v := 0) rfl rfl ?_
  refine ow_istoreN C A0 d10_3 (Ls' := #[.val (.ref a), .val (.int (4 : Int32)), .val (.int (0 : Int32)), .unset, .unset, .unset, .unset]) rfl rfl ?_
  refine ow_iloadN C A0 d10_4 rfl rfl ?_
  refine ow_iconst C A0 d10_5 (v := 4) rfl rfl ?_
  refine ow_icmp_ge C A0 d10_6 (by decide) (pcY := 64) (by decide) (pcN := 9) rfl (fun zq => absurd (by decide) zq) (fun _ => ?_)
  refine ow_lconst C A0 d10_9 (v := 1) rfl rfl ?_
  refine ow_bipush C A0 d10_10 (v := 8) rfl rfl ?_
  refine ow_iconst C A0 d10_12 (v := 4) rfl rfl ?_
  refine ow_iloadN C A0 d10_13 rfl rfl ?_
  refine ow_isub C A0 d10_14 rfl ?_
  show OwnWP _ _ _ _ _ _ _ _ _ T0 (mkF m 15 #[.val (.ref a), .val (.int (4 : Int32)), .val (.int (0 : Int32)), .unset, .unset, .unset, .unset] [(.int (4 : Int32)), (.int (8 : Int32)), (.long (1 : Int64))])
  refine ow_imul C A0 d10_15 rfl ?_
  show OwnWP _ _ _ _ _ _ _ _ _ T0 (mkF m 16 #[.val (.ref a), .val (.int (4 : Int32)), .val (.int (0 : Int32)), .unset, .unset, .unset, .unset] [(.int (32 : Int32)), (.long (1 : Int64))])
  refine ow_lshl C A0 d10_16 rfl ?_
  show OwnWP _ _ _ _ _ _ _ _ _ T0 (mkF m 17 #[.val (.ref a), .val (.int (4 : Int32)), .val (.int (0 : Int32)), .unset, .unset, .unset, .unset] [(.long (4294967296 : Int64))])
  refine ow_lstoreN C A0 d10_17 (Ls' := #[.val (.ref a), .val (.int (4 : Int32)), .val (.int (0 : Int32)), .val (.long (4294967296 : Int64)), .second, .unset, .unset]) rfl rfl ?_
  refine ow_aloadN C A0 d10_18 rfl rfl rfl ?_
  refine ow_getF C A0 tw_39 Via.refl xL1 d10_19 rfl ?_
  intro T2 A3
  refine ow_lloadN C A3 d10_22 rfl rfl ?_
  refine ow_ladd C A3 d10_23 rfl ?_
  refine ow_lconst C A3 d10_24 (v := 1) rfl rfl ?_
  refine ow_lsub C A3 d10_25 rfl ?_
  refine ow_lloadN C A3 d10_26 rfl rfl ?_
  refine ow_ldiv C A3 d10_27 (by decide) rfl ?_
  refine ow_lloadN C A3 d10_28 rfl rfl ?_
  refine ow_lmul C A3 d10_29 rfl ?_
  refine ow_lstore C A3 d10_30 (Ls' := #[.val (.ref a), .val (.int (4 : Int32)), .val (.int (0 : Int32)), .val (.long (4294967296 : Int64)), .second, .val (.long ((((lo + (4294967296 : Int64)) - (1 : Int64)) / (4294967296 : Int64)) * (4294967296 : Int64))), .second]) rfl rfl ?_
  refine ow_lload C A3 d10_32 rfl rfl ?_
  refine ow_aloadN C A3 d10_34 rfl rfl rfl ?_
  refine ow_getF C A3 tw_39 Via.refl xL1 d10_35 rfl ?_
  intro T4 A5
  refine ow_aloadN C A5 d10_38 rfl rfl rfl ?_
  refine ow_getF C A5 tw_10 Via.refl xR1 d10_39 rfl ?_
  intro T6 A7
  refine ow_ladd C A7 d10_42 rfl ?_
  refine ow_lcmp_ge C A7 d10_43 rfl d10_44 (by decide) (pcY := 58) (by decide) (pcN := 47) rfl (fun hc43 => ?_) (fun hc43 => ?_)
  · skip
    refine ow_iinc C A7 d10_58 rfl (Ls' := #[.val (.ref a), .val (.int (4 : Int32)), .val (.int (1 : Int32)), .val (.long (4294967296 : Int64)), .second, .val (.long ((((lo + (4294967296 : Int64)) - (1 : Int64)) / (4294967296 : Int64)) * (4294967296 : Int64))), .second]) rfl rfl ?_
    refine ow_goto C A7 d10_61 (by decide) (pc' := 4) (by decide) ?_
    refine ow_iloadN C A7 d10_4 rfl rfl ?_
    refine ow_iconst C A7 d10_5 (v := 4) rfl rfl ?_
    refine ow_icmp_ge C A7 d10_6 (by decide) (pcY := 64) (by decide) (pcN := 9) rfl (fun zq => absurd (by decide) zq) (fun _ => ?_)
    refine ow_lconst C A7 d10_9 (v := 1) rfl rfl ?_
    refine ow_bipush C A7 d10_10 (v := 8) rfl rfl ?_
    refine ow_iconst C A7 d10_12 (v := 4) rfl rfl ?_
    refine ow_iloadN C A7 d10_13 rfl rfl ?_
    refine ow_isub C A7 d10_14 rfl ?_
    show OwnWP _ _ _ _ _ _ _ _ _ T6 (mkF m 15 #[.val (.ref a), .val (.int (4 : Int32)), .val (.int (1 : Int32)), .val (.long (4294967296 : Int64)), .second, .val (.long ((((lo + (4294967296 : Int64)) - (1 : Int64)) / (4294967296 : Int64)) * (4294967296 : Int64))), .second] [(.int (3 : Int32)), (.int (8 : Int32)), (.long (1 : Int64))])
    refine ow_imul C A7 d10_15 rfl ?_
    show OwnWP _ _ _ _ _ _ _ _ _ T6 (mkF m 16 #[.val (.ref a), .val (.int (4 : Int32)), .val (.int (1 : Int32)), .val (.long (4294967296 : Int64)), .second, .val (.long ((((lo + (4294967296 : Int64)) - (1 : Int64)) / (4294967296 : Int64)) * (4294967296 : Int64))), .second] [(.int (24 : Int32)), (.long (1 : Int64))])
    refine ow_lshl C A7 d10_16 rfl ?_
    show OwnWP _ _ _ _ _ _ _ _ _ T6 (mkF m 17 #[.val (.ref a), .val (.int (4 : Int32)), .val (.int (1 : Int32)), .val (.long (4294967296 : Int64)), .second, .val (.long ((((lo + (4294967296 : Int64)) - (1 : Int64)) / (4294967296 : Int64)) * (4294967296 : Int64))), .second] [(.long (16777216 : Int64))])
    refine ow_lstoreN C A7 d10_17 (Ls' := #[.val (.ref a), .val (.int (4 : Int32)), .val (.int (1 : Int32)), .val (.long (16777216 : Int64)), .second, .val (.long ((((lo + (4294967296 : Int64)) - (1 : Int64)) / (4294967296 : Int64)) * (4294967296 : Int64))), .second]) rfl rfl ?_
    refine ow_aloadN C A7 d10_18 rfl rfl rfl ?_
    refine ow_getF C A7 tw_39 Via.refl xL1 d10_19 rfl ?_
    intro T8 A9
    refine ow_lloadN C A9 d10_22 rfl rfl ?_
    refine ow_ladd C A9 d10_23 rfl ?_
    refine ow_lconst C A9 d10_24 (v := 1) rfl rfl ?_
    refine ow_lsub C A9 d10_25 rfl ?_
    refine ow_lloadN C A9 d10_26 rfl rfl ?_
    refine ow_ldiv C A9 d10_27 (by decide) rfl ?_
    refine ow_lloadN C A9 d10_28 rfl rfl ?_
    refine ow_lmul C A9 d10_29 rfl ?_
    refine ow_lstore C A9 d10_30 (Ls' := #[.val (.ref a), .val (.int (4 : Int32)), .val (.int (1 : Int32)), .val (.long (16777216 : Int64)), .second, .val (.long ((((lo + (16777216 : Int64)) - (1 : Int64)) / (16777216 : Int64)) * (16777216 : Int64))), .second]) rfl rfl ?_
    refine ow_lload C A9 d10_32 rfl rfl ?_
    refine ow_aloadN C A9 d10_34 rfl rfl rfl ?_
    refine ow_getF C A9 tw_39 Via.refl xL1 d10_35 rfl ?_
    intro T10 A11
    refine ow_aloadN C A11 d10_38 rfl rfl rfl ?_
    refine ow_getF C A11 tw_10 Via.refl xR1 d10_39 rfl ?_
    intro T12 A13
    refine ow_ladd C A13 d10_42 rfl ?_
    refine ow_lcmp_ge C A13 d10_43 rfl d10_44 (by decide) (pcY := 58) (by decide) (pcN := 47) rfl (fun hc14 => ?_) (fun hc14 => ?_)
    · skip
      refine ow_iinc C A13 d10_58 rfl (Ls' := #[.val (.ref a), .val (.int (4 : Int32)), .val (.int (2 : Int32)), .val (.long (16777216 : Int64)), .second, .val (.long ((((lo + (16777216 : Int64)) - (1 : Int64)) / (16777216 : Int64)) * (16777216 : Int64))), .second]) rfl rfl ?_
      refine ow_goto C A13 d10_61 (by decide) (pc' := 4) (by decide) ?_
      refine ow_iloadN C A13 d10_4 rfl rfl ?_
      refine ow_iconst C A13 d10_5 (v := 4) rfl rfl ?_
      refine ow_icmp_ge C A13 d10_6 (by decide) (pcY := 64) (by decide) (pcN := 9) rfl (fun zq => absurd (by decide) zq) (fun _ => ?_)
      refine ow_lconst C A13 d10_9 (v := 1) rfl rfl ?_
      refine ow_bipush C A13 d10_10 (v := 8) rfl rfl ?_
      refine ow_iconst C A13 d10_12 (v := 4) rfl rfl ?_
      refine ow_iloadN C A13 d10_13 rfl rfl ?_
      refine ow_isub C A13 d10_14 rfl ?_
      show OwnWP _ _ _ _ _ _ _ _ _ T12 (mkF m 15 #[.val (.ref a), .val (.int (4 : Int32)), .val (.int (2 : Int32)), .val (.long (16777216 : Int64)), .second, .val (.long ((((lo + (16777216 : Int64)) - (1 : Int64)) / (16777216 : Int64)) * (16777216 : Int64))), .second] [(.int (2 : Int32)), (.int (8 : Int32)), (.long (1 : Int64))])
      refine ow_imul C A13 d10_15 rfl ?_
      show OwnWP _ _ _ _ _ _ _ _ _ T12 (mkF m 16 #[.val (.ref a), .val (.int (4 : Int32)), .val (.int (2 : Int32)), .val (.long (16777216 : Int64)), .second, .val (.long ((((lo + (16777216 : Int64)) - (1 : Int64)) / (16777216 : Int64)) * (16777216 : Int64))), .second] [(.int (16 : Int32)), (.long (1 : Int64))])
      refine ow_lshl C A13 d10_16 rfl ?_
      show OwnWP _ _ _ _ _ _ _ _ _ T12 (mkF m 17 #[.val (.ref a), .val (.int (4 : Int32)), .val (.int (2 : Int32)), .val (.long (16777216 : Int64)), .second, .val (.long ((((lo + (16777216 : Int64)) - (1 : Int64)) / (16777216 : Int64)) * (16777216 : Int64))), .second] [(.long (65536 : Int64))])
      refine ow_lstoreN C A13 d10_17 (Ls' := #[.val (.ref a), .val (.int (4 : Int32)), .val (.int (2 : Int32)), .val (.long (65536 : Int64)), .second, .val (.long ((((lo + (16777216 : Int64)) - (1 : Int64)) / (16777216 : Int64)) * (16777216 : Int64))), .second]) rfl rfl ?_
      refine ow_aloadN C A13 d10_18 rfl rfl rfl ?_
      refine ow_getF C A13 tw_39 Via.refl xL1 d10_19 rfl ?_
      intro T15 A16
      refine ow_lloadN C A16 d10_22 rfl rfl ?_
      refine ow_ladd C A16 d10_23 rfl ?_
      refine ow_lconst C A16 d10_24 (v := 1) rfl rfl ?_
      refine ow_lsub C A16 d10_25 rfl ?_
      refine ow_lloadN C A16 d10_26 rfl rfl ?_
      refine ow_ldiv C A16 d10_27 (by decide) rfl ?_
      refine ow_lloadN C A16 d10_28 rfl rfl ?_
      refine ow_lmul C A16 d10_29 rfl ?_
      refine ow_lstore C A16 d10_30 (Ls' := #[.val (.ref a), .val (.int (4 : Int32)), .val (.int (2 : Int32)), .val (.long (65536 : Int64)), .second, .val (.long ((((lo + (65536 : Int64)) - (1 : Int64)) / (65536 : Int64)) * (65536 : Int64))), .second]) rfl rfl ?_
      refine ow_lload C A16 d10_32 rfl rfl ?_
      refine ow_aloadN C A16 d10_34 rfl rfl rfl ?_
      refine ow_getF C A16 tw_39 Via.refl xL1 d10_35 rfl ?_
      intro T17 A18
      refine ow_aloadN C A18 d10_38 rfl rfl rfl ?_
      refine ow_getF C A18 tw_10 Via.refl xR1 d10_39 rfl ?_
      intro T19 A20
      refine ow_ladd C A20 d10_42 rfl ?_
      refine ow_lcmp_ge C A20 d10_43 rfl d10_44 (by decide) (pcY := 58) (by decide) (pcN := 47) rfl (fun hc21 => ?_) (fun hc21 => ?_)
      · skip
        refine ow_iinc C A20 d10_58 rfl (Ls' := #[.val (.ref a), .val (.int (4 : Int32)), .val (.int (3 : Int32)), .val (.long (65536 : Int64)), .second, .val (.long ((((lo + (65536 : Int64)) - (1 : Int64)) / (65536 : Int64)) * (65536 : Int64))), .second]) rfl rfl ?_
        refine ow_goto C A20 d10_61 (by decide) (pc' := 4) (by decide) ?_
        refine ow_iloadN C A20 d10_4 rfl rfl ?_
        refine ow_iconst C A20 d10_5 (v := 4) rfl rfl ?_
        refine ow_icmp_ge C A20 d10_6 (by decide) (pcY := 64) (by decide) (pcN := 9) rfl (fun zq => absurd (by decide) zq) (fun _ => ?_)
        refine ow_lconst C A20 d10_9 (v := 1) rfl rfl ?_
        refine ow_bipush C A20 d10_10 (v := 8) rfl rfl ?_
        refine ow_iconst C A20 d10_12 (v := 4) rfl rfl ?_
        refine ow_iloadN C A20 d10_13 rfl rfl ?_
        refine ow_isub C A20 d10_14 rfl ?_
        show OwnWP _ _ _ _ _ _ _ _ _ T19 (mkF m 15 #[.val (.ref a), .val (.int (4 : Int32)), .val (.int (3 : Int32)), .val (.long (65536 : Int64)), .second, .val (.long ((((lo + (65536 : Int64)) - (1 : Int64)) / (65536 : Int64)) * (65536 : Int64))), .second] [(.int (1 : Int32)), (.int (8 : Int32)), (.long (1 : Int64))])
        refine ow_imul C A20 d10_15 rfl ?_
        show OwnWP _ _ _ _ _ _ _ _ _ T19 (mkF m 16 #[.val (.ref a), .val (.int (4 : Int32)), .val (.int (3 : Int32)), .val (.long (65536 : Int64)), .second, .val (.long ((((lo + (65536 : Int64)) - (1 : Int64)) / (65536 : Int64)) * (65536 : Int64))), .second] [(.int (8 : Int32)), (.long (1 : Int64))])
        refine ow_lshl C A20 d10_16 rfl ?_
        show OwnWP _ _ _ _ _ _ _ _ _ T19 (mkF m 17 #[.val (.ref a), .val (.int (4 : Int32)), .val (.int (3 : Int32)), .val (.long (65536 : Int64)), .second, .val (.long ((((lo + (65536 : Int64)) - (1 : Int64)) / (65536 : Int64)) * (65536 : Int64))), .second] [(.long (256 : Int64))])
        refine ow_lstoreN C A20 d10_17 (Ls' := #[.val (.ref a), .val (.int (4 : Int32)), .val (.int (3 : Int32)), .val (.long (256 : Int64)), .second, .val (.long ((((lo + (65536 : Int64)) - (1 : Int64)) / (65536 : Int64)) * (65536 : Int64))), .second]) rfl rfl ?_
        refine ow_aloadN C A20 d10_18 rfl rfl rfl ?_
        refine ow_getF C A20 tw_39 Via.refl xL1 d10_19 rfl ?_
        intro T22 A23
        refine ow_lloadN C A23 d10_22 rfl rfl ?_
        refine ow_ladd C A23 d10_23 rfl ?_
        refine ow_lconst C A23 d10_24 (v := 1) rfl rfl ?_
        refine ow_lsub C A23 d10_25 rfl ?_
        refine ow_lloadN C A23 d10_26 rfl rfl ?_
        refine ow_ldiv C A23 d10_27 (by decide) rfl ?_
        refine ow_lloadN C A23 d10_28 rfl rfl ?_
        refine ow_lmul C A23 d10_29 rfl ?_
        refine ow_lstore C A23 d10_30 (Ls' := #[.val (.ref a), .val (.int (4 : Int32)), .val (.int (3 : Int32)), .val (.long (256 : Int64)), .second, .val (.long ((((lo + (256 : Int64)) - (1 : Int64)) / (256 : Int64)) * (256 : Int64))), .second]) rfl rfl ?_
        refine ow_lload C A23 d10_32 rfl rfl ?_
        refine ow_aloadN C A23 d10_34 rfl rfl rfl ?_
        refine ow_getF C A23 tw_39 Via.refl xL1 d10_35 rfl ?_
        intro T24 A25
        refine ow_aloadN C A25 d10_38 rfl rfl rfl ?_
        refine ow_getF C A25 tw_10 Via.refl xR1 d10_39 rfl ?_
        intro T26 A27
        refine ow_ladd C A27 d10_42 rfl ?_
        refine ow_lcmp_ge C A27 d10_43 rfl d10_44 (by decide) (pcY := 58) (by decide) (pcN := 47) rfl (fun hc28 => ?_) (fun hc28 => ?_)
        · skip
          refine ow_iinc C A27 d10_58 rfl (Ls' := #[.val (.ref a), .val (.int (4 : Int32)), .val (.int (4 : Int32)), .val (.long (256 : Int64)), .second, .val (.long ((((lo + (256 : Int64)) - (1 : Int64)) / (256 : Int64)) * (256 : Int64))), .second]) rfl rfl ?_
          refine ow_goto C A27 d10_61 (by decide) (pc' := 4) (by decide) ?_
          refine ow_iloadN C A27 d10_4 rfl rfl ?_
          refine ow_iconst C A27 d10_5 (v := 4) rfl rfl ?_
          refine ow_icmp_ge C A27 d10_6 (by decide) (pcY := 64) (by decide) (pcN := 9) rfl (fun _ => ?_) (fun zq => absurd zq (by decide))
          refine ow_iconst C A27 d10_64 (v := 0) rfl rfl ?_
          refine ow_istoreN C A27 d10_65 (Ls' := #[.val (.ref a), .val (.int (4 : Int32)), .val (.int (0 : Int32)), .val (.long (256 : Int64)), .second, .val (.long ((((lo + (256 : Int64)) - (1 : Int64)) / (256 : Int64)) * (256 : Int64))), .second]) rfl rfl ?_
          refine ow_iloadN C A27 d10_66 rfl rfl ?_
          refine ow_iloadN C A27 d10_67 rfl rfl ?_
          refine ow_icmp_gt C A27 d10_68 (by decide) (pcY := 81) (by decide) (pcN := 71) rfl (fun zq => absurd zq (by decide)) (fun _ => ?_)
          refine ow_aloadN C A27 d10_71 rfl rfl rfl ?_
          refine ow_callP C A27 (argsL := []) xE1 (rm_shT l Z a0 hw a b kk lo ra he on bs t h0 ⟨xE1, xL1, xR1, xH1, xO1, xB1, xN1, xV1, xU1⟩ hI (by omega) []) tw_43 tw_45 tw_1 tw_44 tw_2 tw_46 (by decide) (allS (Or.inl (List.mem_of_getElem? (i := 0) rfl)) (allS (Or.inl (List.mem_of_getElem? (i := 1) rfl)) all0)) (by decide) (by decide) (ck' := 0) (sk' := 0) rfl rfl (by decide) (by decide) rfl (lenOf pd_2 rfl) (S := []) rfl (W := 0) (Nat.le_of_eq rfl) d10_72 rfl ?_
          intro T29 v29 K29 hQ29 A29
          obtain ⟨rfl, lo29, he29, on29, bs29, O29, I29⟩ := hQ29
          show OwnWP _ _ _ _ _ _ _ _ _ T29 (mkF m 75 #[.val (.ref a), .val (.int (4 : Int32)), .val (.int (0 : Int32)), .val (.long (256 : Int64)), .second, .val (.long ((((lo + (256 : Int64)) - (1 : Int64)) / (256 : Int64)) * (256 : Int64))), .second] [])
          obtain ⟨xE30, xL30, xR30, xH30, xO30, xB30, xN30, xV30, xU30⟩ := O29
          refine ow_iinc C A29 d10_75 rfl (Ls' := #[.val (.ref a), .val (.int (4 : Int32)), .val (.int (1 : Int32)), .val (.long (256 : Int64)), .second, .val (.long ((((lo + (256 : Int64)) - (1 : Int64)) / (256 : Int64)) * (256 : Int64))), .second]) rfl rfl ?_
          refine ow_goto C A29 d10_78 (by decide) (pc' := 66) (by decide) ?_
          refine ow_iloadN C A29 d10_66 rfl rfl ?_
          refine ow_iloadN C A29 d10_67 rfl rfl ?_
          refine ow_icmp_gt C A29 d10_68 (by decide) (pcY := 81) (by decide) (pcN := 71) rfl (fun zq => absurd zq (by decide)) (fun _ => ?_)
          refine ow_aloadN C A29 d10_71 rfl rfl rfl ?_
          refine ow_callP C A29 (argsL := []) xE30 (rm_shT l Z a0 hw a b kk lo29 ra he29 on29 bs29 (t + 1) T29.heap ⟨xE30, xL30, xR30, xH30, xO30, xB30, xN30, xV30, xU30⟩ I29 (by omega) []) tw_43 tw_45 tw_1 tw_44 tw_2 tw_46 (by decide) (allS (Or.inl (List.mem_of_getElem? (i := 0) rfl)) (allS (Or.inl (List.mem_of_getElem? (i := 1) rfl)) all0)) (by decide) (by decide) (ck' := 0) (sk' := 0) rfl rfl (by decide) (by decide) rfl (lenOf pd_2 rfl) (S := []) rfl (W := 0) (Nat.le_of_eq rfl) d10_72 rfl ?_
          intro T31 v31 K31 hQ31 A31
          obtain ⟨rfl, lo31, he31, on31, bs31, O31, I31⟩ := hQ31
          show OwnWP _ _ _ _ _ _ _ _ _ T31 (mkF m 75 #[.val (.ref a), .val (.int (4 : Int32)), .val (.int (1 : Int32)), .val (.long (256 : Int64)), .second, .val (.long ((((lo + (256 : Int64)) - (1 : Int64)) / (256 : Int64)) * (256 : Int64))), .second] [])
          obtain ⟨xE32, xL32, xR32, xH32, xO32, xB32, xN32, xV32, xU32⟩ := O31
          refine ow_iinc C A31 d10_75 rfl (Ls' := #[.val (.ref a), .val (.int (4 : Int32)), .val (.int (2 : Int32)), .val (.long (256 : Int64)), .second, .val (.long ((((lo + (256 : Int64)) - (1 : Int64)) / (256 : Int64)) * (256 : Int64))), .second]) rfl rfl ?_
          refine ow_goto C A31 d10_78 (by decide) (pc' := 66) (by decide) ?_
          refine ow_iloadN C A31 d10_66 rfl rfl ?_
          refine ow_iloadN C A31 d10_67 rfl rfl ?_
          refine ow_icmp_gt C A31 d10_68 (by decide) (pcY := 81) (by decide) (pcN := 71) rfl (fun zq => absurd zq (by decide)) (fun _ => ?_)
          refine ow_aloadN C A31 d10_71 rfl rfl rfl ?_
          refine ow_callP C A31 (argsL := []) xE32 (rm_shT l Z a0 hw a b kk lo31 ra he31 on31 bs31 ((t + 1) + 1) T31.heap ⟨xE32, xL32, xR32, xH32, xO32, xB32, xN32, xV32, xU32⟩ I31 (by omega) []) tw_43 tw_45 tw_1 tw_44 tw_2 tw_46 (by decide) (allS (Or.inl (List.mem_of_getElem? (i := 0) rfl)) (allS (Or.inl (List.mem_of_getElem? (i := 1) rfl)) all0)) (by decide) (by decide) (ck' := 0) (sk' := 0) rfl rfl (by decide) (by decide) rfl (lenOf pd_2 rfl) (S := []) rfl (W := 0) (Nat.le_of_eq rfl) d10_72 rfl ?_
          intro T33 v33 K33 hQ33 A33
          obtain ⟨rfl, lo33, he33, on33, bs33, O33, I33⟩ := hQ33
          show OwnWP _ _ _ _ _ _ _ _ _ T33 (mkF m 75 #[.val (.ref a), .val (.int (4 : Int32)), .val (.int (2 : Int32)), .val (.long (256 : Int64)), .second, .val (.long ((((lo + (256 : Int64)) - (1 : Int64)) / (256 : Int64)) * (256 : Int64))), .second] [])
          obtain ⟨xE34, xL34, xR34, xH34, xO34, xB34, xN34, xV34, xU34⟩ := O33
          refine ow_iinc C A33 d10_75 rfl (Ls' := #[.val (.ref a), .val (.int (4 : Int32)), .val (.int (3 : Int32)), .val (.long (256 : Int64)), .second, .val (.long ((((lo + (256 : Int64)) - (1 : Int64)) / (256 : Int64)) * (256 : Int64))), .second]) rfl rfl ?_
          refine ow_goto C A33 d10_78 (by decide) (pc' := 66) (by decide) ?_
          refine ow_iloadN C A33 d10_66 rfl rfl ?_
          refine ow_iloadN C A33 d10_67 rfl rfl ?_
          refine ow_icmp_gt C A33 d10_68 (by decide) (pcY := 81) (by decide) (pcN := 71) rfl (fun zq => absurd zq (by decide)) (fun _ => ?_)
          refine ow_aloadN C A33 d10_71 rfl rfl rfl ?_
          refine ow_callP C A33 (argsL := []) xE34 (rm_shT l Z a0 hw a b kk lo33 ra he33 on33 bs33 (((t + 1) + 1) + 1) T33.heap ⟨xE34, xL34, xR34, xH34, xO34, xB34, xN34, xV34, xU34⟩ I33 (by omega) []) tw_43 tw_45 tw_1 tw_44 tw_2 tw_46 (by decide) (allS (Or.inl (List.mem_of_getElem? (i := 0) rfl)) (allS (Or.inl (List.mem_of_getElem? (i := 1) rfl)) all0)) (by decide) (by decide) (ck' := 0) (sk' := 0) rfl rfl (by decide) (by decide) rfl (lenOf pd_2 rfl) (S := []) rfl (W := 0) (Nat.le_of_eq rfl) d10_72 rfl ?_
          intro T35 v35 K35 hQ35 A35
          obtain ⟨rfl, lo35, he35, on35, bs35, O35, I35⟩ := hQ35
          show OwnWP _ _ _ _ _ _ _ _ _ T35 (mkF m 75 #[.val (.ref a), .val (.int (4 : Int32)), .val (.int (3 : Int32)), .val (.long (256 : Int64)), .second, .val (.long ((((lo + (256 : Int64)) - (1 : Int64)) / (256 : Int64)) * (256 : Int64))), .second] [])
          obtain ⟨xE36, xL36, xR36, xH36, xO36, xB36, xN36, xV36, xU36⟩ := O35
          refine ow_iinc C A35 d10_75 rfl (Ls' := #[.val (.ref a), .val (.int (4 : Int32)), .val (.int (4 : Int32)), .val (.long (256 : Int64)), .second, .val (.long ((((lo + (256 : Int64)) - (1 : Int64)) / (256 : Int64)) * (256 : Int64))), .second]) rfl rfl ?_
          refine ow_goto C A35 d10_78 (by decide) (pc' := 66) (by decide) ?_
          refine ow_iloadN C A35 d10_66 rfl rfl ?_
          refine ow_iloadN C A35 d10_67 rfl rfl ?_
          refine ow_icmp_gt C A35 d10_68 (by decide) (pcY := 81) (by decide) (pcN := 71) rfl (fun zq => absurd zq (by decide)) (fun _ => ?_)
          refine ow_aloadN C A35 d10_71 rfl rfl rfl ?_
          refine ow_callP C A35 (argsL := []) xE36 (rm_shT l Z a0 hw a b kk lo35 ra he35 on35 bs35 ((((t + 1) + 1) + 1) + 1) T35.heap ⟨xE36, xL36, xR36, xH36, xO36, xB36, xN36, xV36, xU36⟩ I35 (by omega) []) tw_43 tw_45 tw_1 tw_44 tw_2 tw_46 (by decide) (allS (Or.inl (List.mem_of_getElem? (i := 0) rfl)) (allS (Or.inl (List.mem_of_getElem? (i := 1) rfl)) all0)) (by decide) (by decide) (ck' := 0) (sk' := 0) rfl rfl (by decide) (by decide) rfl (lenOf pd_2 rfl) (S := []) rfl (W := 0) (Nat.le_of_eq rfl) d10_72 rfl ?_
          intro T37 v37 K37 hQ37 A37
          obtain ⟨rfl, lo37, he37, on37, bs37, O37, I37⟩ := hQ37
          show OwnWP _ _ _ _ _ _ _ _ _ T37 (mkF m 75 #[.val (.ref a), .val (.int (4 : Int32)), .val (.int (4 : Int32)), .val (.long (256 : Int64)), .second, .val (.long ((((lo + (256 : Int64)) - (1 : Int64)) / (256 : Int64)) * (256 : Int64))), .second] [])
          obtain ⟨xE38, xL38, xR38, xH38, xO38, xB38, xN38, xV38, xU38⟩ := O37
          refine ow_iinc C A37 d10_75 rfl (Ls' := #[.val (.ref a), .val (.int (4 : Int32)), .val (.int (5 : Int32)), .val (.long (256 : Int64)), .second, .val (.long ((((lo + (256 : Int64)) - (1 : Int64)) / (256 : Int64)) * (256 : Int64))), .second]) rfl rfl ?_
          refine ow_goto C A37 d10_78 (by decide) (pc' := 66) (by decide) ?_
          refine ow_iloadN C A37 d10_66 rfl rfl ?_
          refine ow_iloadN C A37 d10_67 rfl rfl ?_
          refine ow_icmp_gt C A37 d10_68 (by decide) (pcY := 81) (by decide) (pcN := 71) rfl (fun _ => ?_) (fun zq => absurd (by decide) zq)
          refine ow_aloadN C A37 d10_81 rfl rfl rfl ?_
          refine ow_getF C A37 tw_24 Via.refl xN38 d10_82 rfl ?_
          intro T39 A40
          refine ow_istoreN C A40 d10_85 (Ls' := #[.val (.ref a), .val (.int (4 : Int32)), .val (.int (Int32.ofNat (bs37).length)), .val (.long (256 : Int64)), .second, .val (.long ((((lo + (256 : Int64)) - (1 : Int64)) / (256 : Int64)) * (256 : Int64))), .second]) rfl rfl ?_
          have hc41 := own_cap _ _ _ _ I37 (by omega)
          have hL41 : (bs37.length : Int) ≤ t + 4 := by obtain ⟨i1, i2⟩ := I37; rcases i2 with ⟨g1, g2, g3⟩ | ⟨g1, g2⟩ <;> omega
          have O941 : Enc Z T37.heap a b kk lo37 ra he37 on37 bs37 := ⟨xE38, xL38, xR38, xH38, xO38, xB38, xN38, xV38, xU38⟩
          refine fin_loop hw C a b kk lo37 ra he37 on37 bs37 (4 : Int32) (.val (.long (256 : Int64))) (.second) (.val (.long ((((lo + (256 : Int64)) - (1 : Int64)) / (256 : Int64)) * (256 : Int64)))) (.second) O941 (by omega) bs37.length _ (Nat.le_refl _) A40 ?_
          intro T41 k41 hk41 _ _ A41
          refine ow_aloadN C A41 d10_107 rfl rfl rfl ?_
          refine ow_getF C A41 tw_15 Via.refl xB38 d10_108 rfl ?_
          intro T42 A43
          refine ow_iloadN C A43 d10_111 rfl rfl ?_
          have hk32 : k41 < 32 := by omega
          have ib := own_inb k41 hk32
          have cl := own_cl k41 (by omega)
          have mn := own_mn k41 hk32
          refine ow_callS C A43 (argsL := [(.ref b), (.int (Int32.ofNat k41))]) (rm_copy l Z a0 hw b kk (32 : Int32) (Int32.ofNat k41) k41 (bs37.map Value.int) T37.heap xV38 (own_lt32c _ hk32) ib.1 (by rw [cl]; omega) (by rw [mn]; exact ib.1) (by rw [mn]; exact cl) (by rw [mn, cl]; show 0 + k41 ≤ 32; omega) (by rw [mn, cl]; show 0 + k41 ≤ k41; omega) []) tw_65 tw_66 tw_67 tw_68 (by decide) all0 (by decide) (by decide) (ck' := 1) (sk' := 32) rfl rfl (by decide) (by decide) rfl (lenOf pd_3 rfl) (S := []) rfl (W := 0) (Nat.le_of_eq rfl) d10_112 rfl ?_
          intro T44 v44 K44 hQ44 A44
          obtain ⟨rr44, kr44, rfl, gr44, yR44⟩ := hQ44
          show OwnWP _ _ _ _ _ _ _ _ _ T44 (mkF m 115 #[.val (.ref a), .val (.int (4 : Int32)), .val (.int (Int32.ofNat k41)), .val (.long (256 : Int64)), .second, .val (.long ((((lo + (256 : Int64)) - (1 : Int64)) / (256 : Int64)) * (256 : Int64))), .second] [(.ref rr44)])
          refine ow_areturn C A44 (t := (.array .byte)) rfl rfl rfl d10_115 (by decide) (by decide) ?_
          exact ⟨rr44, kr44, _, _, rfl, yR44, by rw [own_ofn _ (by omega)]; omega, by rw [own_ofn _ (by omega)]; omega⟩
        · skip
          refine ow_aloadN C A27 d10_47 rfl rfl rfl ?_
          refine ow_lload C A27 d10_48 rfl rfl ?_
          refine ow_putF C A27 tw_39 Via.refl xL1 xE1 tw_40 tw_1 (ty := .long) (by decide) rfl rfl (Or.inl (List.mem_of_getElem? (i := 0) rfl)) d10_50 rfl ?_
          intro T45 h47 W48 A46
          have f49 := xL1.same W48
          refine ow_iloadN C A46 d10_53 rfl rfl ?_
          refine ow_istoreN C A46 d10_54 (Ls' := #[.val (.ref a), .val (.int (3 : Int32)), .val (.int (3 : Int32)), .val (.long (256 : Int64)), .second, .val (.long ((((lo + (256 : Int64)) - (1 : Int64)) / (256 : Int64)) * (256 : Int64))), .second]) rfl rfl ?_
          refine ow_goto C A46 d10_55 (by decide) (pc' := 64) (by decide) ?_
          refine ow_iconst C A46 d10_64 (v := 0) rfl rfl ?_
          refine ow_istoreN C A46 d10_65 (Ls' := #[.val (.ref a), .val (.int (3 : Int32)), .val (.int (0 : Int32)), .val (.long (256 : Int64)), .second, .val (.long ((((lo + (256 : Int64)) - (1 : Int64)) / (256 : Int64)) * (256 : Int64))), .second]) rfl rfl ?_
          refine ow_iloadN C A46 d10_66 rfl rfl ?_
          refine ow_iloadN C A46 d10_67 rfl rfl ?_
          refine ow_icmp_gt C A46 d10_68 (by decide) (pcY := 81) (by decide) (pcN := 71) rfl (fun zq => absurd zq (by decide)) (fun _ => ?_)
          refine ow_aloadN C A46 d10_71 rfl rfl rfl ?_
          have f50 := (xE1.wr W48)
          have f51 := (xR1.other W48 (Or.inr (sn_25 hw)))
          have f52 := (xH1.other W48 (Or.inr (sn_26 hw)))
          have f53 := (xO1.other W48 (Or.inr (sn_27 hw)))
          have f54 := (xB1.other W48 (Or.inr (sn_28 hw)))
          have f55 := (xN1.other W48 (Or.inr (sn_29 hw)))
          have f56 := (xV1.other W48 (Ne.symm xU1))
          refine ow_callP C A46 (argsL := []) f50 (rm_shT l Z a0 hw a b kk ((((lo + (256 : Int64)) - (1 : Int64)) / (256 : Int64)) * (256 : Int64)) ra he on bs t h47 ⟨f50, f49, f51, f52, f53, f54, f55, f56, xU1⟩ hI (by omega) []) tw_43 tw_45 tw_1 tw_44 tw_2 tw_46 (by decide) (allS (Or.inl (List.mem_of_getElem? (i := 0) rfl)) (allS (Or.inl (List.mem_of_getElem? (i := 1) rfl)) all0)) (by decide) (by decide) (ck' := 0) (sk' := 0) rfl rfl (by decide) (by decide) rfl (lenOf pd_2 rfl) (S := []) rfl (W := 0) (Nat.le_of_eq rfl) d10_72 rfl ?_
          intro T57 v57 K57 hQ57 A57
          obtain ⟨rfl, lo57, he57, on57, bs57, O57, I57⟩ := hQ57
          show OwnWP _ _ _ _ _ _ _ _ _ T57 (mkF m 75 #[.val (.ref a), .val (.int (3 : Int32)), .val (.int (0 : Int32)), .val (.long (256 : Int64)), .second, .val (.long ((((lo + (256 : Int64)) - (1 : Int64)) / (256 : Int64)) * (256 : Int64))), .second] [])
          obtain ⟨xE58, xL58, xR58, xH58, xO58, xB58, xN58, xV58, xU58⟩ := O57
          refine ow_iinc C A57 d10_75 rfl (Ls' := #[.val (.ref a), .val (.int (3 : Int32)), .val (.int (1 : Int32)), .val (.long (256 : Int64)), .second, .val (.long ((((lo + (256 : Int64)) - (1 : Int64)) / (256 : Int64)) * (256 : Int64))), .second]) rfl rfl ?_
          refine ow_goto C A57 d10_78 (by decide) (pc' := 66) (by decide) ?_
          refine ow_iloadN C A57 d10_66 rfl rfl ?_
          refine ow_iloadN C A57 d10_67 rfl rfl ?_
          refine ow_icmp_gt C A57 d10_68 (by decide) (pcY := 81) (by decide) (pcN := 71) rfl (fun zq => absurd zq (by decide)) (fun _ => ?_)
          refine ow_aloadN C A57 d10_71 rfl rfl rfl ?_
          refine ow_callP C A57 (argsL := []) xE58 (rm_shT l Z a0 hw a b kk lo57 ra he57 on57 bs57 (t + 1) T57.heap ⟨xE58, xL58, xR58, xH58, xO58, xB58, xN58, xV58, xU58⟩ I57 (by omega) []) tw_43 tw_45 tw_1 tw_44 tw_2 tw_46 (by decide) (allS (Or.inl (List.mem_of_getElem? (i := 0) rfl)) (allS (Or.inl (List.mem_of_getElem? (i := 1) rfl)) all0)) (by decide) (by decide) (ck' := 0) (sk' := 0) rfl rfl (by decide) (by decide) rfl (lenOf pd_2 rfl) (S := []) rfl (W := 0) (Nat.le_of_eq rfl) d10_72 rfl ?_
          intro T59 v59 K59 hQ59 A59
          obtain ⟨rfl, lo59, he59, on59, bs59, O59, I59⟩ := hQ59
          show OwnWP _ _ _ _ _ _ _ _ _ T59 (mkF m 75 #[.val (.ref a), .val (.int (3 : Int32)), .val (.int (1 : Int32)), .val (.long (256 : Int64)), .second, .val (.long ((((lo + (256 : Int64)) - (1 : Int64)) / (256 : Int64)) * (256 : Int64))), .second] [])
          obtain ⟨xE60, xL60, xR60, xH60, xO60, xB60, xN60, xV60, xU60⟩ := O59
          refine ow_iinc C A59 d10_75 rfl (Ls' := #[.val (.ref a), .val (.int (3 : Int32)), .val (.int (2 : Int32)), .val (.long (256 : Int64)), .second, .val (.long ((((lo + (256 : Int64)) - (1 : Int64)) / (256 : Int64)) * (256 : Int64))), .second]) rfl rfl ?_
          refine ow_goto C A59 d10_78 (by decide) (pc' := 66) (by decide) ?_
          refine ow_iloadN C A59 d10_66 rfl rfl ?_
          refine ow_iloadN C A59 d10_67 rfl rfl ?_
          refine ow_icmp_gt C A59 d10_68 (by decide) (pcY := 81) (by decide) (pcN := 71) rfl (fun zq => absurd zq (by decide)) (fun _ => ?_)
          refine ow_aloadN C A59 d10_71 rfl rfl rfl ?_
          refine ow_callP C A59 (argsL := []) xE60 (rm_shT l Z a0 hw a b kk lo59 ra he59 on59 bs59 ((t + 1) + 1) T59.heap ⟨xE60, xL60, xR60, xH60, xO60, xB60, xN60, xV60, xU60⟩ I59 (by omega) []) tw_43 tw_45 tw_1 tw_44 tw_2 tw_46 (by decide) (allS (Or.inl (List.mem_of_getElem? (i := 0) rfl)) (allS (Or.inl (List.mem_of_getElem? (i := 1) rfl)) all0)) (by decide) (by decide) (ck' := 0) (sk' := 0) rfl rfl (by decide) (by decide) rfl (lenOf pd_2 rfl) (S := []) rfl (W := 0) (Nat.le_of_eq rfl) d10_72 rfl ?_
          intro T61 v61 K61 hQ61 A61
          obtain ⟨rfl, lo61, he61, on61, bs61, O61, I61⟩ := hQ61
          show OwnWP _ _ _ _ _ _ _ _ _ T61 (mkF m 75 #[.val (.ref a), .val (.int (3 : Int32)), .val (.int (2 : Int32)), .val (.long (256 : Int64)), .second, .val (.long ((((lo + (256 : Int64)) - (1 : Int64)) / (256 : Int64)) * (256 : Int64))), .second] [])
          obtain ⟨xE62, xL62, xR62, xH62, xO62, xB62, xN62, xV62, xU62⟩ := O61
          refine ow_iinc C A61 d10_75 rfl (Ls' := #[.val (.ref a), .val (.int (3 : Int32)), .val (.int (3 : Int32)), .val (.long (256 : Int64)), .second, .val (.long ((((lo + (256 : Int64)) - (1 : Int64)) / (256 : Int64)) * (256 : Int64))), .second]) rfl rfl ?_
          refine ow_goto C A61 d10_78 (by decide) (pc' := 66) (by decide) ?_
          refine ow_iloadN C A61 d10_66 rfl rfl ?_
          refine ow_iloadN C A61 d10_67 rfl rfl ?_
          refine ow_icmp_gt C A61 d10_68 (by decide) (pcY := 81) (by decide) (pcN := 71) rfl (fun zq => absurd zq (by decide)) (fun _ => ?_)
          refine ow_aloadN C A61 d10_71 rfl rfl rfl ?_
          refine ow_callP C A61 (argsL := []) xE62 (rm_shT l Z a0 hw a b kk lo61 ra he61 on61 bs61 (((t + 1) + 1) + 1) T61.heap ⟨xE62, xL62, xR62, xH62, xO62, xB62, xN62, xV62, xU62⟩ I61 (by omega) []) tw_43 tw_45 tw_1 tw_44 tw_2 tw_46 (by decide) (allS (Or.inl (List.mem_of_getElem? (i := 0) rfl)) (allS (Or.inl (List.mem_of_getElem? (i := 1) rfl)) all0)) (by decide) (by decide) (ck' := 0) (sk' := 0) rfl rfl (by decide) (by decide) rfl (lenOf pd_2 rfl) (S := []) rfl (W := 0) (Nat.le_of_eq rfl) d10_72 rfl ?_
          intro T63 v63 K63 hQ63 A63
          obtain ⟨rfl, lo63, he63, on63, bs63, O63, I63⟩ := hQ63
          show OwnWP _ _ _ _ _ _ _ _ _ T63 (mkF m 75 #[.val (.ref a), .val (.int (3 : Int32)), .val (.int (3 : Int32)), .val (.long (256 : Int64)), .second, .val (.long ((((lo + (256 : Int64)) - (1 : Int64)) / (256 : Int64)) * (256 : Int64))), .second] [])
          obtain ⟨xE64, xL64, xR64, xH64, xO64, xB64, xN64, xV64, xU64⟩ := O63
          refine ow_iinc C A63 d10_75 rfl (Ls' := #[.val (.ref a), .val (.int (3 : Int32)), .val (.int (4 : Int32)), .val (.long (256 : Int64)), .second, .val (.long ((((lo + (256 : Int64)) - (1 : Int64)) / (256 : Int64)) * (256 : Int64))), .second]) rfl rfl ?_
          refine ow_goto C A63 d10_78 (by decide) (pc' := 66) (by decide) ?_
          refine ow_iloadN C A63 d10_66 rfl rfl ?_
          refine ow_iloadN C A63 d10_67 rfl rfl ?_
          refine ow_icmp_gt C A63 d10_68 (by decide) (pcY := 81) (by decide) (pcN := 71) rfl (fun _ => ?_) (fun zq => absurd (by decide) zq)
          refine ow_aloadN C A63 d10_81 rfl rfl rfl ?_
          refine ow_getF C A63 tw_24 Via.refl xN64 d10_82 rfl ?_
          intro T65 A66
          refine ow_istoreN C A66 d10_85 (Ls' := #[.val (.ref a), .val (.int (3 : Int32)), .val (.int (Int32.ofNat (bs63).length)), .val (.long (256 : Int64)), .second, .val (.long ((((lo + (256 : Int64)) - (1 : Int64)) / (256 : Int64)) * (256 : Int64))), .second]) rfl rfl ?_
          have hc67 := own_cap _ _ _ _ I63 (by omega)
          have hL67 : (bs63.length : Int) ≤ t + 4 := by obtain ⟨i1, i2⟩ := I63; rcases i2 with ⟨g1, g2, g3⟩ | ⟨g1, g2⟩ <;> omega
          have O967 : Enc Z T63.heap a b kk lo63 ra he63 on63 bs63 := ⟨xE64, xL64, xR64, xH64, xO64, xB64, xN64, xV64, xU64⟩
          refine fin_loop hw C a b kk lo63 ra he63 on63 bs63 (3 : Int32) (.val (.long (256 : Int64))) (.second) (.val (.long ((((lo + (256 : Int64)) - (1 : Int64)) / (256 : Int64)) * (256 : Int64)))) (.second) O967 (by omega) bs63.length _ (Nat.le_refl _) A66 ?_
          intro T67 k67 hk67 _ _ A67
          refine ow_aloadN C A67 d10_107 rfl rfl rfl ?_
          refine ow_getF C A67 tw_15 Via.refl xB64 d10_108 rfl ?_
          intro T68 A69
          refine ow_iloadN C A69 d10_111 rfl rfl ?_
          have hk32 : k67 < 32 := by omega
          have ib := own_inb k67 hk32
          have cl := own_cl k67 (by omega)
          have mn := own_mn k67 hk32
          refine ow_callS C A69 (argsL := [(.ref b), (.int (Int32.ofNat k67))]) (rm_copy l Z a0 hw b kk (32 : Int32) (Int32.ofNat k67) k67 (bs63.map Value.int) T63.heap xV64 (own_lt32c _ hk32) ib.1 (by rw [cl]; omega) (by rw [mn]; exact ib.1) (by rw [mn]; exact cl) (by rw [mn, cl]; show 0 + k67 ≤ 32; omega) (by rw [mn, cl]; show 0 + k67 ≤ k67; omega) []) tw_65 tw_66 tw_67 tw_68 (by decide) all0 (by decide) (by decide) (ck' := 1) (sk' := 32) rfl rfl (by decide) (by decide) rfl (lenOf pd_3 rfl) (S := []) rfl (W := 0) (Nat.le_of_eq rfl) d10_112 rfl ?_
          intro T70 v70 K70 hQ70 A70
          obtain ⟨rr70, kr70, rfl, gr70, yR70⟩ := hQ70
          show OwnWP _ _ _ _ _ _ _ _ _ T70 (mkF m 115 #[.val (.ref a), .val (.int (3 : Int32)), .val (.int (Int32.ofNat k67)), .val (.long (256 : Int64)), .second, .val (.long ((((lo + (256 : Int64)) - (1 : Int64)) / (256 : Int64)) * (256 : Int64))), .second] [(.ref rr70)])
          refine ow_areturn C A70 (t := (.array .byte)) rfl rfl rfl d10_115 (by decide) (by decide) ?_
          exact ⟨rr70, kr70, _, _, rfl, yR70, by rw [own_ofn _ (by omega)]; omega, by rw [own_ofn _ (by omega)]; omega⟩
      · skip
        refine ow_aloadN C A20 d10_47 rfl rfl rfl ?_
        refine ow_lload C A20 d10_48 rfl rfl ?_
        refine ow_putF C A20 tw_39 Via.refl xL1 xE1 tw_40 tw_1 (ty := .long) (by decide) rfl rfl (Or.inl (List.mem_of_getElem? (i := 0) rfl)) d10_50 rfl ?_
        intro T71 h73 W74 A72
        have f75 := xL1.same W74
        refine ow_iloadN C A72 d10_53 rfl rfl ?_
        refine ow_istoreN C A72 d10_54 (Ls' := #[.val (.ref a), .val (.int (2 : Int32)), .val (.int (2 : Int32)), .val (.long (65536 : Int64)), .second, .val (.long ((((lo + (65536 : Int64)) - (1 : Int64)) / (65536 : Int64)) * (65536 : Int64))), .second]) rfl rfl ?_
        refine ow_goto C A72 d10_55 (by decide) (pc' := 64) (by decide) ?_
        refine ow_iconst C A72 d10_64 (v := 0) rfl rfl ?_
        refine ow_istoreN C A72 d10_65 (Ls' := #[.val (.ref a), .val (.int (2 : Int32)), .val (.int (0 : Int32)), .val (.long (65536 : Int64)), .second, .val (.long ((((lo + (65536 : Int64)) - (1 : Int64)) / (65536 : Int64)) * (65536 : Int64))), .second]) rfl rfl ?_
        refine ow_iloadN C A72 d10_66 rfl rfl ?_
        refine ow_iloadN C A72 d10_67 rfl rfl ?_
        refine ow_icmp_gt C A72 d10_68 (by decide) (pcY := 81) (by decide) (pcN := 71) rfl (fun zq => absurd zq (by decide)) (fun _ => ?_)
        refine ow_aloadN C A72 d10_71 rfl rfl rfl ?_
        have f76 := (xE1.wr W74)
        have f77 := (xR1.other W74 (Or.inr (sn_25 hw)))
        have f78 := (xH1.other W74 (Or.inr (sn_26 hw)))
        have f79 := (xO1.other W74 (Or.inr (sn_27 hw)))
        have f80 := (xB1.other W74 (Or.inr (sn_28 hw)))
        have f81 := (xN1.other W74 (Or.inr (sn_29 hw)))
        have f82 := (xV1.other W74 (Ne.symm xU1))
        refine ow_callP C A72 (argsL := []) f76 (rm_shT l Z a0 hw a b kk ((((lo + (65536 : Int64)) - (1 : Int64)) / (65536 : Int64)) * (65536 : Int64)) ra he on bs t h73 ⟨f76, f75, f77, f78, f79, f80, f81, f82, xU1⟩ hI (by omega) []) tw_43 tw_45 tw_1 tw_44 tw_2 tw_46 (by decide) (allS (Or.inl (List.mem_of_getElem? (i := 0) rfl)) (allS (Or.inl (List.mem_of_getElem? (i := 1) rfl)) all0)) (by decide) (by decide) (ck' := 0) (sk' := 0) rfl rfl (by decide) (by decide) rfl (lenOf pd_2 rfl) (S := []) rfl (W := 0) (Nat.le_of_eq rfl) d10_72 rfl ?_
        intro T83 v83 K83 hQ83 A83
        obtain ⟨rfl, lo83, he83, on83, bs83, O83, I83⟩ := hQ83
        show OwnWP _ _ _ _ _ _ _ _ _ T83 (mkF m 75 #[.val (.ref a), .val (.int (2 : Int32)), .val (.int (0 : Int32)), .val (.long (65536 : Int64)), .second, .val (.long ((((lo + (65536 : Int64)) - (1 : Int64)) / (65536 : Int64)) * (65536 : Int64))), .second] [])
        obtain ⟨xE84, xL84, xR84, xH84, xO84, xB84, xN84, xV84, xU84⟩ := O83
        refine ow_iinc C A83 d10_75 rfl (Ls' := #[.val (.ref a), .val (.int (2 : Int32)), .val (.int (1 : Int32)), .val (.long (65536 : Int64)), .second, .val (.long ((((lo + (65536 : Int64)) - (1 : Int64)) / (65536 : Int64)) * (65536 : Int64))), .second]) rfl rfl ?_
        refine ow_goto C A83 d10_78 (by decide) (pc' := 66) (by decide) ?_
        refine ow_iloadN C A83 d10_66 rfl rfl ?_
        refine ow_iloadN C A83 d10_67 rfl rfl ?_
        refine ow_icmp_gt C A83 d10_68 (by decide) (pcY := 81) (by decide) (pcN := 71) rfl (fun zq => absurd zq (by decide)) (fun _ => ?_)
        refine ow_aloadN C A83 d10_71 rfl rfl rfl ?_
        refine ow_callP C A83 (argsL := []) xE84 (rm_shT l Z a0 hw a b kk lo83 ra he83 on83 bs83 (t + 1) T83.heap ⟨xE84, xL84, xR84, xH84, xO84, xB84, xN84, xV84, xU84⟩ I83 (by omega) []) tw_43 tw_45 tw_1 tw_44 tw_2 tw_46 (by decide) (allS (Or.inl (List.mem_of_getElem? (i := 0) rfl)) (allS (Or.inl (List.mem_of_getElem? (i := 1) rfl)) all0)) (by decide) (by decide) (ck' := 0) (sk' := 0) rfl rfl (by decide) (by decide) rfl (lenOf pd_2 rfl) (S := []) rfl (W := 0) (Nat.le_of_eq rfl) d10_72 rfl ?_
        intro T85 v85 K85 hQ85 A85
        obtain ⟨rfl, lo85, he85, on85, bs85, O85, I85⟩ := hQ85
        show OwnWP _ _ _ _ _ _ _ _ _ T85 (mkF m 75 #[.val (.ref a), .val (.int (2 : Int32)), .val (.int (1 : Int32)), .val (.long (65536 : Int64)), .second, .val (.long ((((lo + (65536 : Int64)) - (1 : Int64)) / (65536 : Int64)) * (65536 : Int64))), .second] [])
        obtain ⟨xE86, xL86, xR86, xH86, xO86, xB86, xN86, xV86, xU86⟩ := O85
        refine ow_iinc C A85 d10_75 rfl (Ls' := #[.val (.ref a), .val (.int (2 : Int32)), .val (.int (2 : Int32)), .val (.long (65536 : Int64)), .second, .val (.long ((((lo + (65536 : Int64)) - (1 : Int64)) / (65536 : Int64)) * (65536 : Int64))), .second]) rfl rfl ?_
        refine ow_goto C A85 d10_78 (by decide) (pc' := 66) (by decide) ?_
        refine ow_iloadN C A85 d10_66 rfl rfl ?_
        refine ow_iloadN C A85 d10_67 rfl rfl ?_
        refine ow_icmp_gt C A85 d10_68 (by decide) (pcY := 81) (by decide) (pcN := 71) rfl (fun zq => absurd zq (by decide)) (fun _ => ?_)
        refine ow_aloadN C A85 d10_71 rfl rfl rfl ?_
        refine ow_callP C A85 (argsL := []) xE86 (rm_shT l Z a0 hw a b kk lo85 ra he85 on85 bs85 ((t + 1) + 1) T85.heap ⟨xE86, xL86, xR86, xH86, xO86, xB86, xN86, xV86, xU86⟩ I85 (by omega) []) tw_43 tw_45 tw_1 tw_44 tw_2 tw_46 (by decide) (allS (Or.inl (List.mem_of_getElem? (i := 0) rfl)) (allS (Or.inl (List.mem_of_getElem? (i := 1) rfl)) all0)) (by decide) (by decide) (ck' := 0) (sk' := 0) rfl rfl (by decide) (by decide) rfl (lenOf pd_2 rfl) (S := []) rfl (W := 0) (Nat.le_of_eq rfl) d10_72 rfl ?_
        intro T87 v87 K87 hQ87 A87
        obtain ⟨rfl, lo87, he87, on87, bs87, O87, I87⟩ := hQ87
        show OwnWP _ _ _ _ _ _ _ _ _ T87 (mkF m 75 #[.val (.ref a), .val (.int (2 : Int32)), .val (.int (2 : Int32)), .val (.long (65536 : Int64)), .second, .val (.long ((((lo + (65536 : Int64)) - (1 : Int64)) / (65536 : Int64)) * (65536 : Int64))), .second] [])
        obtain ⟨xE88, xL88, xR88, xH88, xO88, xB88, xN88, xV88, xU88⟩ := O87
        refine ow_iinc C A87 d10_75 rfl (Ls' := #[.val (.ref a), .val (.int (2 : Int32)), .val (.int (3 : Int32)), .val (.long (65536 : Int64)), .second, .val (.long ((((lo + (65536 : Int64)) - (1 : Int64)) / (65536 : Int64)) * (65536 : Int64))), .second]) rfl rfl ?_
        refine ow_goto C A87 d10_78 (by decide) (pc' := 66) (by decide) ?_
        refine ow_iloadN C A87 d10_66 rfl rfl ?_
        refine ow_iloadN C A87 d10_67 rfl rfl ?_
        refine ow_icmp_gt C A87 d10_68 (by decide) (pcY := 81) (by decide) (pcN := 71) rfl (fun _ => ?_) (fun zq => absurd (by decide) zq)
        refine ow_aloadN C A87 d10_81 rfl rfl rfl ?_
        refine ow_getF C A87 tw_24 Via.refl xN88 d10_82 rfl ?_
        intro T89 A90
        refine ow_istoreN C A90 d10_85 (Ls' := #[.val (.ref a), .val (.int (2 : Int32)), .val (.int (Int32.ofNat (bs87).length)), .val (.long (65536 : Int64)), .second, .val (.long ((((lo + (65536 : Int64)) - (1 : Int64)) / (65536 : Int64)) * (65536 : Int64))), .second]) rfl rfl ?_
        have hc91 := own_cap _ _ _ _ I87 (by omega)
        have hL91 : (bs87.length : Int) ≤ t + 4 := by obtain ⟨i1, i2⟩ := I87; rcases i2 with ⟨g1, g2, g3⟩ | ⟨g1, g2⟩ <;> omega
        have O991 : Enc Z T87.heap a b kk lo87 ra he87 on87 bs87 := ⟨xE88, xL88, xR88, xH88, xO88, xB88, xN88, xV88, xU88⟩
        refine fin_loop hw C a b kk lo87 ra he87 on87 bs87 (2 : Int32) (.val (.long (65536 : Int64))) (.second) (.val (.long ((((lo + (65536 : Int64)) - (1 : Int64)) / (65536 : Int64)) * (65536 : Int64)))) (.second) O991 (by omega) bs87.length _ (Nat.le_refl _) A90 ?_
        intro T91 k91 hk91 _ _ A91
        refine ow_aloadN C A91 d10_107 rfl rfl rfl ?_
        refine ow_getF C A91 tw_15 Via.refl xB88 d10_108 rfl ?_
        intro T92 A93
        refine ow_iloadN C A93 d10_111 rfl rfl ?_
        have hk32 : k91 < 32 := by omega
        have ib := own_inb k91 hk32
        have cl := own_cl k91 (by omega)
        have mn := own_mn k91 hk32
        refine ow_callS C A93 (argsL := [(.ref b), (.int (Int32.ofNat k91))]) (rm_copy l Z a0 hw b kk (32 : Int32) (Int32.ofNat k91) k91 (bs87.map Value.int) T87.heap xV88 (own_lt32c _ hk32) ib.1 (by rw [cl]; omega) (by rw [mn]; exact ib.1) (by rw [mn]; exact cl) (by rw [mn, cl]; show 0 + k91 ≤ 32; omega) (by rw [mn, cl]; show 0 + k91 ≤ k91; omega) []) tw_65 tw_66 tw_67 tw_68 (by decide) all0 (by decide) (by decide) (ck' := 1) (sk' := 32) rfl rfl (by decide) (by decide) rfl (lenOf pd_3 rfl) (S := []) rfl (W := 0) (Nat.le_of_eq rfl) d10_112 rfl ?_
        intro T94 v94 K94 hQ94 A94
        obtain ⟨rr94, kr94, rfl, gr94, yR94⟩ := hQ94
        show OwnWP _ _ _ _ _ _ _ _ _ T94 (mkF m 115 #[.val (.ref a), .val (.int (2 : Int32)), .val (.int (Int32.ofNat k91)), .val (.long (65536 : Int64)), .second, .val (.long ((((lo + (65536 : Int64)) - (1 : Int64)) / (65536 : Int64)) * (65536 : Int64))), .second] [(.ref rr94)])
        refine ow_areturn C A94 (t := (.array .byte)) rfl rfl rfl d10_115 (by decide) (by decide) ?_
        exact ⟨rr94, kr94, _, _, rfl, yR94, by rw [own_ofn _ (by omega)]; omega, by rw [own_ofn _ (by omega)]; omega⟩
    · skip
      refine ow_aloadN C A13 d10_47 rfl rfl rfl ?_
      refine ow_lload C A13 d10_48 rfl rfl ?_
      refine ow_putF C A13 tw_39 Via.refl xL1 xE1 tw_40 tw_1 (ty := .long) (by decide) rfl rfl (Or.inl (List.mem_of_getElem? (i := 0) rfl)) d10_50 rfl ?_
      intro T95 h97 W98 A96
      have f99 := xL1.same W98
      refine ow_iloadN C A96 d10_53 rfl rfl ?_
      refine ow_istoreN C A96 d10_54 (Ls' := #[.val (.ref a), .val (.int (1 : Int32)), .val (.int (1 : Int32)), .val (.long (16777216 : Int64)), .second, .val (.long ((((lo + (16777216 : Int64)) - (1 : Int64)) / (16777216 : Int64)) * (16777216 : Int64))), .second]) rfl rfl ?_
      refine ow_goto C A96 d10_55 (by decide) (pc' := 64) (by decide) ?_
      refine ow_iconst C A96 d10_64 (v := 0) rfl rfl ?_
      refine ow_istoreN C A96 d10_65 (Ls' := #[.val (.ref a), .val (.int (1 : Int32)), .val (.int (0 : Int32)), .val (.long (16777216 : Int64)), .second, .val (.long ((((lo + (16777216 : Int64)) - (1 : Int64)) / (16777216 : Int64)) * (16777216 : Int64))), .second]) rfl rfl ?_
      refine ow_iloadN C A96 d10_66 rfl rfl ?_
      refine ow_iloadN C A96 d10_67 rfl rfl ?_
      refine ow_icmp_gt C A96 d10_68 (by decide) (pcY := 81) (by decide) (pcN := 71) rfl (fun zq => absurd zq (by decide)) (fun _ => ?_)
      refine ow_aloadN C A96 d10_71 rfl rfl rfl ?_
      have f100 := (xE1.wr W98)
      have f101 := (xR1.other W98 (Or.inr (sn_25 hw)))
      have f102 := (xH1.other W98 (Or.inr (sn_26 hw)))
      have f103 := (xO1.other W98 (Or.inr (sn_27 hw)))
      have f104 := (xB1.other W98 (Or.inr (sn_28 hw)))
      have f105 := (xN1.other W98 (Or.inr (sn_29 hw)))
      have f106 := (xV1.other W98 (Ne.symm xU1))
      refine ow_callP C A96 (argsL := []) f100 (rm_shT l Z a0 hw a b kk ((((lo + (16777216 : Int64)) - (1 : Int64)) / (16777216 : Int64)) * (16777216 : Int64)) ra he on bs t h97 ⟨f100, f99, f101, f102, f103, f104, f105, f106, xU1⟩ hI (by omega) []) tw_43 tw_45 tw_1 tw_44 tw_2 tw_46 (by decide) (allS (Or.inl (List.mem_of_getElem? (i := 0) rfl)) (allS (Or.inl (List.mem_of_getElem? (i := 1) rfl)) all0)) (by decide) (by decide) (ck' := 0) (sk' := 0) rfl rfl (by decide) (by decide) rfl (lenOf pd_2 rfl) (S := []) rfl (W := 0) (Nat.le_of_eq rfl) d10_72 rfl ?_
      intro T107 v107 K107 hQ107 A107
      obtain ⟨rfl, lo107, he107, on107, bs107, O107, I107⟩ := hQ107
      show OwnWP _ _ _ _ _ _ _ _ _ T107 (mkF m 75 #[.val (.ref a), .val (.int (1 : Int32)), .val (.int (0 : Int32)), .val (.long (16777216 : Int64)), .second, .val (.long ((((lo + (16777216 : Int64)) - (1 : Int64)) / (16777216 : Int64)) * (16777216 : Int64))), .second] [])
      obtain ⟨xE108, xL108, xR108, xH108, xO108, xB108, xN108, xV108, xU108⟩ := O107
      refine ow_iinc C A107 d10_75 rfl (Ls' := #[.val (.ref a), .val (.int (1 : Int32)), .val (.int (1 : Int32)), .val (.long (16777216 : Int64)), .second, .val (.long ((((lo + (16777216 : Int64)) - (1 : Int64)) / (16777216 : Int64)) * (16777216 : Int64))), .second]) rfl rfl ?_
      refine ow_goto C A107 d10_78 (by decide) (pc' := 66) (by decide) ?_
      refine ow_iloadN C A107 d10_66 rfl rfl ?_
      refine ow_iloadN C A107 d10_67 rfl rfl ?_
      refine ow_icmp_gt C A107 d10_68 (by decide) (pcY := 81) (by decide) (pcN := 71) rfl (fun zq => absurd zq (by decide)) (fun _ => ?_)
      refine ow_aloadN C A107 d10_71 rfl rfl rfl ?_
      refine ow_callP C A107 (argsL := []) xE108 (rm_shT l Z a0 hw a b kk lo107 ra he107 on107 bs107 (t + 1) T107.heap ⟨xE108, xL108, xR108, xH108, xO108, xB108, xN108, xV108, xU108⟩ I107 (by omega) []) tw_43 tw_45 tw_1 tw_44 tw_2 tw_46 (by decide) (allS (Or.inl (List.mem_of_getElem? (i := 0) rfl)) (allS (Or.inl (List.mem_of_getElem? (i := 1) rfl)) all0)) (by decide) (by decide) (ck' := 0) (sk' := 0) rfl rfl (by decide) (by decide) rfl (lenOf pd_2 rfl) (S := []) rfl (W := 0) (Nat.le_of_eq rfl) d10_72 rfl ?_
      intro T109 v109 K109 hQ109 A109
      obtain ⟨rfl, lo109, he109, on109, bs109, O109, I109⟩ := hQ109
      show OwnWP _ _ _ _ _ _ _ _ _ T109 (mkF m 75 #[.val (.ref a), .val (.int (1 : Int32)), .val (.int (1 : Int32)), .val (.long (16777216 : Int64)), .second, .val (.long ((((lo + (16777216 : Int64)) - (1 : Int64)) / (16777216 : Int64)) * (16777216 : Int64))), .second] [])
      obtain ⟨xE110, xL110, xR110, xH110, xO110, xB110, xN110, xV110, xU110⟩ := O109
      refine ow_iinc C A109 d10_75 rfl (Ls' := #[.val (.ref a), .val (.int (1 : Int32)), .val (.int (2 : Int32)), .val (.long (16777216 : Int64)), .second, .val (.long ((((lo + (16777216 : Int64)) - (1 : Int64)) / (16777216 : Int64)) * (16777216 : Int64))), .second]) rfl rfl ?_
      refine ow_goto C A109 d10_78 (by decide) (pc' := 66) (by decide) ?_
      refine ow_iloadN C A109 d10_66 rfl rfl ?_
      refine ow_iloadN C A109 d10_67 rfl rfl ?_
      refine ow_icmp_gt C A109 d10_68 (by decide) (pcY := 81) (by decide) (pcN := 71) rfl (fun _ => ?_) (fun zq => absurd (by decide) zq)
      refine ow_aloadN C A109 d10_81 rfl rfl rfl ?_
      refine ow_getF C A109 tw_24 Via.refl xN110 d10_82 rfl ?_
      intro T111 A112
      refine ow_istoreN C A112 d10_85 (Ls' := #[.val (.ref a), .val (.int (1 : Int32)), .val (.int (Int32.ofNat (bs109).length)), .val (.long (16777216 : Int64)), .second, .val (.long ((((lo + (16777216 : Int64)) - (1 : Int64)) / (16777216 : Int64)) * (16777216 : Int64))), .second]) rfl rfl ?_
      have hc113 := own_cap _ _ _ _ I109 (by omega)
      have hL113 : (bs109.length : Int) ≤ t + 4 := by obtain ⟨i1, i2⟩ := I109; rcases i2 with ⟨g1, g2, g3⟩ | ⟨g1, g2⟩ <;> omega
      have O9113 : Enc Z T109.heap a b kk lo109 ra he109 on109 bs109 := ⟨xE110, xL110, xR110, xH110, xO110, xB110, xN110, xV110, xU110⟩
      refine fin_loop hw C a b kk lo109 ra he109 on109 bs109 (1 : Int32) (.val (.long (16777216 : Int64))) (.second) (.val (.long ((((lo + (16777216 : Int64)) - (1 : Int64)) / (16777216 : Int64)) * (16777216 : Int64)))) (.second) O9113 (by omega) bs109.length _ (Nat.le_refl _) A112 ?_
      intro T113 k113 hk113 _ _ A113
      refine ow_aloadN C A113 d10_107 rfl rfl rfl ?_
      refine ow_getF C A113 tw_15 Via.refl xB110 d10_108 rfl ?_
      intro T114 A115
      refine ow_iloadN C A115 d10_111 rfl rfl ?_
      have hk32 : k113 < 32 := by omega
      have ib := own_inb k113 hk32
      have cl := own_cl k113 (by omega)
      have mn := own_mn k113 hk32
      refine ow_callS C A115 (argsL := [(.ref b), (.int (Int32.ofNat k113))]) (rm_copy l Z a0 hw b kk (32 : Int32) (Int32.ofNat k113) k113 (bs109.map Value.int) T109.heap xV110 (own_lt32c _ hk32) ib.1 (by rw [cl]; omega) (by rw [mn]; exact ib.1) (by rw [mn]; exact cl) (by rw [mn, cl]; show 0 + k113 ≤ 32; omega) (by rw [mn, cl]; show 0 + k113 ≤ k113; omega) []) tw_65 tw_66 tw_67 tw_68 (by decide) all0 (by decide) (by decide) (ck' := 1) (sk' := 32) rfl rfl (by decide) (by decide) rfl (lenOf pd_3 rfl) (S := []) rfl (W := 0) (Nat.le_of_eq rfl) d10_112 rfl ?_
      intro T116 v116 K116 hQ116 A116
      obtain ⟨rr116, kr116, rfl, gr116, yR116⟩ := hQ116
      show OwnWP _ _ _ _ _ _ _ _ _ T116 (mkF m 115 #[.val (.ref a), .val (.int (1 : Int32)), .val (.int (Int32.ofNat k113)), .val (.long (16777216 : Int64)), .second, .val (.long ((((lo + (16777216 : Int64)) - (1 : Int64)) / (16777216 : Int64)) * (16777216 : Int64))), .second] [(.ref rr116)])
      refine ow_areturn C A116 (t := (.array .byte)) rfl rfl rfl d10_115 (by decide) (by decide) ?_
      exact ⟨rr116, kr116, _, _, rfl, yR116, by rw [own_ofn _ (by omega)]; omega, by rw [own_ofn _ (by omega)]; omega⟩
  · skip
    refine ow_aloadN C A7 d10_47 rfl rfl rfl ?_
    refine ow_lload C A7 d10_48 rfl rfl ?_
    refine ow_putF C A7 tw_39 Via.refl xL1 xE1 tw_40 tw_1 (ty := .long) (by decide) rfl rfl (Or.inl (List.mem_of_getElem? (i := 0) rfl)) d10_50 rfl ?_
    intro T117 h119 W120 A118
    have f121 := xL1.same W120
    refine ow_iloadN C A118 d10_53 rfl rfl ?_
    refine ow_istoreN C A118 d10_54 (Ls' := #[.val (.ref a), .val (.int (0 : Int32)), .val (.int (0 : Int32)), .val (.long (4294967296 : Int64)), .second, .val (.long ((((lo + (4294967296 : Int64)) - (1 : Int64)) / (4294967296 : Int64)) * (4294967296 : Int64))), .second]) rfl rfl ?_
    refine ow_goto C A118 d10_55 (by decide) (pc' := 64) (by decide) ?_
    refine ow_iconst C A118 d10_64 (v := 0) rfl rfl ?_
    refine ow_istoreN C A118 d10_65 (Ls' := #[.val (.ref a), .val (.int (0 : Int32)), .val (.int (0 : Int32)), .val (.long (4294967296 : Int64)), .second, .val (.long ((((lo + (4294967296 : Int64)) - (1 : Int64)) / (4294967296 : Int64)) * (4294967296 : Int64))), .second]) rfl rfl ?_
    refine ow_iloadN C A118 d10_66 rfl rfl ?_
    refine ow_iloadN C A118 d10_67 rfl rfl ?_
    refine ow_icmp_gt C A118 d10_68 (by decide) (pcY := 81) (by decide) (pcN := 71) rfl (fun zq => absurd zq (by decide)) (fun _ => ?_)
    refine ow_aloadN C A118 d10_71 rfl rfl rfl ?_
    have f122 := (xE1.wr W120)
    have f123 := (xR1.other W120 (Or.inr (sn_25 hw)))
    have f124 := (xH1.other W120 (Or.inr (sn_26 hw)))
    have f125 := (xO1.other W120 (Or.inr (sn_27 hw)))
    have f126 := (xB1.other W120 (Or.inr (sn_28 hw)))
    have f127 := (xN1.other W120 (Or.inr (sn_29 hw)))
    have f128 := (xV1.other W120 (Ne.symm xU1))
    refine ow_callP C A118 (argsL := []) f122 (rm_shT l Z a0 hw a b kk ((((lo + (4294967296 : Int64)) - (1 : Int64)) / (4294967296 : Int64)) * (4294967296 : Int64)) ra he on bs t h119 ⟨f122, f121, f123, f124, f125, f126, f127, f128, xU1⟩ hI (by omega) []) tw_43 tw_45 tw_1 tw_44 tw_2 tw_46 (by decide) (allS (Or.inl (List.mem_of_getElem? (i := 0) rfl)) (allS (Or.inl (List.mem_of_getElem? (i := 1) rfl)) all0)) (by decide) (by decide) (ck' := 0) (sk' := 0) rfl rfl (by decide) (by decide) rfl (lenOf pd_2 rfl) (S := []) rfl (W := 0) (Nat.le_of_eq rfl) d10_72 rfl ?_
    intro T129 v129 K129 hQ129 A129
    obtain ⟨rfl, lo129, he129, on129, bs129, O129, I129⟩ := hQ129
    show OwnWP _ _ _ _ _ _ _ _ _ T129 (mkF m 75 #[.val (.ref a), .val (.int (0 : Int32)), .val (.int (0 : Int32)), .val (.long (4294967296 : Int64)), .second, .val (.long ((((lo + (4294967296 : Int64)) - (1 : Int64)) / (4294967296 : Int64)) * (4294967296 : Int64))), .second] [])
    obtain ⟨xE130, xL130, xR130, xH130, xO130, xB130, xN130, xV130, xU130⟩ := O129
    refine ow_iinc C A129 d10_75 rfl (Ls' := #[.val (.ref a), .val (.int (0 : Int32)), .val (.int (1 : Int32)), .val (.long (4294967296 : Int64)), .second, .val (.long ((((lo + (4294967296 : Int64)) - (1 : Int64)) / (4294967296 : Int64)) * (4294967296 : Int64))), .second]) rfl rfl ?_
    refine ow_goto C A129 d10_78 (by decide) (pc' := 66) (by decide) ?_
    refine ow_iloadN C A129 d10_66 rfl rfl ?_
    refine ow_iloadN C A129 d10_67 rfl rfl ?_
    refine ow_icmp_gt C A129 d10_68 (by decide) (pcY := 81) (by decide) (pcN := 71) rfl (fun _ => ?_) (fun zq => absurd (by decide) zq)
    refine ow_aloadN C A129 d10_81 rfl rfl rfl ?_
    refine ow_getF C A129 tw_24 Via.refl xN130 d10_82 rfl ?_
    intro T131 A132
    refine ow_istoreN C A132 d10_85 (Ls' := #[.val (.ref a), .val (.int (0 : Int32)), .val (.int (Int32.ofNat (bs129).length)), .val (.long (4294967296 : Int64)), .second, .val (.long ((((lo + (4294967296 : Int64)) - (1 : Int64)) / (4294967296 : Int64)) * (4294967296 : Int64))), .second]) rfl rfl ?_
    have hc133 := own_cap _ _ _ _ I129 (by omega)
    have hL133 : (bs129.length : Int) ≤ t + 4 := by obtain ⟨i1, i2⟩ := I129; rcases i2 with ⟨g1, g2, g3⟩ | ⟨g1, g2⟩ <;> omega
    have O9133 : Enc Z T129.heap a b kk lo129 ra he129 on129 bs129 := ⟨xE130, xL130, xR130, xH130, xO130, xB130, xN130, xV130, xU130⟩
    refine fin_loop hw C a b kk lo129 ra he129 on129 bs129 (0 : Int32) (.val (.long (4294967296 : Int64))) (.second) (.val (.long ((((lo + (4294967296 : Int64)) - (1 : Int64)) / (4294967296 : Int64)) * (4294967296 : Int64)))) (.second) O9133 (by omega) bs129.length _ (Nat.le_refl _) A132 ?_
    intro T133 k133 hk133 _ _ A133
    refine ow_aloadN C A133 d10_107 rfl rfl rfl ?_
    refine ow_getF C A133 tw_15 Via.refl xB130 d10_108 rfl ?_
    intro T134 A135
    refine ow_iloadN C A135 d10_111 rfl rfl ?_
    have hk32 : k133 < 32 := by omega
    have ib := own_inb k133 hk32
    have cl := own_cl k133 (by omega)
    have mn := own_mn k133 hk32
    refine ow_callS C A135 (argsL := [(.ref b), (.int (Int32.ofNat k133))]) (rm_copy l Z a0 hw b kk (32 : Int32) (Int32.ofNat k133) k133 (bs129.map Value.int) T129.heap xV130 (own_lt32c _ hk32) ib.1 (by rw [cl]; omega) (by rw [mn]; exact ib.1) (by rw [mn]; exact cl) (by rw [mn, cl]; show 0 + k133 ≤ 32; omega) (by rw [mn, cl]; show 0 + k133 ≤ k133; omega) []) tw_65 tw_66 tw_67 tw_68 (by decide) all0 (by decide) (by decide) (ck' := 1) (sk' := 32) rfl rfl (by decide) (by decide) rfl (lenOf pd_3 rfl) (S := []) rfl (W := 0) (Nat.le_of_eq rfl) d10_112 rfl ?_
    intro T136 v136 K136 hQ136 A136
    obtain ⟨rr136, kr136, rfl, gr136, yR136⟩ := hQ136
    show OwnWP _ _ _ _ _ _ _ _ _ T136 (mkF m 115 #[.val (.ref a), .val (.int (0 : Int32)), .val (.int (Int32.ofNat k133)), .val (.long (4294967296 : Int64)), .second, .val (.long ((((lo + (4294967296 : Int64)) - (1 : Int64)) / (4294967296 : Int64)) * (4294967296 : Int64))), .second] [(.ref rr136)])
    refine ow_areturn C A136 (t := (.array .byte)) rfl rfl rfl d10_115 (by decide) (by decide) ?_
    exact ⟨rr136, kr136, _, _, rfl, yR136, by rw [own_ofn _ (by omega)]; omega, by rw [own_ofn _ (by omega)]; omega⟩
set_option maxRecDepth 65536 in
set_option maxHeartbeats 40000000 in
theorem rm0 (l : Launch) (Z : State) (a0 : Array Value) (hw : ∀ d ∈ tables_1, d.before a0 Z = true) (p1 p2 p3 : Int32) (h0 : Heap)  (cs : List Jvm.Cond) :
    OwnCtr l Z x code maxLocals ret room_1 #[(.int p1), (.int p2), (.int p3)] h0 [] Q0 cs := by
  refine ow_ctr pn_0 hw (Ls := #[.val (.int p1), .val (.int p2), .val (.int p3), .unset, .unset, .unset, .unset, .unset, .unset, .unset, .unset, .unset, .unset, .unset, .unset, .unset, .unset]) (fun m => by first | (simp [entryFrame, mkF, argsToLocals, Value.category, maxLocals]; done) | rfl) ?_
  intro p e s m below meth c T0 C A0
  refine ow_new C A0 tw_0 tw_1 tw_2 at_0 rfl (ck' := 1) (sk' := 6) rfl rfl (by decide) (by decide) ?_
  intro T1 h3 b4 g5 E6 X7 D8 A2
  have ows_b4 : b4 ∈ ([] : List Addr) ∨ h0.size ≤ b4 := Or.inr (Nat.le_trans (ow_le A0) (Nat.le_of_eq g5.symm))
  have f9 : Fld Z h3 b4 "com/example/phasorwire/phasorwire/RangeEncoder" "range" "J" (.long (0 : Int64)) := D8 (Or.inl (hw _ tw_11)) (ty := .long) (by decide)
  have f10 : Fld Z h3 b4 "com/example/phasorwire/phasorwire/RangeEncoder" "held" "I" (.int (0 : Int32)) := D8 (Or.inl (hw _ tw_13)) (ty := .int) (by decide)
  have f11 : Fld Z h3 b4 "com/example/phasorwire/phasorwire/RangeEncoder" "bytes" "[B" .null := D8 (Or.inl (hw _ tw_16)) (ty := (.array .byte)) (by decide)
  have f12 : Fld Z h3 b4 "com/example/phasorwire/phasorwire/RangeEncoder" "length" "I" (.int (0 : Int32)) := D8 (Or.inl (hw _ tw_25)) (ty := .int) (by decide)
  have f13 : Fld Z h3 b4 "com/example/phasorwire/phasorwire/RangeEncoder" "heldOnes" "J" (.long (0 : Int64)) := D8 (Or.inl (hw _ tw_27)) (ty := .long) (by decide)
  have f14 : Fld Z h3 b4 "com/example/phasorwire/phasorwire/RangeEncoder" "low" "J" (.long (0 : Int64)) := D8 (Or.inl (hw _ tw_40)) (ty := .long) (by decide)
  refine ow_dup C A2 at_3 rfl rfl ?_
  refine ow_callI C A2 (argsL := []) (a := b4) (rm_init l Z a0 hw b4 h3 X7 f14 f9 f10 f13 f11 f12 []) rfl tw_3 tw_4 tw_2 tw_5 (by decide) (allS ows_b4 all0) (by decide) (by decide) (ck' := 2) (sk' := 38) rfl rfl (by decide) (by decide) rfl (lenOf pd_2 rfl) (S := [(.ref b4)]) rfl (W := 1) (Nat.le_of_eq rfl) at_4 rfl ?_
  intro T15 v15 K15 hQ15 A15
  obtain ⟨rfl, bb15, kb15, O15, g15⟩ := hQ15
  show OwnWP _ _ _ _ _ _ _ _ _ T15 (mkF m 7 #[.val (.int p1), .val (.int p2), .val (.int p3), .unset, .unset, .unset, .unset, .unset, .unset, .unset, .unset, .unset, .unset, .unset, .unset, .unset, .unset] [(.ref b4)])
  obtain ⟨xE16, xL16, xR16, xH16, xO16, xB16, xN16, xV16, xU16⟩ := O15
  have I15 : Inv (-1) 0 [] 0 := ⟨by decide, Or.inl ⟨by decide, rfl, rfl⟩⟩
  have hR15 : Rok 4294967295 := by unfold Rok; decide
  have ht0 : (0 : Int) ≤ 0 ∧ (0 : Int) ≤ 0 := by omega
  refine ow_astoreN C A15 at_7 rfl (Ls' := #[.val (.int p1), .val (.int p2), .val (.int p3), .val (.ref b4), .unset, .unset, .unset, .unset, .unset, .unset, .unset, .unset, .unset, .unset, .unset, .unset, .unset]) rfl rfl ?_
  refine ow_ldc2 C A15 tw_17 at_8 rfl ?_
  refine ow_lstore C A15 at_11 (Ls' := #[.val (.int p1), .val (.int p2), .val (.int p3), .val (.ref b4), .val (.long (4294967295 : Int64)), .second, .unset, .unset, .unset, .unset, .unset, .unset, .unset, .unset, .unset, .unset, .unset]) rfl rfl ?_
  refine ow_ldc2 C A15 tw_18 at_13 rfl ?_
  refine ow_lstore C A15 at_16 (Ls' := #[.val (.int p1), .val (.int p2), .val (.int p3), .val (.ref b4), .val (.long (4294967295 : Int64)), .second, .val (.long (4 : Int64)), .second, .unset, .unset, .unset, .unset, .unset, .unset, .unset, .unset, .unset]) rfl rfl ?_
  refine ow_aloadN C A15 at_18 rfl rfl rfl ?_
  refine ow_callV C A15 (argsL := []) xE16 (rm_lb l Z a0 hw b4 bb15 kb15 (0 : Int64) (4294967295 : Int64) (-1 : Int32) (0 : Int64) ([] : List Int32) 0 T15.heap ⟨xE16, xL16, xR16, xH16, xO16, xB16, xN16, xV16, xU16⟩ I15 (by omega) []) tw_19 tw_20 (ow_nf hw tw_22) tw_22 tw_21 tw_2 tw_23 (by decide) all0 (by decide) (by decide) (ck' := 2) (sk' := 38) rfl rfl (by decide) (by decide) rfl (lenOf pd_4 rfl) (S := []) rfl (W := 0) (Nat.le_of_eq rfl) at_19 rfl ?_
  intro T17 v17 K17 hQ17 A17
  obtain ⟨ee17, xl17, rfl, hl17⟩ := hQ17
  rw [ee17] at A17 K17
  show OwnWP _ _ _ _ _ _ _ _ _ T17 (mkF m 22 #[.val (.int p1), .val (.int p2), .val (.int p3), .val (.ref b4), .val (.long (4294967295 : Int64)), .second, .val (.long (4 : Int64)), .second, .unset, .unset, .unset, .unset, .unset, .unset, .unset, .unset, .unset] [(.long xl17)])
  refine ow_ldc2 C A17 tw_18 at_22 rfl ?_
  refine ow_lcmp_ne C A17 at_25 rfl at_26 (by decide) (pcY := 33) (by decide) (pcN := 29) rfl (fun zq => absurd (own_eq64 (by show xl17.toInt = 4; omega)) zq) (fun _ => ?_)
  refine ow_iconst C A17 at_29 (v := 1) rfl rfl ?_
  refine ow_goto C A17 at_30 (by decide) (pc' := 34) (by decide) ?_
  refine ow_istore C A17 at_34 (Ls' := #[.val (.int p1), .val (.int p2), .val (.int p3), .val (.ref b4), .val (.long (4294967295 : Int64)), .second, .val (.long (4 : Int64)), .second, .val (.int (1 : Int32)), .unset, .unset, .unset, .unset, .unset, .unset, .unset, .unset]) rfl rfl ?_
  refine ow_iloadN C A17 at_36 rfl rfl ?_
  refine ow_callS C A17 (argsL := [(.int p1)]) (rm_prob l Z a0 hw p1 T15.heap []) tw_29 tw_30 tw_31 tw_32 (by decide) all0 (by decide) (by decide) (ck' := 2) (sk' := 38) rfl rfl (by decide) (by decide) rfl (lenOf pd_5 rfl) (S := []) rfl (W := 0) (Nat.le_of_eq rfl) at_37 rfl ?_
  intro T18 v18 K18 hQ18 A18
  obtain ⟨ee18, pp18, rfl, hp18⟩ := hQ18
  rw [ee18] at A18 K18
  show OwnWP _ _ _ _ _ _ _ _ _ T18 (mkF m 40 #[.val (.int p1), .val (.int p2), .val (.int p3), .val (.ref b4), .val (.long (4294967295 : Int64)), .second, .val (.long (4 : Int64)), .second, .val (.int (1 : Int32)), .unset, .unset, .unset, .unset, .unset, .unset, .unset, .unset] [(.int pp18)])
  refine ow_istore C A18 at_40 (Ls' := #[.val (.int p1), .val (.int p2), .val (.int p3), .val (.ref b4), .val (.long (4294967295 : Int64)), .second, .val (.long (4 : Int64)), .second, .val (.int (1 : Int32)), .val (.int pp18), .unset, .unset, .unset, .unset, .unset, .unset, .unset]) rfl rfl ?_
  refine ow_iloadN C A18 at_42 rfl rfl ?_
  refine ow_if_ge C A18 at_43 (by decide) (pcY := 50) (by decide) (pcN := 46) rfl (fun hc43 => ?_) (fun hc43 => ?_)
  · skip
    refine ow_iconst C A18 at_50 (v := 0) rfl rfl ?_
    refine ow_istore C A18 at_51 (Ls' := #[.val (.int p1), .val (.int p2), .val (.int p3), .val (.ref b4), .val (.long (4294967295 : Int64)), .second, .val (.long (4 : Int64)), .second, .val (.int (1 : Int32)), .val (.int pp18), .val (.int (0 : Int32)), .unset, .unset, .unset, .unset, .unset, .unset]) rfl rfl ?_
    refine ow_aloadN C A18 at_53 rfl rfl rfl ?_
    refine ow_iload C A18 at_54 rfl rfl ?_
    refine ow_iload C A18 at_56 rfl rfl ?_
    refine ow_callV C A18 (argsL := [(.int pp18), (.int (0 : Int32))]) xE16 (rm_enc0 l Z a0 hw b4 bb15 kb15 (0 : Int64) (4294967295 : Int64) (-1 : Int32) (0 : Int64) ([] : List Int32) pp18 0 T15.heap ⟨xE16, xL16, xR16, xH16, xO16, xB16, xN16, xV16, xU16⟩ I15 (by omega) hR15 hp18 []) tw_34 tw_35 (ow_nf hw tw_37) tw_37 tw_36 tw_2 tw_38 (by decide) (allS ows_b4 (allS (Or.inr (Nat.le_trans (ow_le A2) g15)) all0)) (by decide) (by decide) (ck' := 2) (sk' := 38) rfl rfl (by decide) (by decide) rfl (lenOf pd_6 rfl) (S := []) rfl (W := 0) (Nat.le_of_eq rfl) at_58 rfl ?_
    intro T19 v19 K19 hQ19 A19
    obtain ⟨rfl, lo19, ra19, he19, on19, bs19, nn19, O19, rl19, I19⟩ := hQ19
    show OwnWP _ _ _ _ _ _ _ _ _ T19 (mkF m 61 #[.val (.int p1), .val (.int p2), .val (.int p3), .val (.ref b4), .val (.long (4294967295 : Int64)), .second, .val (.long (4 : Int64)), .second, .val (.int (1 : Int32)), .val (.int pp18), .val (.int (0 : Int32)), .unset, .unset, .unset, .unset, .unset, .unset] [])
    obtain ⟨xE20, xL20, xR20, xH20, xO20, xB20, xN20, xV20, xU20⟩ := O19
    have rb19 := own_rb0 (4294967295 : Int64) pp18 hR15 hp18
    have ok19 := own_ok _ _ _ rl19 rb19
    have hR19 : Rok ra19 := ⟨ok19.1, ok19.2.1⟩
    have tl19 := ok19.2.2.1
    have tu19 := ok19.2.2.2
    refine ow_lload C A19 at_61 rfl rfl ?_
    refine ow_iload C A19 at_63 rfl rfl ?_
    refine ow_iload C A19 at_65 rfl rfl ?_
    refine ow_callS C A19 (argsL := [(.long (4294967295 : Int64)), (.int pp18), (.int (0 : Int32))]) (rm_raw0 l Z a0 hw (4294967295 : Int64) pp18 T19.heap []) tw_49 tw_50 tw_31 tw_51 (by decide) all0 (by decide) (by decide) (ck' := 2) (sk' := 38) rfl rfl (by decide) (by decide) rfl (lenOf pd_7 rfl) (S := []) rfl (W := 0) (Nat.le_of_eq rfl) at_67 rfl ?_
    intro T21 v21 K21 hQ21 A21
    obtain ⟨rfl, ee21⟩ := hQ21
    rw [ee21] at A21 K21
    show OwnWP _ _ _ _ _ _ _ _ _ T21 (mkF m 70 #[.val (.int p1), .val (.int p2), .val (.int p3), .val (.ref b4), .val (.long (4294967295 : Int64)), .second, .val (.long (4 : Int64)), .second, .val (.int (1 : Int32)), .val (.int pp18), .val (.int (0 : Int32)), .unset, .unset, .unset, .unset, .unset, .unset] [(.long (own_r0 (4294967295 : Int64) pp18))])
    refine ow_lstore C A21 at_70 (Ls' := #[.val (.int p1), .val (.int p2), .val (.int p3), .val (.ref b4), .val (.long (4294967295 : Int64)), .second, .val (.long (4 : Int64)), .second, .val (.int (1 : Int32)), .val (.int pp18), .val (.int (0 : Int32)), .val (.long (own_r0 (4294967295 : Int64) pp18)), .second, .unset, .unset, .unset, .unset]) rfl rfl ?_
    refine ow_lload C A21 at_72 rfl rfl ?_
    refine ow_callS C A21 (argsL := [(.long (own_r0 (4294967295 : Int64) pp18))]) (rm_sft l Z a0 hw (own_r0 (4294967295 : Int64) pp18) T19.heap rb19 []) tw_52 tw_53 tw_31 tw_54 (by decide) all0 (by decide) (by decide) (ck' := 2) (sk' := 38) rfl rfl (by decide) (by decide) rfl (lenOf pd_8 rfl) (S := []) rfl (W := 0) (Nat.le_of_eq rfl) at_74 rfl ?_
    intro T22 v22 K22 hQ22 A22
    obtain ⟨ee22, sx22, rfl, hs22⟩ := hQ22
    rw [ee22] at A22 K22
    show OwnWP _ _ _ _ _ _ _ _ _ T22 (mkF m 77 #[.val (.int p1), .val (.int p2), .val (.int p3), .val (.ref b4), .val (.long (4294967295 : Int64)), .second, .val (.long (4 : Int64)), .second, .val (.int (1 : Int32)), .val (.int pp18), .val (.int (0 : Int32)), .val (.long (own_r0 (4294967295 : Int64) pp18)), .second, .unset, .unset, .unset, .unset] [(.int sx22)])
    have sr22 := own_s8 (own_r0 (4294967295 : Int64) pp18) sx22 rb19 hs22
    have su22 := own_un _ _ _ _ _ rl19 sr22
    refine ow_istore C A22 at_77 (Ls' := #[.val (.int p1), .val (.int p2), .val (.int p3), .val (.ref b4), .val (.long (4294967295 : Int64)), .second, .val (.long (4 : Int64)), .second, .val (.int (1 : Int32)), .val (.int pp18), .val (.int (0 : Int32)), .val (.long (own_r0 (4294967295 : Int64) pp18)), .second, .val (.int sx22), .unset, .unset, .unset]) rfl rfl ?_
    refine ow_lload C A22 at_79 rfl rfl ?_
    refine ow_iload C A22 at_81 rfl rfl ?_
    refine ow_i2l C A22 at_83 rfl ?_
    refine ow_ladd C A22 at_84 rfl ?_
    have hex22 := own_ex (4 : Int64) sx22 0 nn19 rfl su22.2.symm ⟨by omega, by omega, by omega, by omega⟩
    obtain ⟨ex22, dex22⟩ : ∃ z, z = ((4 : Int64) + sx22.toInt64) := ⟨_, rfl⟩
    rw [← dex22] at hex22 ⊢
    refine ow_lstore C A22 at_85 (Ls' := #[.val (.int p1), .val (.int p2), .val (.int p3), .val (.ref b4), .val (.long (4294967295 : Int64)), .second, .val (.long ex22), .second, .val (.int (1 : Int32)), .val (.int pp18), .val (.int (0 : Int32)), .val (.long (own_r0 (4294967295 : Int64) pp18)), .second, .val (.int sx22), .unset, .unset, .unset]) rfl rfl ?_
    refine ow_lload C A22 at_87 rfl rfl ?_
    refine ow_bipush C A22 at_89 (v := 8) rfl rfl ?_
    refine ow_iload C A22 at_91 rfl rfl ?_
    refine ow_imul C A22 at_93 rfl ?_
    refine ow_lshl C A22 at_94 rfl ?_
    rw [show ((own_r0 (4294967295 : Int64) pp18) <<< (((8 : Int32) * sx22) &&& 63).toInt64) = ra19 from (own_eq64 su22.1).symm]
    refine ow_lstore C A22 at_95 (Ls' := #[.val (.int p1), .val (.int p2), .val (.int p3), .val (.ref b4), .val (.long ra19), .second, .val (.long ex22), .second, .val (.int (1 : Int32)), .val (.int pp18), .val (.int (0 : Int32)), .val (.long (own_r0 (4294967295 : Int64) pp18)), .second, .val (.int sx22), .unset, .unset, .unset]) rfl rfl ?_
    refine ow_iload C A22 at_97 rfl rfl ?_
    refine ow_aloadN C A22 at_99 rfl rfl rfl ?_
    refine ow_callV C A22 (argsL := []) xE20 (rm_lb l Z a0 hw b4 bb15 kb15 lo19 ra19 he19 on19 bs19 (0 + nn19) T19.heap ⟨xE20, xL20, xR20, xH20, xO20, xB20, xN20, xV20, xU20⟩ I19 (by omega) []) tw_19 tw_20 (ow_nf hw tw_22) tw_22 tw_21 tw_2 tw_23 (by decide) all0 (by decide) (by decide) (ck' := 2) (sk' := 38) rfl rfl (by decide) (by decide) rfl (lenOf pd_4 rfl) (S := [(.int (1 : Int32))]) rfl (W := 1) (Nat.le_of_eq rfl) at_100 rfl ?_
    intro T23 v23 K23 hQ23 A23
    obtain ⟨ee23, xl23, rfl, hl23⟩ := hQ23
    rw [ee23] at A23 K23
    show OwnWP _ _ _ _ _ _ _ _ _ T23 (mkF m 103 #[.val (.int p1), .val (.int p2), .val (.int p3), .val (.ref b4), .val (.long ra19), .second, .val (.long ex22), .second, .val (.int (1 : Int32)), .val (.int pp18), .val (.int (0 : Int32)), .val (.long (own_r0 (4294967295 : Int64) pp18)), .second, .val (.int sx22), .unset, .unset, .unset] [(.long xl23), (.int (1 : Int32))])
    refine ow_lload C A23 at_103 rfl rfl ?_
    refine ow_lcmp_ne C A23 at_105 rfl at_106 (by decide) (pcY := 113) (by decide) (pcN := 109) rfl (fun zq => absurd (own_eq64 (by omega)) zq) (fun _ => ?_)
    refine ow_iconst C A23 at_109 (v := 1) rfl rfl ?_
    refine ow_goto C A23 at_110 (by decide) (pc' := 114) (by decide) ?_
    refine ow_iand C A23 at_114 rfl ?_
    show OwnWP _ _ _ _ _ _ _ _ _ T23 (mkF m 115 #[.val (.int p1), .val (.int p2), .val (.int p3), .val (.ref b4), .val (.long ra19), .second, .val (.long ex22), .second, .val (.int (1 : Int32)), .val (.int pp18), .val (.int (0 : Int32)), .val (.long (own_r0 (4294967295 : Int64) pp18)), .second, .val (.int sx22), .unset, .unset, .unset] [(.int (1 : Int32))])
    refine ow_istore C A23 at_115 (Ls' := #[.val (.int p1), .val (.int p2), .val (.int p3), .val (.ref b4), .val (.long ra19), .second, .val (.long ex22), .second, .val (.int (1 : Int32)), .val (.int pp18), .val (.int (0 : Int32)), .val (.long (own_r0 (4294967295 : Int64) pp18)), .second, .val (.int sx22), .unset, .unset, .unset]) rfl rfl ?_
    refine ow_iloadN C A23 at_117 rfl rfl ?_
    refine ow_callS C A23 (argsL := [(.int p2)]) (rm_prob l Z a0 hw p2 T19.heap []) tw_29 tw_30 tw_31 tw_32 (by decide) all0 (by decide) (by decide) (ck' := 2) (sk' := 38) rfl rfl (by decide) (by decide) rfl (lenOf pd_5 rfl) (S := []) rfl (W := 0) (Nat.le_of_eq rfl) at_118 rfl ?_
    intro T24 v24 K24 hQ24 A24
    obtain ⟨ee24, pp24, rfl, hp24⟩ := hQ24
    rw [ee24] at A24 K24
    show OwnWP _ _ _ _ _ _ _ _ _ T24 (mkF m 121 #[.val (.int p1), .val (.int p2), .val (.int p3), .val (.ref b4), .val (.long ra19), .second, .val (.long ex22), .second, .val (.int (1 : Int32)), .val (.int pp18), .val (.int (0 : Int32)), .val (.long (own_r0 (4294967295 : Int64) pp18)), .second, .val (.int sx22), .unset, .unset, .unset] [(.int pp24)])
    refine ow_istore C A24 at_121 (Ls' := #[.val (.int p1), .val (.int p2), .val (.int p3), .val (.ref b4), .val (.long ra19), .second, .val (.long ex22), .second, .val (.int (1 : Int32)), .val (.int pp24), .val (.int (0 : Int32)), .val (.long (own_r0 (4294967295 : Int64) pp18)), .second, .val (.int sx22), .unset, .unset, .unset]) rfl rfl ?_
    refine ow_iloadN C A24 at_123 rfl rfl ?_
    refine ow_if_ge C A24 at_124 (by decide) (pcY := 131) (by decide) (pcN := 127) rfl (fun hc124 => ?_) (fun hc124 => ?_)
    · skip
      refine ow_iconst C A24 at_131 (v := 0) rfl rfl ?_
      refine ow_istore C A24 at_132 (Ls' := #[.val (.int p1), .val (.int p2), .val (.int p3), .val (.ref b4), .val (.long ra19), .second, .val (.long ex22), .second, .val (.int (1 : Int32)), .val (.int pp24), .val (.int (0 : Int32)), .val (.long (own_r0 (4294967295 : Int64) pp18)), .second, .val (.int sx22), .unset, .unset, .unset]) rfl rfl ?_
      refine ow_aloadN C A24 at_134 rfl rfl rfl ?_
      refine ow_iload C A24 at_135 rfl rfl ?_
      refine ow_iload C A24 at_137 rfl rfl ?_
      refine ow_callV C A24 (argsL := [(.int pp24), (.int (0 : Int32))]) xE20 (rm_enc0 l Z a0 hw b4 bb15 kb15 lo19 ra19 he19 on19 bs19 pp24 (0 + nn19) T19.heap ⟨xE20, xL20, xR20, xH20, xO20, xB20, xN20, xV20, xU20⟩ I19 (by omega) hR19 hp24 []) tw_34 tw_35 (ow_nf hw tw_37) tw_37 tw_36 tw_2 tw_38 (by decide) (allS ows_b4 (allS (Or.inr (Nat.le_trans (ow_le A2) g15)) all0)) (by decide) (by decide) (ck' := 2) (sk' := 38) rfl rfl (by decide) (by decide) rfl (lenOf pd_6 rfl) (S := []) rfl (W := 0) (Nat.le_of_eq rfl) at_139 rfl ?_
      intro T25 v25 K25 hQ25 A25
      obtain ⟨rfl, lo25, ra25, he25, on25, bs25, nn25, O25, rl25, I25⟩ := hQ25
      show OwnWP _ _ _ _ _ _ _ _ _ T25 (mkF m 142 #[.val (.int p1), .val (.int p2), .val (.int p3), .val (.ref b4), .val (.long ra19), .second, .val (.long ex22), .second, .val (.int (1 : Int32)), .val (.int pp24), .val (.int (0 : Int32)), .val (.long (own_r0 (4294967295 : Int64) pp18)), .second, .val (.int sx22), .unset, .unset, .unset] [])
      obtain ⟨xE26, xL26, xR26, xH26, xO26, xB26, xN26, xV26, xU26⟩ := O25
      have rb25 := own_rb0 ra19 pp24 hR19 hp24
      have ok25 := own_ok _ _ _ rl25 rb25
      have hR25 : Rok ra25 := ⟨ok25.1, ok25.2.1⟩
      have tl25 := ok25.2.2.1
      have tu25 := ok25.2.2.2
      refine ow_lload C A25 at_142 rfl rfl ?_
      refine ow_iload C A25 at_144 rfl rfl ?_
      refine ow_iload C A25 at_146 rfl rfl ?_
      refine ow_callS C A25 (argsL := [(.long ra19), (.int pp24), (.int (0 : Int32))]) (rm_raw0 l Z a0 hw ra19 pp24 T25.heap []) tw_49 tw_50 tw_31 tw_51 (by decide) all0 (by decide) (by decide) (ck' := 2) (sk' := 38) rfl rfl (by decide) (by decide) rfl (lenOf pd_7 rfl) (S := []) rfl (W := 0) (Nat.le_of_eq rfl) at_148 rfl ?_
      intro T27 v27 K27 hQ27 A27
      obtain ⟨rfl, ee27⟩ := hQ27
      rw [ee27] at A27 K27
      show OwnWP _ _ _ _ _ _ _ _ _ T27 (mkF m 151 #[.val (.int p1), .val (.int p2), .val (.int p3), .val (.ref b4), .val (.long ra19), .second, .val (.long ex22), .second, .val (.int (1 : Int32)), .val (.int pp24), .val (.int (0 : Int32)), .val (.long (own_r0 (4294967295 : Int64) pp18)), .second, .val (.int sx22), .unset, .unset, .unset] [(.long (own_r0 ra19 pp24))])
      refine ow_lstore C A27 at_151 (Ls' := #[.val (.int p1), .val (.int p2), .val (.int p3), .val (.ref b4), .val (.long ra19), .second, .val (.long ex22), .second, .val (.int (1 : Int32)), .val (.int pp24), .val (.int (0 : Int32)), .val (.long (own_r0 ra19 pp24)), .second, .val (.int sx22), .unset, .unset, .unset]) rfl rfl ?_
      refine ow_lload C A27 at_153 rfl rfl ?_
      refine ow_callS C A27 (argsL := [(.long (own_r0 ra19 pp24))]) (rm_sft l Z a0 hw (own_r0 ra19 pp24) T25.heap rb25 []) tw_52 tw_53 tw_31 tw_54 (by decide) all0 (by decide) (by decide) (ck' := 2) (sk' := 38) rfl rfl (by decide) (by decide) rfl (lenOf pd_8 rfl) (S := []) rfl (W := 0) (Nat.le_of_eq rfl) at_155 rfl ?_
      intro T28 v28 K28 hQ28 A28
      obtain ⟨ee28, sx28, rfl, hs28⟩ := hQ28
      rw [ee28] at A28 K28
      show OwnWP _ _ _ _ _ _ _ _ _ T28 (mkF m 158 #[.val (.int p1), .val (.int p2), .val (.int p3), .val (.ref b4), .val (.long ra19), .second, .val (.long ex22), .second, .val (.int (1 : Int32)), .val (.int pp24), .val (.int (0 : Int32)), .val (.long (own_r0 ra19 pp24)), .second, .val (.int sx22), .unset, .unset, .unset] [(.int sx28)])
      have sr28 := own_s8 (own_r0 ra19 pp24) sx28 rb25 hs28
      have su28 := own_un _ _ _ _ _ rl25 sr28
      refine ow_istore C A28 at_158 (Ls' := #[.val (.int p1), .val (.int p2), .val (.int p3), .val (.ref b4), .val (.long ra19), .second, .val (.long ex22), .second, .val (.int (1 : Int32)), .val (.int pp24), .val (.int (0 : Int32)), .val (.long (own_r0 ra19 pp24)), .second, .val (.int sx28), .unset, .unset, .unset]) rfl rfl ?_
      refine ow_lload C A28 at_160 rfl rfl ?_
      refine ow_iload C A28 at_162 rfl rfl ?_
      refine ow_i2l C A28 at_164 rfl ?_
      refine ow_ladd C A28 at_165 rfl ?_
      have hex28 := own_ex ex22 sx28 (0 + nn19) nn25 hex22 su28.2.symm ⟨by omega, by omega, by omega, by omega⟩
      obtain ⟨ex28, dex28⟩ : ∃ z, z = (ex22 + sx28.toInt64) := ⟨_, rfl⟩
      rw [← dex28] at hex28 ⊢
      refine ow_lstore C A28 at_166 (Ls' := #[.val (.int p1), .val (.int p2), .val (.int p3), .val (.ref b4), .val (.long ra19), .second, .val (.long ex28), .second, .val (.int (1 : Int32)), .val (.int pp24), .val (.int (0 : Int32)), .val (.long (own_r0 ra19 pp24)), .second, .val (.int sx28), .unset, .unset, .unset]) rfl rfl ?_
      refine ow_lload C A28 at_168 rfl rfl ?_
      refine ow_bipush C A28 at_170 (v := 8) rfl rfl ?_
      refine ow_iload C A28 at_172 rfl rfl ?_
      refine ow_imul C A28 at_174 rfl ?_
      refine ow_lshl C A28 at_175 rfl ?_
      rw [show ((own_r0 ra19 pp24) <<< (((8 : Int32) * sx28) &&& 63).toInt64) = ra25 from (own_eq64 su28.1).symm]
      refine ow_lstore C A28 at_176 (Ls' := #[.val (.int p1), .val (.int p2), .val (.int p3), .val (.ref b4), .val (.long ra25), .second, .val (.long ex28), .second, .val (.int (1 : Int32)), .val (.int pp24), .val (.int (0 : Int32)), .val (.long (own_r0 ra19 pp24)), .second, .val (.int sx28), .unset, .unset, .unset]) rfl rfl ?_
      refine ow_iload C A28 at_178 rfl rfl ?_
      refine ow_aloadN C A28 at_180 rfl rfl rfl ?_
      refine ow_callV C A28 (argsL := []) xE26 (rm_lb l Z a0 hw b4 bb15 kb15 lo25 ra25 he25 on25 bs25 ((0 + nn19) + nn25) T25.heap ⟨xE26, xL26, xR26, xH26, xO26, xB26, xN26, xV26, xU26⟩ I25 (by omega) []) tw_19 tw_20 (ow_nf hw tw_22) tw_22 tw_21 tw_2 tw_23 (by decide) all0 (by decide) (by decide) (ck' := 2) (sk' := 38) rfl rfl (by decide) (by decide) rfl (lenOf pd_4 rfl) (S := [(.int (1 : Int32))]) rfl (W := 1) (Nat.le_of_eq rfl) at_181 rfl ?_
      intro T29 v29 K29 hQ29 A29
      obtain ⟨ee29, xl29, rfl, hl29⟩ := hQ29
      rw [ee29] at A29 K29
      show OwnWP _ _ _ _ _ _ _ _ _ T29 (mkF m 184 #[.val (.int p1), .val (.int p2), .val (.int p3), .val (.ref b4), .val (.long ra25), .second, .val (.long ex28), .second, .val (.int (1 : Int32)), .val (.int pp24), .val (.int (0 : Int32)), .val (.long (own_r0 ra19 pp24)), .second, .val (.int sx28), .unset, .unset, .unset] [(.long xl29), (.int (1 : Int32))])
      refine ow_lload C A29 at_184 rfl rfl ?_
      refine ow_lcmp_ne C A29 at_186 rfl at_187 (by decide) (pcY := 194) (by decide) (pcN := 190) rfl (fun zq => absurd (own_eq64 (by omega)) zq) (fun _ => ?_)
      refine ow_iconst C A29 at_190 (v := 1) rfl rfl ?_
      refine ow_goto C A29 at_191 (by decide) (pc' := 195) (by decide) ?_
      refine ow_iand C A29 at_195 rfl ?_
      show OwnWP _ _ _ _ _ _ _ _ _ T29 (mkF m 196 #[.val (.int p1), .val (.int p2), .val (.int p3), .val (.ref b4), .val (.long ra25), .second, .val (.long ex28), .second, .val (.int (1 : Int32)), .val (.int pp24), .val (.int (0 : Int32)), .val (.long (own_r0 ra19 pp24)), .second, .val (.int sx28), .unset, .unset, .unset] [(.int (1 : Int32))])
      refine ow_istore C A29 at_196 (Ls' := #[.val (.int p1), .val (.int p2), .val (.int p3), .val (.ref b4), .val (.long ra25), .second, .val (.long ex28), .second, .val (.int (1 : Int32)), .val (.int pp24), .val (.int (0 : Int32)), .val (.long (own_r0 ra19 pp24)), .second, .val (.int sx28), .unset, .unset, .unset]) rfl rfl ?_
      refine ow_iloadN C A29 at_198 rfl rfl ?_
      refine ow_callS C A29 (argsL := [(.int p3)]) (rm_prob l Z a0 hw p3 T25.heap []) tw_29 tw_30 tw_31 tw_32 (by decide) all0 (by decide) (by decide) (ck' := 2) (sk' := 38) rfl rfl (by decide) (by decide) rfl (lenOf pd_5 rfl) (S := []) rfl (W := 0) (Nat.le_of_eq rfl) at_199 rfl ?_
      intro T30 v30 K30 hQ30 A30
      obtain ⟨ee30, pp30, rfl, hp30⟩ := hQ30
      rw [ee30] at A30 K30
      show OwnWP _ _ _ _ _ _ _ _ _ T30 (mkF m 202 #[.val (.int p1), .val (.int p2), .val (.int p3), .val (.ref b4), .val (.long ra25), .second, .val (.long ex28), .second, .val (.int (1 : Int32)), .val (.int pp24), .val (.int (0 : Int32)), .val (.long (own_r0 ra19 pp24)), .second, .val (.int sx28), .unset, .unset, .unset] [(.int pp30)])
      refine ow_istore C A30 at_202 (Ls' := #[.val (.int p1), .val (.int p2), .val (.int p3), .val (.ref b4), .val (.long ra25), .second, .val (.long ex28), .second, .val (.int (1 : Int32)), .val (.int pp30), .val (.int (0 : Int32)), .val (.long (own_r0 ra19 pp24)), .second, .val (.int sx28), .unset, .unset, .unset]) rfl rfl ?_
      refine ow_iloadN C A30 at_204 rfl rfl ?_
      refine ow_if_ge C A30 at_205 (by decide) (pcY := 212) (by decide) (pcN := 208) rfl (fun hc205 => ?_) (fun hc205 => ?_)
      · skip
        refine ow_iconst C A30 at_212 (v := 0) rfl rfl ?_
        refine ow_istore C A30 at_213 (Ls' := #[.val (.int p1), .val (.int p2), .val (.int p3), .val (.ref b4), .val (.long ra25), .second, .val (.long ex28), .second, .val (.int (1 : Int32)), .val (.int pp30), .val (.int (0 : Int32)), .val (.long (own_r0 ra19 pp24)), .second, .val (.int sx28), .unset, .unset, .unset]) rfl rfl ?_
        refine ow_aloadN C A30 at_215 rfl rfl rfl ?_
        refine ow_iload C A30 at_216 rfl rfl ?_
        refine ow_iload C A30 at_218 rfl rfl ?_
        refine ow_callV C A30 (argsL := [(.int pp30), (.int (0 : Int32))]) xE26 (rm_enc0 l Z a0 hw b4 bb15 kb15 lo25 ra25 he25 on25 bs25 pp30 ((0 + nn19) + nn25) T25.heap ⟨xE26, xL26, xR26, xH26, xO26, xB26, xN26, xV26, xU26⟩ I25 (by omega) hR25 hp30 []) tw_34 tw_35 (ow_nf hw tw_37) tw_37 tw_36 tw_2 tw_38 (by decide) (allS ows_b4 (allS (Or.inr (Nat.le_trans (ow_le A2) g15)) all0)) (by decide) (by decide) (ck' := 2) (sk' := 38) rfl rfl (by decide) (by decide) rfl (lenOf pd_6 rfl) (S := []) rfl (W := 0) (Nat.le_of_eq rfl) at_220 rfl ?_
        intro T31 v31 K31 hQ31 A31
        obtain ⟨rfl, lo31, ra31, he31, on31, bs31, nn31, O31, rl31, I31⟩ := hQ31
        show OwnWP _ _ _ _ _ _ _ _ _ T31 (mkF m 223 #[.val (.int p1), .val (.int p2), .val (.int p3), .val (.ref b4), .val (.long ra25), .second, .val (.long ex28), .second, .val (.int (1 : Int32)), .val (.int pp30), .val (.int (0 : Int32)), .val (.long (own_r0 ra19 pp24)), .second, .val (.int sx28), .unset, .unset, .unset] [])
        obtain ⟨xE32, xL32, xR32, xH32, xO32, xB32, xN32, xV32, xU32⟩ := O31
        have rb31 := own_rb0 ra25 pp30 hR25 hp30
        have ok31 := own_ok _ _ _ rl31 rb31
        have hR31 : Rok ra31 := ⟨ok31.1, ok31.2.1⟩
        have tl31 := ok31.2.2.1
        have tu31 := ok31.2.2.2
        refine ow_lload C A31 at_223 rfl rfl ?_
        refine ow_iload C A31 at_225 rfl rfl ?_
        refine ow_iload C A31 at_227 rfl rfl ?_
        refine ow_callS C A31 (argsL := [(.long ra25), (.int pp30), (.int (0 : Int32))]) (rm_raw0 l Z a0 hw ra25 pp30 T31.heap []) tw_49 tw_50 tw_31 tw_51 (by decide) all0 (by decide) (by decide) (ck' := 2) (sk' := 38) rfl rfl (by decide) (by decide) rfl (lenOf pd_7 rfl) (S := []) rfl (W := 0) (Nat.le_of_eq rfl) at_229 rfl ?_
        intro T33 v33 K33 hQ33 A33
        obtain ⟨rfl, ee33⟩ := hQ33
        rw [ee33] at A33 K33
        show OwnWP _ _ _ _ _ _ _ _ _ T33 (mkF m 232 #[.val (.int p1), .val (.int p2), .val (.int p3), .val (.ref b4), .val (.long ra25), .second, .val (.long ex28), .second, .val (.int (1 : Int32)), .val (.int pp30), .val (.int (0 : Int32)), .val (.long (own_r0 ra19 pp24)), .second, .val (.int sx28), .unset, .unset, .unset] [(.long (own_r0 ra25 pp30))])
        refine ow_lstore C A33 at_232 (Ls' := #[.val (.int p1), .val (.int p2), .val (.int p3), .val (.ref b4), .val (.long ra25), .second, .val (.long ex28), .second, .val (.int (1 : Int32)), .val (.int pp30), .val (.int (0 : Int32)), .val (.long (own_r0 ra25 pp30)), .second, .val (.int sx28), .unset, .unset, .unset]) rfl rfl ?_
        refine ow_lload C A33 at_234 rfl rfl ?_
        refine ow_callS C A33 (argsL := [(.long (own_r0 ra25 pp30))]) (rm_sft l Z a0 hw (own_r0 ra25 pp30) T31.heap rb31 []) tw_52 tw_53 tw_31 tw_54 (by decide) all0 (by decide) (by decide) (ck' := 2) (sk' := 38) rfl rfl (by decide) (by decide) rfl (lenOf pd_8 rfl) (S := []) rfl (W := 0) (Nat.le_of_eq rfl) at_236 rfl ?_
        intro T34 v34 K34 hQ34 A34
        obtain ⟨ee34, sx34, rfl, hs34⟩ := hQ34
        rw [ee34] at A34 K34
        show OwnWP _ _ _ _ _ _ _ _ _ T34 (mkF m 239 #[.val (.int p1), .val (.int p2), .val (.int p3), .val (.ref b4), .val (.long ra25), .second, .val (.long ex28), .second, .val (.int (1 : Int32)), .val (.int pp30), .val (.int (0 : Int32)), .val (.long (own_r0 ra25 pp30)), .second, .val (.int sx28), .unset, .unset, .unset] [(.int sx34)])
        have sr34 := own_s8 (own_r0 ra25 pp30) sx34 rb31 hs34
        have su34 := own_un _ _ _ _ _ rl31 sr34
        refine ow_istore C A34 at_239 (Ls' := #[.val (.int p1), .val (.int p2), .val (.int p3), .val (.ref b4), .val (.long ra25), .second, .val (.long ex28), .second, .val (.int (1 : Int32)), .val (.int pp30), .val (.int (0 : Int32)), .val (.long (own_r0 ra25 pp30)), .second, .val (.int sx34), .unset, .unset, .unset]) rfl rfl ?_
        refine ow_lload C A34 at_241 rfl rfl ?_
        refine ow_iload C A34 at_243 rfl rfl ?_
        refine ow_i2l C A34 at_245 rfl ?_
        refine ow_ladd C A34 at_246 rfl ?_
        have hex34 := own_ex ex28 sx34 ((0 + nn19) + nn25) nn31 hex28 su34.2.symm ⟨by omega, by omega, by omega, by omega⟩
        obtain ⟨ex34, dex34⟩ : ∃ z, z = (ex28 + sx34.toInt64) := ⟨_, rfl⟩
        rw [← dex34] at hex34 ⊢
        refine ow_lstore C A34 at_247 (Ls' := #[.val (.int p1), .val (.int p2), .val (.int p3), .val (.ref b4), .val (.long ra25), .second, .val (.long ex34), .second, .val (.int (1 : Int32)), .val (.int pp30), .val (.int (0 : Int32)), .val (.long (own_r0 ra25 pp30)), .second, .val (.int sx34), .unset, .unset, .unset]) rfl rfl ?_
        refine ow_lload C A34 at_249 rfl rfl ?_
        refine ow_bipush C A34 at_251 (v := 8) rfl rfl ?_
        refine ow_iload C A34 at_253 rfl rfl ?_
        refine ow_imul C A34 at_255 rfl ?_
        refine ow_lshl C A34 at_256 rfl ?_
        rw [show ((own_r0 ra25 pp30) <<< (((8 : Int32) * sx34) &&& 63).toInt64) = ra31 from (own_eq64 su34.1).symm]
        refine ow_lstore C A34 at_257 (Ls' := #[.val (.int p1), .val (.int p2), .val (.int p3), .val (.ref b4), .val (.long ra31), .second, .val (.long ex34), .second, .val (.int (1 : Int32)), .val (.int pp30), .val (.int (0 : Int32)), .val (.long (own_r0 ra25 pp30)), .second, .val (.int sx34), .unset, .unset, .unset]) rfl rfl ?_
        refine ow_aloadN C A34 at_259 rfl rfl rfl ?_
        refine ow_callV C A34 (argsL := []) xE32 (rm_lb l Z a0 hw b4 bb15 kb15 lo31 ra31 he31 on31 bs31 (((0 + nn19) + nn25) + nn31) T31.heap ⟨xE32, xL32, xR32, xH32, xO32, xB32, xN32, xV32, xU32⟩ I31 (by omega) []) tw_19 tw_20 (ow_nf hw tw_22) tw_22 tw_21 tw_2 tw_23 (by decide) all0 (by decide) (by decide) (ck' := 2) (sk' := 38) rfl rfl (by decide) (by decide) rfl (lenOf pd_4 rfl) (S := []) rfl (W := 0) (Nat.le_of_eq rfl) at_260 rfl ?_
        intro T35 v35 K35 hQ35 A35
        obtain ⟨ee35, xl35, rfl, hl35⟩ := hQ35
        rw [ee35] at A35 K35
        show OwnWP _ _ _ _ _ _ _ _ _ T35 (mkF m 263 #[.val (.int p1), .val (.int p2), .val (.int p3), .val (.ref b4), .val (.long ra31), .second, .val (.long ex34), .second, .val (.int (1 : Int32)), .val (.int pp30), .val (.int (0 : Int32)), .val (.long (own_r0 ra25 pp30)), .second, .val (.int sx34), .unset, .unset, .unset] [(.long xl35)])
        refine ow_lstore C A35 at_263 (Ls' := #[.val (.int p1), .val (.int p2), .val (.int p3), .val (.ref b4), .val (.long ra31), .second, .val (.long ex34), .second, .val (.int (1 : Int32)), .val (.int pp30), .val (.int (0 : Int32)), .val (.long (own_r0 ra25 pp30)), .second, .val (.int sx34), .val (.long xl35), .second, .unset]) rfl rfl ?_
        refine ow_iload C A35 at_265 rfl rfl ?_
        refine ow_lload C A35 at_267 rfl rfl ?_
        refine ow_lload C A35 at_269 rfl rfl ?_
        refine ow_lcmp_ne C A35 at_271 rfl at_272 (by decide) (pcY := 279) (by decide) (pcN := 275) rfl (fun zq => absurd (own_eq64 (by omega)) zq) (fun _ => ?_)
        refine ow_iconst C A35 at_275 (v := 1) rfl rfl ?_
        refine ow_goto C A35 at_276 (by decide) (pc' := 280) (by decide) ?_
        refine ow_iand C A35 at_280 rfl ?_
        show OwnWP _ _ _ _ _ _ _ _ _ T35 (mkF m 281 #[.val (.int p1), .val (.int p2), .val (.int p3), .val (.ref b4), .val (.long ra31), .second, .val (.long ex34), .second, .val (.int (1 : Int32)), .val (.int pp30), .val (.int (0 : Int32)), .val (.long (own_r0 ra25 pp30)), .second, .val (.int sx34), .val (.long xl35), .second, .unset] [(.int (1 : Int32))])
        refine ow_istore C A35 at_281 (Ls' := #[.val (.int p1), .val (.int p2), .val (.int p3), .val (.ref b4), .val (.long ra31), .second, .val (.long ex34), .second, .val (.int (1 : Int32)), .val (.int pp30), .val (.int (0 : Int32)), .val (.long (own_r0 ra25 pp30)), .second, .val (.int sx34), .val (.long xl35), .second, .unset]) rfl rfl ?_
        refine ow_aloadN C A35 at_283 rfl rfl rfl ?_
        refine ow_callV C A35 (argsL := []) xE32 (rm_fin l Z a0 hw b4 bb15 kb15 lo31 ra31 he31 on31 bs31 (((0 + nn19) + nn25) + nn31) T31.heap ⟨xE32, xL32, xR32, xH32, xO32, xB32, xN32, xV32, xU32⟩ I31 (by omega) (by omega) []) tw_60 tw_61 (ow_nf hw tw_63) tw_63 tw_62 tw_2 tw_64 (by decide) (allS ows_b4 (allS (Or.inr (Nat.le_trans (ow_le A2) g15)) all0)) (by decide) (by decide) (ck' := 3) (sk' := 70) rfl rfl (by decide) (by decide) rfl (lenOf pd_9 rfl) (S := []) rfl (W := 0) (Nat.le_of_eq rfl) at_284 rfl ?_
        intro T36 v36 K36 hQ36 A36
        obtain ⟨rr36, kr36, nr36, vr36, rfl, yR36, n036, n136⟩ := hQ36
        show OwnWP _ _ _ _ _ _ _ _ _ T36 (mkF m 287 #[.val (.int p1), .val (.int p2), .val (.int p3), .val (.ref b4), .val (.long ra31), .second, .val (.long ex34), .second, .val (.int (1 : Int32)), .val (.int pp30), .val (.int (0 : Int32)), .val (.long (own_r0 ra25 pp30)), .second, .val (.int sx34), .val (.long xl35), .second, .unset] [(.ref rr36)])
        refine ow_astore C A36 at_287 rfl (Ls' := #[.val (.int p1), .val (.int p2), .val (.int p3), .val (.ref b4), .val (.long ra31), .second, .val (.long ex34), .second, .val (.int (1 : Int32)), .val (.int pp30), .val (.int (0 : Int32)), .val (.long (own_r0 ra25 pp30)), .second, .val (.int sx34), .val (.long xl35), .second, .val (.ref rr36)]) rfl rfl ?_
        refine ow_iload C A36 at_289 rfl rfl ?_
        refine ow_aload C A36 at_291 rfl rfl rfl ?_
        refine ow_alen C A36 yR36 at_293 rfl ?_
        refine ow_i2l C A36 at_294 rfl ?_
        refine ow_lload C A36 at_295 rfl rfl ?_
        refine ow_lcmp_gt C A36 at_297 rfl at_298 (by decide) (pcY := 305) (by decide) (pcN := 301) rfl (fun zq => absurd zq (own_nlt64 (by rw [c_i2l]; omega))) (fun _ => ?_)
        refine ow_iconst C A36 at_301 (v := 1) rfl rfl ?_
        refine ow_goto C A36 at_302 (by decide) (pc' := 306) (by decide) ?_
        refine ow_iand C A36 at_306 rfl ?_
        show OwnWP _ _ _ _ _ _ _ _ _ T36 (mkF m 307 #[.val (.int p1), .val (.int p2), .val (.int p3), .val (.ref b4), .val (.long ra31), .second, .val (.long ex34), .second, .val (.int (1 : Int32)), .val (.int pp30), .val (.int (0 : Int32)), .val (.long (own_r0 ra25 pp30)), .second, .val (.int sx34), .val (.long xl35), .second, .val (.ref rr36)] [(.int (1 : Int32))])
        refine ow_istore C A36 at_307 (Ls' := #[.val (.int p1), .val (.int p2), .val (.int p3), .val (.ref b4), .val (.long ra31), .second, .val (.long ex34), .second, .val (.int (1 : Int32)), .val (.int pp30), .val (.int (0 : Int32)), .val (.long (own_r0 ra25 pp30)), .second, .val (.int sx34), .val (.long xl35), .second, .val (.ref rr36)]) rfl rfl ?_
        refine ow_iload C A36 at_309 rfl rfl ?_
        refine ow_ireturn C A36 (t := .boolean) rfl rfl (by simp) at_311 (by decide) (by decide) ?_
        exact rfl
      · skip
        refine ow_iconst C A30 at_208 (v := 1) rfl rfl ?_
        refine ow_goto C A30 at_209 (by decide) (pc' := 213) (by decide) ?_
        refine ow_istore C A30 at_213 (Ls' := #[.val (.int p1), .val (.int p2), .val (.int p3), .val (.ref b4), .val (.long ra25), .second, .val (.long ex28), .second, .val (.int (1 : Int32)), .val (.int pp30), .val (.int (1 : Int32)), .val (.long (own_r0 ra19 pp24)), .second, .val (.int sx28), .unset, .unset, .unset]) rfl rfl ?_
        refine ow_aloadN C A30 at_215 rfl rfl rfl ?_
        refine ow_iload C A30 at_216 rfl rfl ?_
        refine ow_iload C A30 at_218 rfl rfl ?_
        refine ow_callV C A30 (argsL := [(.int pp30), (.int (1 : Int32))]) xE26 (rm_enc1 l Z a0 hw b4 bb15 kb15 lo25 ra25 he25 on25 bs25 pp30 ((0 + nn19) + nn25) T25.heap ⟨xE26, xL26, xR26, xH26, xO26, xB26, xN26, xV26, xU26⟩ I25 (by omega) hR25 hp30 []) tw_34 tw_35 (ow_nf hw tw_37) tw_37 tw_36 tw_2 tw_38 (by decide) (allS ows_b4 (allS (Or.inr (Nat.le_trans (ow_le A2) g15)) all0)) (by decide) (by decide) (ck' := 2) (sk' := 38) rfl rfl (by decide) (by decide) rfl (lenOf pd_6 rfl) (S := []) rfl (W := 0) (Nat.le_of_eq rfl) at_220 rfl ?_
        intro T37 v37 K37 hQ37 A37
        obtain ⟨rfl, lo37, ra37, he37, on37, bs37, nn37, O37, rl37, I37⟩ := hQ37
        show OwnWP _ _ _ _ _ _ _ _ _ T37 (mkF m 223 #[.val (.int p1), .val (.int p2), .val (.int p3), .val (.ref b4), .val (.long ra25), .second, .val (.long ex28), .second, .val (.int (1 : Int32)), .val (.int pp30), .val (.int (1 : Int32)), .val (.long (own_r0 ra19 pp24)), .second, .val (.int sx28), .unset, .unset, .unset] [])
        obtain ⟨xE38, xL38, xR38, xH38, xO38, xB38, xN38, xV38, xU38⟩ := O37
        have rb37 := own_rb1 ra25 pp30 hR25 hp30
        have ok37 := own_ok _ _ _ rl37 rb37
        have hR37 : Rok ra37 := ⟨ok37.1, ok37.2.1⟩
        have tl37 := ok37.2.2.1
        have tu37 := ok37.2.2.2
        refine ow_lload C A37 at_223 rfl rfl ?_
        refine ow_iload C A37 at_225 rfl rfl ?_
        refine ow_iload C A37 at_227 rfl rfl ?_
        refine ow_callS C A37 (argsL := [(.long ra25), (.int pp30), (.int (1 : Int32))]) (rm_raw1 l Z a0 hw ra25 pp30 T37.heap []) tw_49 tw_50 tw_31 tw_51 (by decide) all0 (by decide) (by decide) (ck' := 2) (sk' := 38) rfl rfl (by decide) (by decide) rfl (lenOf pd_7 rfl) (S := []) rfl (W := 0) (Nat.le_of_eq rfl) at_229 rfl ?_
        intro T39 v39 K39 hQ39 A39
        obtain ⟨rfl, ee39⟩ := hQ39
        rw [ee39] at A39 K39
        show OwnWP _ _ _ _ _ _ _ _ _ T39 (mkF m 232 #[.val (.int p1), .val (.int p2), .val (.int p3), .val (.ref b4), .val (.long ra25), .second, .val (.long ex28), .second, .val (.int (1 : Int32)), .val (.int pp30), .val (.int (1 : Int32)), .val (.long (own_r0 ra19 pp24)), .second, .val (.int sx28), .unset, .unset, .unset] [(.long (own_r1 ra25 pp30))])
        refine ow_lstore C A39 at_232 (Ls' := #[.val (.int p1), .val (.int p2), .val (.int p3), .val (.ref b4), .val (.long ra25), .second, .val (.long ex28), .second, .val (.int (1 : Int32)), .val (.int pp30), .val (.int (1 : Int32)), .val (.long (own_r1 ra25 pp30)), .second, .val (.int sx28), .unset, .unset, .unset]) rfl rfl ?_
        refine ow_lload C A39 at_234 rfl rfl ?_
        refine ow_callS C A39 (argsL := [(.long (own_r1 ra25 pp30))]) (rm_sft l Z a0 hw (own_r1 ra25 pp30) T37.heap rb37 []) tw_52 tw_53 tw_31 tw_54 (by decide) all0 (by decide) (by decide) (ck' := 2) (sk' := 38) rfl rfl (by decide) (by decide) rfl (lenOf pd_8 rfl) (S := []) rfl (W := 0) (Nat.le_of_eq rfl) at_236 rfl ?_
        intro T40 v40 K40 hQ40 A40
        obtain ⟨ee40, sx40, rfl, hs40⟩ := hQ40
        rw [ee40] at A40 K40
        show OwnWP _ _ _ _ _ _ _ _ _ T40 (mkF m 239 #[.val (.int p1), .val (.int p2), .val (.int p3), .val (.ref b4), .val (.long ra25), .second, .val (.long ex28), .second, .val (.int (1 : Int32)), .val (.int pp30), .val (.int (1 : Int32)), .val (.long (own_r1 ra25 pp30)), .second, .val (.int sx28), .unset, .unset, .unset] [(.int sx40)])
        have sr40 := own_s8 (own_r1 ra25 pp30) sx40 rb37 hs40
        have su40 := own_un _ _ _ _ _ rl37 sr40
        refine ow_istore C A40 at_239 (Ls' := #[.val (.int p1), .val (.int p2), .val (.int p3), .val (.ref b4), .val (.long ra25), .second, .val (.long ex28), .second, .val (.int (1 : Int32)), .val (.int pp30), .val (.int (1 : Int32)), .val (.long (own_r1 ra25 pp30)), .second, .val (.int sx40), .unset, .unset, .unset]) rfl rfl ?_
        refine ow_lload C A40 at_241 rfl rfl ?_
        refine ow_iload C A40 at_243 rfl rfl ?_
        refine ow_i2l C A40 at_245 rfl ?_
        refine ow_ladd C A40 at_246 rfl ?_
        have hex40 := own_ex ex28 sx40 ((0 + nn19) + nn25) nn37 hex28 su40.2.symm ⟨by omega, by omega, by omega, by omega⟩
        obtain ⟨ex40, dex40⟩ : ∃ z, z = (ex28 + sx40.toInt64) := ⟨_, rfl⟩
        rw [← dex40] at hex40 ⊢
        refine ow_lstore C A40 at_247 (Ls' := #[.val (.int p1), .val (.int p2), .val (.int p3), .val (.ref b4), .val (.long ra25), .second, .val (.long ex40), .second, .val (.int (1 : Int32)), .val (.int pp30), .val (.int (1 : Int32)), .val (.long (own_r1 ra25 pp30)), .second, .val (.int sx40), .unset, .unset, .unset]) rfl rfl ?_
        refine ow_lload C A40 at_249 rfl rfl ?_
        refine ow_bipush C A40 at_251 (v := 8) rfl rfl ?_
        refine ow_iload C A40 at_253 rfl rfl ?_
        refine ow_imul C A40 at_255 rfl ?_
        refine ow_lshl C A40 at_256 rfl ?_
        rw [show ((own_r1 ra25 pp30) <<< (((8 : Int32) * sx40) &&& 63).toInt64) = ra37 from (own_eq64 su40.1).symm]
        refine ow_lstore C A40 at_257 (Ls' := #[.val (.int p1), .val (.int p2), .val (.int p3), .val (.ref b4), .val (.long ra37), .second, .val (.long ex40), .second, .val (.int (1 : Int32)), .val (.int pp30), .val (.int (1 : Int32)), .val (.long (own_r1 ra25 pp30)), .second, .val (.int sx40), .unset, .unset, .unset]) rfl rfl ?_
        refine ow_aloadN C A40 at_259 rfl rfl rfl ?_
        refine ow_callV C A40 (argsL := []) xE38 (rm_lb l Z a0 hw b4 bb15 kb15 lo37 ra37 he37 on37 bs37 (((0 + nn19) + nn25) + nn37) T37.heap ⟨xE38, xL38, xR38, xH38, xO38, xB38, xN38, xV38, xU38⟩ I37 (by omega) []) tw_19 tw_20 (ow_nf hw tw_22) tw_22 tw_21 tw_2 tw_23 (by decide) all0 (by decide) (by decide) (ck' := 2) (sk' := 38) rfl rfl (by decide) (by decide) rfl (lenOf pd_4 rfl) (S := []) rfl (W := 0) (Nat.le_of_eq rfl) at_260 rfl ?_
        intro T41 v41 K41 hQ41 A41
        obtain ⟨ee41, xl41, rfl, hl41⟩ := hQ41
        rw [ee41] at A41 K41
        show OwnWP _ _ _ _ _ _ _ _ _ T41 (mkF m 263 #[.val (.int p1), .val (.int p2), .val (.int p3), .val (.ref b4), .val (.long ra37), .second, .val (.long ex40), .second, .val (.int (1 : Int32)), .val (.int pp30), .val (.int (1 : Int32)), .val (.long (own_r1 ra25 pp30)), .second, .val (.int sx40), .unset, .unset, .unset] [(.long xl41)])
        refine ow_lstore C A41 at_263 (Ls' := #[.val (.int p1), .val (.int p2), .val (.int p3), .val (.ref b4), .val (.long ra37), .second, .val (.long ex40), .second, .val (.int (1 : Int32)), .val (.int pp30), .val (.int (1 : Int32)), .val (.long (own_r1 ra25 pp30)), .second, .val (.int sx40), .val (.long xl41), .second, .unset]) rfl rfl ?_
        refine ow_iload C A41 at_265 rfl rfl ?_
        refine ow_lload C A41 at_267 rfl rfl ?_
        refine ow_lload C A41 at_269 rfl rfl ?_
        refine ow_lcmp_ne C A41 at_271 rfl at_272 (by decide) (pcY := 279) (by decide) (pcN := 275) rfl (fun zq => absurd (own_eq64 (by omega)) zq) (fun _ => ?_)
        refine ow_iconst C A41 at_275 (v := 1) rfl rfl ?_
        refine ow_goto C A41 at_276 (by decide) (pc' := 280) (by decide) ?_
        refine ow_iand C A41 at_280 rfl ?_
        show OwnWP _ _ _ _ _ _ _ _ _ T41 (mkF m 281 #[.val (.int p1), .val (.int p2), .val (.int p3), .val (.ref b4), .val (.long ra37), .second, .val (.long ex40), .second, .val (.int (1 : Int32)), .val (.int pp30), .val (.int (1 : Int32)), .val (.long (own_r1 ra25 pp30)), .second, .val (.int sx40), .val (.long xl41), .second, .unset] [(.int (1 : Int32))])
        refine ow_istore C A41 at_281 (Ls' := #[.val (.int p1), .val (.int p2), .val (.int p3), .val (.ref b4), .val (.long ra37), .second, .val (.long ex40), .second, .val (.int (1 : Int32)), .val (.int pp30), .val (.int (1 : Int32)), .val (.long (own_r1 ra25 pp30)), .second, .val (.int sx40), .val (.long xl41), .second, .unset]) rfl rfl ?_
        refine ow_aloadN C A41 at_283 rfl rfl rfl ?_
        refine ow_callV C A41 (argsL := []) xE38 (rm_fin l Z a0 hw b4 bb15 kb15 lo37 ra37 he37 on37 bs37 (((0 + nn19) + nn25) + nn37) T37.heap ⟨xE38, xL38, xR38, xH38, xO38, xB38, xN38, xV38, xU38⟩ I37 (by omega) (by omega) []) tw_60 tw_61 (ow_nf hw tw_63) tw_63 tw_62 tw_2 tw_64 (by decide) (allS ows_b4 (allS (Or.inr (Nat.le_trans (ow_le A2) g15)) all0)) (by decide) (by decide) (ck' := 3) (sk' := 70) rfl rfl (by decide) (by decide) rfl (lenOf pd_9 rfl) (S := []) rfl (W := 0) (Nat.le_of_eq rfl) at_284 rfl ?_
        intro T42 v42 K42 hQ42 A42
        obtain ⟨rr42, kr42, nr42, vr42, rfl, yR42, n042, n142⟩ := hQ42
        show OwnWP _ _ _ _ _ _ _ _ _ T42 (mkF m 287 #[.val (.int p1), .val (.int p2), .val (.int p3), .val (.ref b4), .val (.long ra37), .second, .val (.long ex40), .second, .val (.int (1 : Int32)), .val (.int pp30), .val (.int (1 : Int32)), .val (.long (own_r1 ra25 pp30)), .second, .val (.int sx40), .val (.long xl41), .second, .unset] [(.ref rr42)])
        refine ow_astore C A42 at_287 rfl (Ls' := #[.val (.int p1), .val (.int p2), .val (.int p3), .val (.ref b4), .val (.long ra37), .second, .val (.long ex40), .second, .val (.int (1 : Int32)), .val (.int pp30), .val (.int (1 : Int32)), .val (.long (own_r1 ra25 pp30)), .second, .val (.int sx40), .val (.long xl41), .second, .val (.ref rr42)]) rfl rfl ?_
        refine ow_iload C A42 at_289 rfl rfl ?_
        refine ow_aload C A42 at_291 rfl rfl rfl ?_
        refine ow_alen C A42 yR42 at_293 rfl ?_
        refine ow_i2l C A42 at_294 rfl ?_
        refine ow_lload C A42 at_295 rfl rfl ?_
        refine ow_lcmp_gt C A42 at_297 rfl at_298 (by decide) (pcY := 305) (by decide) (pcN := 301) rfl (fun zq => absurd zq (own_nlt64 (by rw [c_i2l]; omega))) (fun _ => ?_)
        refine ow_iconst C A42 at_301 (v := 1) rfl rfl ?_
        refine ow_goto C A42 at_302 (by decide) (pc' := 306) (by decide) ?_
        refine ow_iand C A42 at_306 rfl ?_
        show OwnWP _ _ _ _ _ _ _ _ _ T42 (mkF m 307 #[.val (.int p1), .val (.int p2), .val (.int p3), .val (.ref b4), .val (.long ra37), .second, .val (.long ex40), .second, .val (.int (1 : Int32)), .val (.int pp30), .val (.int (1 : Int32)), .val (.long (own_r1 ra25 pp30)), .second, .val (.int sx40), .val (.long xl41), .second, .val (.ref rr42)] [(.int (1 : Int32))])
        refine ow_istore C A42 at_307 (Ls' := #[.val (.int p1), .val (.int p2), .val (.int p3), .val (.ref b4), .val (.long ra37), .second, .val (.long ex40), .second, .val (.int (1 : Int32)), .val (.int pp30), .val (.int (1 : Int32)), .val (.long (own_r1 ra25 pp30)), .second, .val (.int sx40), .val (.long xl41), .second, .val (.ref rr42)]) rfl rfl ?_
        refine ow_iload C A42 at_309 rfl rfl ?_
        refine ow_ireturn C A42 (t := .boolean) rfl rfl (by simp) at_311 (by decide) (by decide) ?_
        exact rfl
    · skip
      refine ow_iconst C A24 at_127 (v := 1) rfl rfl ?_
      refine ow_goto C A24 at_128 (by decide) (pc' := 132) (by decide) ?_
      refine ow_istore C A24 at_132 (Ls' := #[.val (.int p1), .val (.int p2), .val (.int p3), .val (.ref b4), .val (.long ra19), .second, .val (.long ex22), .second, .val (.int (1 : Int32)), .val (.int pp24), .val (.int (1 : Int32)), .val (.long (own_r0 (4294967295 : Int64) pp18)), .second, .val (.int sx22), .unset, .unset, .unset]) rfl rfl ?_
      refine ow_aloadN C A24 at_134 rfl rfl rfl ?_
      refine ow_iload C A24 at_135 rfl rfl ?_
      refine ow_iload C A24 at_137 rfl rfl ?_
      refine ow_callV C A24 (argsL := [(.int pp24), (.int (1 : Int32))]) xE20 (rm_enc1 l Z a0 hw b4 bb15 kb15 lo19 ra19 he19 on19 bs19 pp24 (0 + nn19) T19.heap ⟨xE20, xL20, xR20, xH20, xO20, xB20, xN20, xV20, xU20⟩ I19 (by omega) hR19 hp24 []) tw_34 tw_35 (ow_nf hw tw_37) tw_37 tw_36 tw_2 tw_38 (by decide) (allS ows_b4 (allS (Or.inr (Nat.le_trans (ow_le A2) g15)) all0)) (by decide) (by decide) (ck' := 2) (sk' := 38) rfl rfl (by decide) (by decide) rfl (lenOf pd_6 rfl) (S := []) rfl (W := 0) (Nat.le_of_eq rfl) at_139 rfl ?_
      intro T43 v43 K43 hQ43 A43
      obtain ⟨rfl, lo43, ra43, he43, on43, bs43, nn43, O43, rl43, I43⟩ := hQ43
      show OwnWP _ _ _ _ _ _ _ _ _ T43 (mkF m 142 #[.val (.int p1), .val (.int p2), .val (.int p3), .val (.ref b4), .val (.long ra19), .second, .val (.long ex22), .second, .val (.int (1 : Int32)), .val (.int pp24), .val (.int (1 : Int32)), .val (.long (own_r0 (4294967295 : Int64) pp18)), .second, .val (.int sx22), .unset, .unset, .unset] [])
      obtain ⟨xE44, xL44, xR44, xH44, xO44, xB44, xN44, xV44, xU44⟩ := O43
      have rb43 := own_rb1 ra19 pp24 hR19 hp24
      have ok43 := own_ok _ _ _ rl43 rb43
      have hR43 : Rok ra43 := ⟨ok43.1, ok43.2.1⟩
      have tl43 := ok43.2.2.1
      have tu43 := ok43.2.2.2
      refine ow_lload C A43 at_142 rfl rfl ?_
      refine ow_iload C A43 at_144 rfl rfl ?_
      refine ow_iload C A43 at_146 rfl rfl ?_
      refine ow_callS C A43 (argsL := [(.long ra19), (.int pp24), (.int (1 : Int32))]) (rm_raw1 l Z a0 hw ra19 pp24 T43.heap []) tw_49 tw_50 tw_31 tw_51 (by decide) all0 (by decide) (by decide) (ck' := 2) (sk' := 38) rfl rfl (by decide) (by decide) rfl (lenOf pd_7 rfl) (S := []) rfl (W := 0) (Nat.le_of_eq rfl) at_148 rfl ?_
      intro T45 v45 K45 hQ45 A45
      obtain ⟨rfl, ee45⟩ := hQ45
      rw [ee45] at A45 K45
      show OwnWP _ _ _ _ _ _ _ _ _ T45 (mkF m 151 #[.val (.int p1), .val (.int p2), .val (.int p3), .val (.ref b4), .val (.long ra19), .second, .val (.long ex22), .second, .val (.int (1 : Int32)), .val (.int pp24), .val (.int (1 : Int32)), .val (.long (own_r0 (4294967295 : Int64) pp18)), .second, .val (.int sx22), .unset, .unset, .unset] [(.long (own_r1 ra19 pp24))])
      refine ow_lstore C A45 at_151 (Ls' := #[.val (.int p1), .val (.int p2), .val (.int p3), .val (.ref b4), .val (.long ra19), .second, .val (.long ex22), .second, .val (.int (1 : Int32)), .val (.int pp24), .val (.int (1 : Int32)), .val (.long (own_r1 ra19 pp24)), .second, .val (.int sx22), .unset, .unset, .unset]) rfl rfl ?_
      refine ow_lload C A45 at_153 rfl rfl ?_
      refine ow_callS C A45 (argsL := [(.long (own_r1 ra19 pp24))]) (rm_sft l Z a0 hw (own_r1 ra19 pp24) T43.heap rb43 []) tw_52 tw_53 tw_31 tw_54 (by decide) all0 (by decide) (by decide) (ck' := 2) (sk' := 38) rfl rfl (by decide) (by decide) rfl (lenOf pd_8 rfl) (S := []) rfl (W := 0) (Nat.le_of_eq rfl) at_155 rfl ?_
      intro T46 v46 K46 hQ46 A46
      obtain ⟨ee46, sx46, rfl, hs46⟩ := hQ46
      rw [ee46] at A46 K46
      show OwnWP _ _ _ _ _ _ _ _ _ T46 (mkF m 158 #[.val (.int p1), .val (.int p2), .val (.int p3), .val (.ref b4), .val (.long ra19), .second, .val (.long ex22), .second, .val (.int (1 : Int32)), .val (.int pp24), .val (.int (1 : Int32)), .val (.long (own_r1 ra19 pp24)), .second, .val (.int sx22), .unset, .unset, .unset] [(.int sx46)])
      have sr46 := own_s8 (own_r1 ra19 pp24) sx46 rb43 hs46
      have su46 := own_un _ _ _ _ _ rl43 sr46
      refine ow_istore C A46 at_158 (Ls' := #[.val (.int p1), .val (.int p2), .val (.int p3), .val (.ref b4), .val (.long ra19), .second, .val (.long ex22), .second, .val (.int (1 : Int32)), .val (.int pp24), .val (.int (1 : Int32)), .val (.long (own_r1 ra19 pp24)), .second, .val (.int sx46), .unset, .unset, .unset]) rfl rfl ?_
      refine ow_lload C A46 at_160 rfl rfl ?_
      refine ow_iload C A46 at_162 rfl rfl ?_
      refine ow_i2l C A46 at_164 rfl ?_
      refine ow_ladd C A46 at_165 rfl ?_
      have hex46 := own_ex ex22 sx46 (0 + nn19) nn43 hex22 su46.2.symm ⟨by omega, by omega, by omega, by omega⟩
      obtain ⟨ex46, dex46⟩ : ∃ z, z = (ex22 + sx46.toInt64) := ⟨_, rfl⟩
      rw [← dex46] at hex46 ⊢
      refine ow_lstore C A46 at_166 (Ls' := #[.val (.int p1), .val (.int p2), .val (.int p3), .val (.ref b4), .val (.long ra19), .second, .val (.long ex46), .second, .val (.int (1 : Int32)), .val (.int pp24), .val (.int (1 : Int32)), .val (.long (own_r1 ra19 pp24)), .second, .val (.int sx46), .unset, .unset, .unset]) rfl rfl ?_
      refine ow_lload C A46 at_168 rfl rfl ?_
      refine ow_bipush C A46 at_170 (v := 8) rfl rfl ?_
      refine ow_iload C A46 at_172 rfl rfl ?_
      refine ow_imul C A46 at_174 rfl ?_
      refine ow_lshl C A46 at_175 rfl ?_
      rw [show ((own_r1 ra19 pp24) <<< (((8 : Int32) * sx46) &&& 63).toInt64) = ra43 from (own_eq64 su46.1).symm]
      refine ow_lstore C A46 at_176 (Ls' := #[.val (.int p1), .val (.int p2), .val (.int p3), .val (.ref b4), .val (.long ra43), .second, .val (.long ex46), .second, .val (.int (1 : Int32)), .val (.int pp24), .val (.int (1 : Int32)), .val (.long (own_r1 ra19 pp24)), .second, .val (.int sx46), .unset, .unset, .unset]) rfl rfl ?_
      refine ow_iload C A46 at_178 rfl rfl ?_
      refine ow_aloadN C A46 at_180 rfl rfl rfl ?_
      refine ow_callV C A46 (argsL := []) xE44 (rm_lb l Z a0 hw b4 bb15 kb15 lo43 ra43 he43 on43 bs43 ((0 + nn19) + nn43) T43.heap ⟨xE44, xL44, xR44, xH44, xO44, xB44, xN44, xV44, xU44⟩ I43 (by omega) []) tw_19 tw_20 (ow_nf hw tw_22) tw_22 tw_21 tw_2 tw_23 (by decide) all0 (by decide) (by decide) (ck' := 2) (sk' := 38) rfl rfl (by decide) (by decide) rfl (lenOf pd_4 rfl) (S := [(.int (1 : Int32))]) rfl (W := 1) (Nat.le_of_eq rfl) at_181 rfl ?_
      intro T47 v47 K47 hQ47 A47
      obtain ⟨ee47, xl47, rfl, hl47⟩ := hQ47
      rw [ee47] at A47 K47
      show OwnWP _ _ _ _ _ _ _ _ _ T47 (mkF m 184 #[.val (.int p1), .val (.int p2), .val (.int p3), .val (.ref b4), .val (.long ra43), .second, .val (.long ex46), .second, .val (.int (1 : Int32)), .val (.int pp24), .val (.int (1 : Int32)), .val (.long (own_r1 ra19 pp24)), .second, .val (.int sx46), .unset, .unset, .unset] [(.long xl47), (.int (1 : Int32))])
      refine ow_lload C A47 at_184 rfl rfl ?_
      refine ow_lcmp_ne C A47 at_186 rfl at_187 (by decide) (pcY := 194) (by decide) (pcN := 190) rfl (fun zq => absurd (own_eq64 (by omega)) zq) (fun _ => ?_)
      refine ow_iconst C A47 at_190 (v := 1) rfl rfl ?_
      refine ow_goto C A47 at_191 (by decide) (pc' := 195) (by decide) ?_
      refine ow_iand C A47 at_195 rfl ?_
      show OwnWP _ _ _ _ _ _ _ _ _ T47 (mkF m 196 #[.val (.int p1), .val (.int p2), .val (.int p3), .val (.ref b4), .val (.long ra43), .second, .val (.long ex46), .second, .val (.int (1 : Int32)), .val (.int pp24), .val (.int (1 : Int32)), .val (.long (own_r1 ra19 pp24)), .second, .val (.int sx46), .unset, .unset, .unset] [(.int (1 : Int32))])
      refine ow_istore C A47 at_196 (Ls' := #[.val (.int p1), .val (.int p2), .val (.int p3), .val (.ref b4), .val (.long ra43), .second, .val (.long ex46), .second, .val (.int (1 : Int32)), .val (.int pp24), .val (.int (1 : Int32)), .val (.long (own_r1 ra19 pp24)), .second, .val (.int sx46), .unset, .unset, .unset]) rfl rfl ?_
      refine ow_iloadN C A47 at_198 rfl rfl ?_
      refine ow_callS C A47 (argsL := [(.int p3)]) (rm_prob l Z a0 hw p3 T43.heap []) tw_29 tw_30 tw_31 tw_32 (by decide) all0 (by decide) (by decide) (ck' := 2) (sk' := 38) rfl rfl (by decide) (by decide) rfl (lenOf pd_5 rfl) (S := []) rfl (W := 0) (Nat.le_of_eq rfl) at_199 rfl ?_
      intro T48 v48 K48 hQ48 A48
      obtain ⟨ee48, pp48, rfl, hp48⟩ := hQ48
      rw [ee48] at A48 K48
      show OwnWP _ _ _ _ _ _ _ _ _ T48 (mkF m 202 #[.val (.int p1), .val (.int p2), .val (.int p3), .val (.ref b4), .val (.long ra43), .second, .val (.long ex46), .second, .val (.int (1 : Int32)), .val (.int pp24), .val (.int (1 : Int32)), .val (.long (own_r1 ra19 pp24)), .second, .val (.int sx46), .unset, .unset, .unset] [(.int pp48)])
      refine ow_istore C A48 at_202 (Ls' := #[.val (.int p1), .val (.int p2), .val (.int p3), .val (.ref b4), .val (.long ra43), .second, .val (.long ex46), .second, .val (.int (1 : Int32)), .val (.int pp48), .val (.int (1 : Int32)), .val (.long (own_r1 ra19 pp24)), .second, .val (.int sx46), .unset, .unset, .unset]) rfl rfl ?_
      refine ow_iloadN C A48 at_204 rfl rfl ?_
      refine ow_if_ge C A48 at_205 (by decide) (pcY := 212) (by decide) (pcN := 208) rfl (fun hc205 => ?_) (fun hc205 => ?_)
      · skip
        refine ow_iconst C A48 at_212 (v := 0) rfl rfl ?_
        refine ow_istore C A48 at_213 (Ls' := #[.val (.int p1), .val (.int p2), .val (.int p3), .val (.ref b4), .val (.long ra43), .second, .val (.long ex46), .second, .val (.int (1 : Int32)), .val (.int pp48), .val (.int (0 : Int32)), .val (.long (own_r1 ra19 pp24)), .second, .val (.int sx46), .unset, .unset, .unset]) rfl rfl ?_
        refine ow_aloadN C A48 at_215 rfl rfl rfl ?_
        refine ow_iload C A48 at_216 rfl rfl ?_
        refine ow_iload C A48 at_218 rfl rfl ?_
        refine ow_callV C A48 (argsL := [(.int pp48), (.int (0 : Int32))]) xE44 (rm_enc0 l Z a0 hw b4 bb15 kb15 lo43 ra43 he43 on43 bs43 pp48 ((0 + nn19) + nn43) T43.heap ⟨xE44, xL44, xR44, xH44, xO44, xB44, xN44, xV44, xU44⟩ I43 (by omega) hR43 hp48 []) tw_34 tw_35 (ow_nf hw tw_37) tw_37 tw_36 tw_2 tw_38 (by decide) (allS ows_b4 (allS (Or.inr (Nat.le_trans (ow_le A2) g15)) all0)) (by decide) (by decide) (ck' := 2) (sk' := 38) rfl rfl (by decide) (by decide) rfl (lenOf pd_6 rfl) (S := []) rfl (W := 0) (Nat.le_of_eq rfl) at_220 rfl ?_
        intro T49 v49 K49 hQ49 A49
        obtain ⟨rfl, lo49, ra49, he49, on49, bs49, nn49, O49, rl49, I49⟩ := hQ49
        show OwnWP _ _ _ _ _ _ _ _ _ T49 (mkF m 223 #[.val (.int p1), .val (.int p2), .val (.int p3), .val (.ref b4), .val (.long ra43), .second, .val (.long ex46), .second, .val (.int (1 : Int32)), .val (.int pp48), .val (.int (0 : Int32)), .val (.long (own_r1 ra19 pp24)), .second, .val (.int sx46), .unset, .unset, .unset] [])
        obtain ⟨xE50, xL50, xR50, xH50, xO50, xB50, xN50, xV50, xU50⟩ := O49
        have rb49 := own_rb0 ra43 pp48 hR43 hp48
        have ok49 := own_ok _ _ _ rl49 rb49
        have hR49 : Rok ra49 := ⟨ok49.1, ok49.2.1⟩
        have tl49 := ok49.2.2.1
        have tu49 := ok49.2.2.2
        refine ow_lload C A49 at_223 rfl rfl ?_
        refine ow_iload C A49 at_225 rfl rfl ?_
        refine ow_iload C A49 at_227 rfl rfl ?_
        refine ow_callS C A49 (argsL := [(.long ra43), (.int pp48), (.int (0 : Int32))]) (rm_raw0 l Z a0 hw ra43 pp48 T49.heap []) tw_49 tw_50 tw_31 tw_51 (by decide) all0 (by decide) (by decide) (ck' := 2) (sk' := 38) rfl rfl (by decide) (by decide) rfl (lenOf pd_7 rfl) (S := []) rfl (W := 0) (Nat.le_of_eq rfl) at_229 rfl ?_
        intro T51 v51 K51 hQ51 A51
        obtain ⟨rfl, ee51⟩ := hQ51
        rw [ee51] at A51 K51
        show OwnWP _ _ _ _ _ _ _ _ _ T51 (mkF m 232 #[.val (.int p1), .val (.int p2), .val (.int p3), .val (.ref b4), .val (.long ra43), .second, .val (.long ex46), .second, .val (.int (1 : Int32)), .val (.int pp48), .val (.int (0 : Int32)), .val (.long (own_r1 ra19 pp24)), .second, .val (.int sx46), .unset, .unset, .unset] [(.long (own_r0 ra43 pp48))])
        refine ow_lstore C A51 at_232 (Ls' := #[.val (.int p1), .val (.int p2), .val (.int p3), .val (.ref b4), .val (.long ra43), .second, .val (.long ex46), .second, .val (.int (1 : Int32)), .val (.int pp48), .val (.int (0 : Int32)), .val (.long (own_r0 ra43 pp48)), .second, .val (.int sx46), .unset, .unset, .unset]) rfl rfl ?_
        refine ow_lload C A51 at_234 rfl rfl ?_
        refine ow_callS C A51 (argsL := [(.long (own_r0 ra43 pp48))]) (rm_sft l Z a0 hw (own_r0 ra43 pp48) T49.heap rb49 []) tw_52 tw_53 tw_31 tw_54 (by decide) all0 (by decide) (by decide) (ck' := 2) (sk' := 38) rfl rfl (by decide) (by decide) rfl (lenOf pd_8 rfl) (S := []) rfl (W := 0) (Nat.le_of_eq rfl) at_236 rfl ?_
        intro T52 v52 K52 hQ52 A52
        obtain ⟨ee52, sx52, rfl, hs52⟩ := hQ52
        rw [ee52] at A52 K52
        show OwnWP _ _ _ _ _ _ _ _ _ T52 (mkF m 239 #[.val (.int p1), .val (.int p2), .val (.int p3), .val (.ref b4), .val (.long ra43), .second, .val (.long ex46), .second, .val (.int (1 : Int32)), .val (.int pp48), .val (.int (0 : Int32)), .val (.long (own_r0 ra43 pp48)), .second, .val (.int sx46), .unset, .unset, .unset] [(.int sx52)])
        have sr52 := own_s8 (own_r0 ra43 pp48) sx52 rb49 hs52
        have su52 := own_un _ _ _ _ _ rl49 sr52
        refine ow_istore C A52 at_239 (Ls' := #[.val (.int p1), .val (.int p2), .val (.int p3), .val (.ref b4), .val (.long ra43), .second, .val (.long ex46), .second, .val (.int (1 : Int32)), .val (.int pp48), .val (.int (0 : Int32)), .val (.long (own_r0 ra43 pp48)), .second, .val (.int sx52), .unset, .unset, .unset]) rfl rfl ?_
        refine ow_lload C A52 at_241 rfl rfl ?_
        refine ow_iload C A52 at_243 rfl rfl ?_
        refine ow_i2l C A52 at_245 rfl ?_
        refine ow_ladd C A52 at_246 rfl ?_
        have hex52 := own_ex ex46 sx52 ((0 + nn19) + nn43) nn49 hex46 su52.2.symm ⟨by omega, by omega, by omega, by omega⟩
        obtain ⟨ex52, dex52⟩ : ∃ z, z = (ex46 + sx52.toInt64) := ⟨_, rfl⟩
        rw [← dex52] at hex52 ⊢
        refine ow_lstore C A52 at_247 (Ls' := #[.val (.int p1), .val (.int p2), .val (.int p3), .val (.ref b4), .val (.long ra43), .second, .val (.long ex52), .second, .val (.int (1 : Int32)), .val (.int pp48), .val (.int (0 : Int32)), .val (.long (own_r0 ra43 pp48)), .second, .val (.int sx52), .unset, .unset, .unset]) rfl rfl ?_
        refine ow_lload C A52 at_249 rfl rfl ?_
        refine ow_bipush C A52 at_251 (v := 8) rfl rfl ?_
        refine ow_iload C A52 at_253 rfl rfl ?_
        refine ow_imul C A52 at_255 rfl ?_
        refine ow_lshl C A52 at_256 rfl ?_
        rw [show ((own_r0 ra43 pp48) <<< (((8 : Int32) * sx52) &&& 63).toInt64) = ra49 from (own_eq64 su52.1).symm]
        refine ow_lstore C A52 at_257 (Ls' := #[.val (.int p1), .val (.int p2), .val (.int p3), .val (.ref b4), .val (.long ra49), .second, .val (.long ex52), .second, .val (.int (1 : Int32)), .val (.int pp48), .val (.int (0 : Int32)), .val (.long (own_r0 ra43 pp48)), .second, .val (.int sx52), .unset, .unset, .unset]) rfl rfl ?_
        refine ow_aloadN C A52 at_259 rfl rfl rfl ?_
        refine ow_callV C A52 (argsL := []) xE50 (rm_lb l Z a0 hw b4 bb15 kb15 lo49 ra49 he49 on49 bs49 (((0 + nn19) + nn43) + nn49) T49.heap ⟨xE50, xL50, xR50, xH50, xO50, xB50, xN50, xV50, xU50⟩ I49 (by omega) []) tw_19 tw_20 (ow_nf hw tw_22) tw_22 tw_21 tw_2 tw_23 (by decide) all0 (by decide) (by decide) (ck' := 2) (sk' := 38) rfl rfl (by decide) (by decide) rfl (lenOf pd_4 rfl) (S := []) rfl (W := 0) (Nat.le_of_eq rfl) at_260 rfl ?_
        intro T53 v53 K53 hQ53 A53
        obtain ⟨ee53, xl53, rfl, hl53⟩ := hQ53
        rw [ee53] at A53 K53
        show OwnWP _ _ _ _ _ _ _ _ _ T53 (mkF m 263 #[.val (.int p1), .val (.int p2), .val (.int p3), .val (.ref b4), .val (.long ra49), .second, .val (.long ex52), .second, .val (.int (1 : Int32)), .val (.int pp48), .val (.int (0 : Int32)), .val (.long (own_r0 ra43 pp48)), .second, .val (.int sx52), .unset, .unset, .unset] [(.long xl53)])
        refine ow_lstore C A53 at_263 (Ls' := #[.val (.int p1), .val (.int p2), .val (.int p3), .val (.ref b4), .val (.long ra49), .second, .val (.long ex52), .second, .val (.int (1 : Int32)), .val (.int pp48), .val (.int (0 : Int32)), .val (.long (own_r0 ra43 pp48)), .second, .val (.int sx52), .val (.long xl53), .second, .unset]) rfl rfl ?_
        refine ow_iload C A53 at_265 rfl rfl ?_
        refine ow_lload C A53 at_267 rfl rfl ?_
        refine ow_lload C A53 at_269 rfl rfl ?_
        refine ow_lcmp_ne C A53 at_271 rfl at_272 (by decide) (pcY := 279) (by decide) (pcN := 275) rfl (fun zq => absurd (own_eq64 (by omega)) zq) (fun _ => ?_)
        refine ow_iconst C A53 at_275 (v := 1) rfl rfl ?_
        refine ow_goto C A53 at_276 (by decide) (pc' := 280) (by decide) ?_
        refine ow_iand C A53 at_280 rfl ?_
        show OwnWP _ _ _ _ _ _ _ _ _ T53 (mkF m 281 #[.val (.int p1), .val (.int p2), .val (.int p3), .val (.ref b4), .val (.long ra49), .second, .val (.long ex52), .second, .val (.int (1 : Int32)), .val (.int pp48), .val (.int (0 : Int32)), .val (.long (own_r0 ra43 pp48)), .second, .val (.int sx52), .val (.long xl53), .second, .unset] [(.int (1 : Int32))])
        refine ow_istore C A53 at_281 (Ls' := #[.val (.int p1), .val (.int p2), .val (.int p3), .val (.ref b4), .val (.long ra49), .second, .val (.long ex52), .second, .val (.int (1 : Int32)), .val (.int pp48), .val (.int (0 : Int32)), .val (.long (own_r0 ra43 pp48)), .second, .val (.int sx52), .val (.long xl53), .second, .unset]) rfl rfl ?_
        refine ow_aloadN C A53 at_283 rfl rfl rfl ?_
        refine ow_callV C A53 (argsL := []) xE50 (rm_fin l Z a0 hw b4 bb15 kb15 lo49 ra49 he49 on49 bs49 (((0 + nn19) + nn43) + nn49) T49.heap ⟨xE50, xL50, xR50, xH50, xO50, xB50, xN50, xV50, xU50⟩ I49 (by omega) (by omega) []) tw_60 tw_61 (ow_nf hw tw_63) tw_63 tw_62 tw_2 tw_64 (by decide) (allS ows_b4 (allS (Or.inr (Nat.le_trans (ow_le A2) g15)) all0)) (by decide) (by decide) (ck' := 3) (sk' := 70) rfl rfl (by decide) (by decide) rfl (lenOf pd_9 rfl) (S := []) rfl (W := 0) (Nat.le_of_eq rfl) at_284 rfl ?_
        intro T54 v54 K54 hQ54 A54
        obtain ⟨rr54, kr54, nr54, vr54, rfl, yR54, n054, n154⟩ := hQ54
        show OwnWP _ _ _ _ _ _ _ _ _ T54 (mkF m 287 #[.val (.int p1), .val (.int p2), .val (.int p3), .val (.ref b4), .val (.long ra49), .second, .val (.long ex52), .second, .val (.int (1 : Int32)), .val (.int pp48), .val (.int (0 : Int32)), .val (.long (own_r0 ra43 pp48)), .second, .val (.int sx52), .val (.long xl53), .second, .unset] [(.ref rr54)])
        refine ow_astore C A54 at_287 rfl (Ls' := #[.val (.int p1), .val (.int p2), .val (.int p3), .val (.ref b4), .val (.long ra49), .second, .val (.long ex52), .second, .val (.int (1 : Int32)), .val (.int pp48), .val (.int (0 : Int32)), .val (.long (own_r0 ra43 pp48)), .second, .val (.int sx52), .val (.long xl53), .second, .val (.ref rr54)]) rfl rfl ?_
        refine ow_iload C A54 at_289 rfl rfl ?_
        refine ow_aload C A54 at_291 rfl rfl rfl ?_
        refine ow_alen C A54 yR54 at_293 rfl ?_
        refine ow_i2l C A54 at_294 rfl ?_
        refine ow_lload C A54 at_295 rfl rfl ?_
        refine ow_lcmp_gt C A54 at_297 rfl at_298 (by decide) (pcY := 305) (by decide) (pcN := 301) rfl (fun zq => absurd zq (own_nlt64 (by rw [c_i2l]; omega))) (fun _ => ?_)
        refine ow_iconst C A54 at_301 (v := 1) rfl rfl ?_
        refine ow_goto C A54 at_302 (by decide) (pc' := 306) (by decide) ?_
        refine ow_iand C A54 at_306 rfl ?_
        show OwnWP _ _ _ _ _ _ _ _ _ T54 (mkF m 307 #[.val (.int p1), .val (.int p2), .val (.int p3), .val (.ref b4), .val (.long ra49), .second, .val (.long ex52), .second, .val (.int (1 : Int32)), .val (.int pp48), .val (.int (0 : Int32)), .val (.long (own_r0 ra43 pp48)), .second, .val (.int sx52), .val (.long xl53), .second, .val (.ref rr54)] [(.int (1 : Int32))])
        refine ow_istore C A54 at_307 (Ls' := #[.val (.int p1), .val (.int p2), .val (.int p3), .val (.ref b4), .val (.long ra49), .second, .val (.long ex52), .second, .val (.int (1 : Int32)), .val (.int pp48), .val (.int (0 : Int32)), .val (.long (own_r0 ra43 pp48)), .second, .val (.int sx52), .val (.long xl53), .second, .val (.ref rr54)]) rfl rfl ?_
        refine ow_iload C A54 at_309 rfl rfl ?_
        refine ow_ireturn C A54 (t := .boolean) rfl rfl (by simp) at_311 (by decide) (by decide) ?_
        exact rfl
      · skip
        refine ow_iconst C A48 at_208 (v := 1) rfl rfl ?_
        refine ow_goto C A48 at_209 (by decide) (pc' := 213) (by decide) ?_
        refine ow_istore C A48 at_213 (Ls' := #[.val (.int p1), .val (.int p2), .val (.int p3), .val (.ref b4), .val (.long ra43), .second, .val (.long ex46), .second, .val (.int (1 : Int32)), .val (.int pp48), .val (.int (1 : Int32)), .val (.long (own_r1 ra19 pp24)), .second, .val (.int sx46), .unset, .unset, .unset]) rfl rfl ?_
        refine ow_aloadN C A48 at_215 rfl rfl rfl ?_
        refine ow_iload C A48 at_216 rfl rfl ?_
        refine ow_iload C A48 at_218 rfl rfl ?_
        refine ow_callV C A48 (argsL := [(.int pp48), (.int (1 : Int32))]) xE44 (rm_enc1 l Z a0 hw b4 bb15 kb15 lo43 ra43 he43 on43 bs43 pp48 ((0 + nn19) + nn43) T43.heap ⟨xE44, xL44, xR44, xH44, xO44, xB44, xN44, xV44, xU44⟩ I43 (by omega) hR43 hp48 []) tw_34 tw_35 (ow_nf hw tw_37) tw_37 tw_36 tw_2 tw_38 (by decide) (allS ows_b4 (allS (Or.inr (Nat.le_trans (ow_le A2) g15)) all0)) (by decide) (by decide) (ck' := 2) (sk' := 38) rfl rfl (by decide) (by decide) rfl (lenOf pd_6 rfl) (S := []) rfl (W := 0) (Nat.le_of_eq rfl) at_220 rfl ?_
        intro T55 v55 K55 hQ55 A55
        obtain ⟨rfl, lo55, ra55, he55, on55, bs55, nn55, O55, rl55, I55⟩ := hQ55
        show OwnWP _ _ _ _ _ _ _ _ _ T55 (mkF m 223 #[.val (.int p1), .val (.int p2), .val (.int p3), .val (.ref b4), .val (.long ra43), .second, .val (.long ex46), .second, .val (.int (1 : Int32)), .val (.int pp48), .val (.int (1 : Int32)), .val (.long (own_r1 ra19 pp24)), .second, .val (.int sx46), .unset, .unset, .unset] [])
        obtain ⟨xE56, xL56, xR56, xH56, xO56, xB56, xN56, xV56, xU56⟩ := O55
        have rb55 := own_rb1 ra43 pp48 hR43 hp48
        have ok55 := own_ok _ _ _ rl55 rb55
        have hR55 : Rok ra55 := ⟨ok55.1, ok55.2.1⟩
        have tl55 := ok55.2.2.1
        have tu55 := ok55.2.2.2
        refine ow_lload C A55 at_223 rfl rfl ?_
        refine ow_iload C A55 at_225 rfl rfl ?_
        refine ow_iload C A55 at_227 rfl rfl ?_
        refine ow_callS C A55 (argsL := [(.long ra43), (.int pp48), (.int (1 : Int32))]) (rm_raw1 l Z a0 hw ra43 pp48 T55.heap []) tw_49 tw_50 tw_31 tw_51 (by decide) all0 (by decide) (by decide) (ck' := 2) (sk' := 38) rfl rfl (by decide) (by decide) rfl (lenOf pd_7 rfl) (S := []) rfl (W := 0) (Nat.le_of_eq rfl) at_229 rfl ?_
        intro T57 v57 K57 hQ57 A57
        obtain ⟨rfl, ee57⟩ := hQ57
        rw [ee57] at A57 K57
        show OwnWP _ _ _ _ _ _ _ _ _ T57 (mkF m 232 #[.val (.int p1), .val (.int p2), .val (.int p3), .val (.ref b4), .val (.long ra43), .second, .val (.long ex46), .second, .val (.int (1 : Int32)), .val (.int pp48), .val (.int (1 : Int32)), .val (.long (own_r1 ra19 pp24)), .second, .val (.int sx46), .unset, .unset, .unset] [(.long (own_r1 ra43 pp48))])
        refine ow_lstore C A57 at_232 (Ls' := #[.val (.int p1), .val (.int p2), .val (.int p3), .val (.ref b4), .val (.long ra43), .second, .val (.long ex46), .second, .val (.int (1 : Int32)), .val (.int pp48), .val (.int (1 : Int32)), .val (.long (own_r1 ra43 pp48)), .second, .val (.int sx46), .unset, .unset, .unset]) rfl rfl ?_
        refine ow_lload C A57 at_234 rfl rfl ?_
        refine ow_callS C A57 (argsL := [(.long (own_r1 ra43 pp48))]) (rm_sft l Z a0 hw (own_r1 ra43 pp48) T55.heap rb55 []) tw_52 tw_53 tw_31 tw_54 (by decide) all0 (by decide) (by decide) (ck' := 2) (sk' := 38) rfl rfl (by decide) (by decide) rfl (lenOf pd_8 rfl) (S := []) rfl (W := 0) (Nat.le_of_eq rfl) at_236 rfl ?_
        intro T58 v58 K58 hQ58 A58
        obtain ⟨ee58, sx58, rfl, hs58⟩ := hQ58
        rw [ee58] at A58 K58
        show OwnWP _ _ _ _ _ _ _ _ _ T58 (mkF m 239 #[.val (.int p1), .val (.int p2), .val (.int p3), .val (.ref b4), .val (.long ra43), .second, .val (.long ex46), .second, .val (.int (1 : Int32)), .val (.int pp48), .val (.int (1 : Int32)), .val (.long (own_r1 ra43 pp48)), .second, .val (.int sx46), .unset, .unset, .unset] [(.int sx58)])
        have sr58 := own_s8 (own_r1 ra43 pp48) sx58 rb55 hs58
        have su58 := own_un _ _ _ _ _ rl55 sr58
        refine ow_istore C A58 at_239 (Ls' := #[.val (.int p1), .val (.int p2), .val (.int p3), .val (.ref b4), .val (.long ra43), .second, .val (.long ex46), .second, .val (.int (1 : Int32)), .val (.int pp48), .val (.int (1 : Int32)), .val (.long (own_r1 ra43 pp48)), .second, .val (.int sx58), .unset, .unset, .unset]) rfl rfl ?_
        refine ow_lload C A58 at_241 rfl rfl ?_
        refine ow_iload C A58 at_243 rfl rfl ?_
        refine ow_i2l C A58 at_245 rfl ?_
        refine ow_ladd C A58 at_246 rfl ?_
        have hex58 := own_ex ex46 sx58 ((0 + nn19) + nn43) nn55 hex46 su58.2.symm ⟨by omega, by omega, by omega, by omega⟩
        obtain ⟨ex58, dex58⟩ : ∃ z, z = (ex46 + sx58.toInt64) := ⟨_, rfl⟩
        rw [← dex58] at hex58 ⊢
        refine ow_lstore C A58 at_247 (Ls' := #[.val (.int p1), .val (.int p2), .val (.int p3), .val (.ref b4), .val (.long ra43), .second, .val (.long ex58), .second, .val (.int (1 : Int32)), .val (.int pp48), .val (.int (1 : Int32)), .val (.long (own_r1 ra43 pp48)), .second, .val (.int sx58), .unset, .unset, .unset]) rfl rfl ?_
        refine ow_lload C A58 at_249 rfl rfl ?_
        refine ow_bipush C A58 at_251 (v := 8) rfl rfl ?_
        refine ow_iload C A58 at_253 rfl rfl ?_
        refine ow_imul C A58 at_255 rfl ?_
        refine ow_lshl C A58 at_256 rfl ?_
        rw [show ((own_r1 ra43 pp48) <<< (((8 : Int32) * sx58) &&& 63).toInt64) = ra55 from (own_eq64 su58.1).symm]
        refine ow_lstore C A58 at_257 (Ls' := #[.val (.int p1), .val (.int p2), .val (.int p3), .val (.ref b4), .val (.long ra55), .second, .val (.long ex58), .second, .val (.int (1 : Int32)), .val (.int pp48), .val (.int (1 : Int32)), .val (.long (own_r1 ra43 pp48)), .second, .val (.int sx58), .unset, .unset, .unset]) rfl rfl ?_
        refine ow_aloadN C A58 at_259 rfl rfl rfl ?_
        refine ow_callV C A58 (argsL := []) xE56 (rm_lb l Z a0 hw b4 bb15 kb15 lo55 ra55 he55 on55 bs55 (((0 + nn19) + nn43) + nn55) T55.heap ⟨xE56, xL56, xR56, xH56, xO56, xB56, xN56, xV56, xU56⟩ I55 (by omega) []) tw_19 tw_20 (ow_nf hw tw_22) tw_22 tw_21 tw_2 tw_23 (by decide) all0 (by decide) (by decide) (ck' := 2) (sk' := 38) rfl rfl (by decide) (by decide) rfl (lenOf pd_4 rfl) (S := []) rfl (W := 0) (Nat.le_of_eq rfl) at_260 rfl ?_
        intro T59 v59 K59 hQ59 A59
        obtain ⟨ee59, xl59, rfl, hl59⟩ := hQ59
        rw [ee59] at A59 K59
        show OwnWP _ _ _ _ _ _ _ _ _ T59 (mkF m 263 #[.val (.int p1), .val (.int p2), .val (.int p3), .val (.ref b4), .val (.long ra55), .second, .val (.long ex58), .second, .val (.int (1 : Int32)), .val (.int pp48), .val (.int (1 : Int32)), .val (.long (own_r1 ra43 pp48)), .second, .val (.int sx58), .unset, .unset, .unset] [(.long xl59)])
        refine ow_lstore C A59 at_263 (Ls' := #[.val (.int p1), .val (.int p2), .val (.int p3), .val (.ref b4), .val (.long ra55), .second, .val (.long ex58), .second, .val (.int (1 : Int32)), .val (.int pp48), .val (.int (1 : Int32)), .val (.long (own_r1 ra43 pp48)), .second, .val (.int sx58), .val (.long xl59), .second, .unset]) rfl rfl ?_
        refine ow_iload C A59 at_265 rfl rfl ?_
        refine ow_lload C A59 at_267 rfl rfl ?_
        refine ow_lload C A59 at_269 rfl rfl ?_
        refine ow_lcmp_ne C A59 at_271 rfl at_272 (by decide) (pcY := 279) (by decide) (pcN := 275) rfl (fun zq => absurd (own_eq64 (by omega)) zq) (fun _ => ?_)
        refine ow_iconst C A59 at_275 (v := 1) rfl rfl ?_
        refine ow_goto C A59 at_276 (by decide) (pc' := 280) (by decide) ?_
        refine ow_iand C A59 at_280 rfl ?_
        show OwnWP _ _ _ _ _ _ _ _ _ T59 (mkF m 281 #[.val (.int p1), .val (.int p2), .val (.int p3), .val (.ref b4), .val (.long ra55), .second, .val (.long ex58), .second, .val (.int (1 : Int32)), .val (.int pp48), .val (.int (1 : Int32)), .val (.long (own_r1 ra43 pp48)), .second, .val (.int sx58), .val (.long xl59), .second, .unset] [(.int (1 : Int32))])
        refine ow_istore C A59 at_281 (Ls' := #[.val (.int p1), .val (.int p2), .val (.int p3), .val (.ref b4), .val (.long ra55), .second, .val (.long ex58), .second, .val (.int (1 : Int32)), .val (.int pp48), .val (.int (1 : Int32)), .val (.long (own_r1 ra43 pp48)), .second, .val (.int sx58), .val (.long xl59), .second, .unset]) rfl rfl ?_
        refine ow_aloadN C A59 at_283 rfl rfl rfl ?_
        refine ow_callV C A59 (argsL := []) xE56 (rm_fin l Z a0 hw b4 bb15 kb15 lo55 ra55 he55 on55 bs55 (((0 + nn19) + nn43) + nn55) T55.heap ⟨xE56, xL56, xR56, xH56, xO56, xB56, xN56, xV56, xU56⟩ I55 (by omega) (by omega) []) tw_60 tw_61 (ow_nf hw tw_63) tw_63 tw_62 tw_2 tw_64 (by decide) (allS ows_b4 (allS (Or.inr (Nat.le_trans (ow_le A2) g15)) all0)) (by decide) (by decide) (ck' := 3) (sk' := 70) rfl rfl (by decide) (by decide) rfl (lenOf pd_9 rfl) (S := []) rfl (W := 0) (Nat.le_of_eq rfl) at_284 rfl ?_
        intro T60 v60 K60 hQ60 A60
        obtain ⟨rr60, kr60, nr60, vr60, rfl, yR60, n060, n160⟩ := hQ60
        show OwnWP _ _ _ _ _ _ _ _ _ T60 (mkF m 287 #[.val (.int p1), .val (.int p2), .val (.int p3), .val (.ref b4), .val (.long ra55), .second, .val (.long ex58), .second, .val (.int (1 : Int32)), .val (.int pp48), .val (.int (1 : Int32)), .val (.long (own_r1 ra43 pp48)), .second, .val (.int sx58), .val (.long xl59), .second, .unset] [(.ref rr60)])
        refine ow_astore C A60 at_287 rfl (Ls' := #[.val (.int p1), .val (.int p2), .val (.int p3), .val (.ref b4), .val (.long ra55), .second, .val (.long ex58), .second, .val (.int (1 : Int32)), .val (.int pp48), .val (.int (1 : Int32)), .val (.long (own_r1 ra43 pp48)), .second, .val (.int sx58), .val (.long xl59), .second, .val (.ref rr60)]) rfl rfl ?_
        refine ow_iload C A60 at_289 rfl rfl ?_
        refine ow_aload C A60 at_291 rfl rfl rfl ?_
        refine ow_alen C A60 yR60 at_293 rfl ?_
        refine ow_i2l C A60 at_294 rfl ?_
        refine ow_lload C A60 at_295 rfl rfl ?_
        refine ow_lcmp_gt C A60 at_297 rfl at_298 (by decide) (pcY := 305) (by decide) (pcN := 301) rfl (fun zq => absurd zq (own_nlt64 (by rw [c_i2l]; omega))) (fun _ => ?_)
        refine ow_iconst C A60 at_301 (v := 1) rfl rfl ?_
        refine ow_goto C A60 at_302 (by decide) (pc' := 306) (by decide) ?_
        refine ow_iand C A60 at_306 rfl ?_
        show OwnWP _ _ _ _ _ _ _ _ _ T60 (mkF m 307 #[.val (.int p1), .val (.int p2), .val (.int p3), .val (.ref b4), .val (.long ra55), .second, .val (.long ex58), .second, .val (.int (1 : Int32)), .val (.int pp48), .val (.int (1 : Int32)), .val (.long (own_r1 ra43 pp48)), .second, .val (.int sx58), .val (.long xl59), .second, .val (.ref rr60)] [(.int (1 : Int32))])
        refine ow_istore C A60 at_307 (Ls' := #[.val (.int p1), .val (.int p2), .val (.int p3), .val (.ref b4), .val (.long ra55), .second, .val (.long ex58), .second, .val (.int (1 : Int32)), .val (.int pp48), .val (.int (1 : Int32)), .val (.long (own_r1 ra43 pp48)), .second, .val (.int sx58), .val (.long xl59), .second, .val (.ref rr60)]) rfl rfl ?_
        refine ow_iload C A60 at_309 rfl rfl ?_
        refine ow_ireturn C A60 (t := .boolean) rfl rfl (by simp) at_311 (by decide) (by decide) ?_
        exact rfl
  · skip
    refine ow_iconst C A18 at_46 (v := 1) rfl rfl ?_
    refine ow_goto C A18 at_47 (by decide) (pc' := 51) (by decide) ?_
    refine ow_istore C A18 at_51 (Ls' := #[.val (.int p1), .val (.int p2), .val (.int p3), .val (.ref b4), .val (.long (4294967295 : Int64)), .second, .val (.long (4 : Int64)), .second, .val (.int (1 : Int32)), .val (.int pp18), .val (.int (1 : Int32)), .unset, .unset, .unset, .unset, .unset, .unset]) rfl rfl ?_
    refine ow_aloadN C A18 at_53 rfl rfl rfl ?_
    refine ow_iload C A18 at_54 rfl rfl ?_
    refine ow_iload C A18 at_56 rfl rfl ?_
    refine ow_callV C A18 (argsL := [(.int pp18), (.int (1 : Int32))]) xE16 (rm_enc1 l Z a0 hw b4 bb15 kb15 (0 : Int64) (4294967295 : Int64) (-1 : Int32) (0 : Int64) ([] : List Int32) pp18 0 T15.heap ⟨xE16, xL16, xR16, xH16, xO16, xB16, xN16, xV16, xU16⟩ I15 (by omega) hR15 hp18 []) tw_34 tw_35 (ow_nf hw tw_37) tw_37 tw_36 tw_2 tw_38 (by decide) (allS ows_b4 (allS (Or.inr (Nat.le_trans (ow_le A2) g15)) all0)) (by decide) (by decide) (ck' := 2) (sk' := 38) rfl rfl (by decide) (by decide) rfl (lenOf pd_6 rfl) (S := []) rfl (W := 0) (Nat.le_of_eq rfl) at_58 rfl ?_
    intro T61 v61 K61 hQ61 A61
    obtain ⟨rfl, lo61, ra61, he61, on61, bs61, nn61, O61, rl61, I61⟩ := hQ61
    show OwnWP _ _ _ _ _ _ _ _ _ T61 (mkF m 61 #[.val (.int p1), .val (.int p2), .val (.int p3), .val (.ref b4), .val (.long (4294967295 : Int64)), .second, .val (.long (4 : Int64)), .second, .val (.int (1 : Int32)), .val (.int pp18), .val (.int (1 : Int32)), .unset, .unset, .unset, .unset, .unset, .unset] [])
    obtain ⟨xE62, xL62, xR62, xH62, xO62, xB62, xN62, xV62, xU62⟩ := O61
    have rb61 := own_rb1 (4294967295 : Int64) pp18 hR15 hp18
    have ok61 := own_ok _ _ _ rl61 rb61
    have hR61 : Rok ra61 := ⟨ok61.1, ok61.2.1⟩
    have tl61 := ok61.2.2.1
    have tu61 := ok61.2.2.2
    refine ow_lload C A61 at_61 rfl rfl ?_
    refine ow_iload C A61 at_63 rfl rfl ?_
    refine ow_iload C A61 at_65 rfl rfl ?_
    refine ow_callS C A61 (argsL := [(.long (4294967295 : Int64)), (.int pp18), (.int (1 : Int32))]) (rm_raw1 l Z a0 hw (4294967295 : Int64) pp18 T61.heap []) tw_49 tw_50 tw_31 tw_51 (by decide) all0 (by decide) (by decide) (ck' := 2) (sk' := 38) rfl rfl (by decide) (by decide) rfl (lenOf pd_7 rfl) (S := []) rfl (W := 0) (Nat.le_of_eq rfl) at_67 rfl ?_
    intro T63 v63 K63 hQ63 A63
    obtain ⟨rfl, ee63⟩ := hQ63
    rw [ee63] at A63 K63
    show OwnWP _ _ _ _ _ _ _ _ _ T63 (mkF m 70 #[.val (.int p1), .val (.int p2), .val (.int p3), .val (.ref b4), .val (.long (4294967295 : Int64)), .second, .val (.long (4 : Int64)), .second, .val (.int (1 : Int32)), .val (.int pp18), .val (.int (1 : Int32)), .unset, .unset, .unset, .unset, .unset, .unset] [(.long (own_r1 (4294967295 : Int64) pp18))])
    refine ow_lstore C A63 at_70 (Ls' := #[.val (.int p1), .val (.int p2), .val (.int p3), .val (.ref b4), .val (.long (4294967295 : Int64)), .second, .val (.long (4 : Int64)), .second, .val (.int (1 : Int32)), .val (.int pp18), .val (.int (1 : Int32)), .val (.long (own_r1 (4294967295 : Int64) pp18)), .second, .unset, .unset, .unset, .unset]) rfl rfl ?_
    refine ow_lload C A63 at_72 rfl rfl ?_
    refine ow_callS C A63 (argsL := [(.long (own_r1 (4294967295 : Int64) pp18))]) (rm_sft l Z a0 hw (own_r1 (4294967295 : Int64) pp18) T61.heap rb61 []) tw_52 tw_53 tw_31 tw_54 (by decide) all0 (by decide) (by decide) (ck' := 2) (sk' := 38) rfl rfl (by decide) (by decide) rfl (lenOf pd_8 rfl) (S := []) rfl (W := 0) (Nat.le_of_eq rfl) at_74 rfl ?_
    intro T64 v64 K64 hQ64 A64
    obtain ⟨ee64, sx64, rfl, hs64⟩ := hQ64
    rw [ee64] at A64 K64
    show OwnWP _ _ _ _ _ _ _ _ _ T64 (mkF m 77 #[.val (.int p1), .val (.int p2), .val (.int p3), .val (.ref b4), .val (.long (4294967295 : Int64)), .second, .val (.long (4 : Int64)), .second, .val (.int (1 : Int32)), .val (.int pp18), .val (.int (1 : Int32)), .val (.long (own_r1 (4294967295 : Int64) pp18)), .second, .unset, .unset, .unset, .unset] [(.int sx64)])
    have sr64 := own_s8 (own_r1 (4294967295 : Int64) pp18) sx64 rb61 hs64
    have su64 := own_un _ _ _ _ _ rl61 sr64
    refine ow_istore C A64 at_77 (Ls' := #[.val (.int p1), .val (.int p2), .val (.int p3), .val (.ref b4), .val (.long (4294967295 : Int64)), .second, .val (.long (4 : Int64)), .second, .val (.int (1 : Int32)), .val (.int pp18), .val (.int (1 : Int32)), .val (.long (own_r1 (4294967295 : Int64) pp18)), .second, .val (.int sx64), .unset, .unset, .unset]) rfl rfl ?_
    refine ow_lload C A64 at_79 rfl rfl ?_
    refine ow_iload C A64 at_81 rfl rfl ?_
    refine ow_i2l C A64 at_83 rfl ?_
    refine ow_ladd C A64 at_84 rfl ?_
    have hex64 := own_ex (4 : Int64) sx64 0 nn61 rfl su64.2.symm ⟨by omega, by omega, by omega, by omega⟩
    obtain ⟨ex64, dex64⟩ : ∃ z, z = ((4 : Int64) + sx64.toInt64) := ⟨_, rfl⟩
    rw [← dex64] at hex64 ⊢
    refine ow_lstore C A64 at_85 (Ls' := #[.val (.int p1), .val (.int p2), .val (.int p3), .val (.ref b4), .val (.long (4294967295 : Int64)), .second, .val (.long ex64), .second, .val (.int (1 : Int32)), .val (.int pp18), .val (.int (1 : Int32)), .val (.long (own_r1 (4294967295 : Int64) pp18)), .second, .val (.int sx64), .unset, .unset, .unset]) rfl rfl ?_
    refine ow_lload C A64 at_87 rfl rfl ?_
    refine ow_bipush C A64 at_89 (v := 8) rfl rfl ?_
    refine ow_iload C A64 at_91 rfl rfl ?_
    refine ow_imul C A64 at_93 rfl ?_
    refine ow_lshl C A64 at_94 rfl ?_
    rw [show ((own_r1 (4294967295 : Int64) pp18) <<< (((8 : Int32) * sx64) &&& 63).toInt64) = ra61 from (own_eq64 su64.1).symm]
    refine ow_lstore C A64 at_95 (Ls' := #[.val (.int p1), .val (.int p2), .val (.int p3), .val (.ref b4), .val (.long ra61), .second, .val (.long ex64), .second, .val (.int (1 : Int32)), .val (.int pp18), .val (.int (1 : Int32)), .val (.long (own_r1 (4294967295 : Int64) pp18)), .second, .val (.int sx64), .unset, .unset, .unset]) rfl rfl ?_
    refine ow_iload C A64 at_97 rfl rfl ?_
    refine ow_aloadN C A64 at_99 rfl rfl rfl ?_
    refine ow_callV C A64 (argsL := []) xE62 (rm_lb l Z a0 hw b4 bb15 kb15 lo61 ra61 he61 on61 bs61 (0 + nn61) T61.heap ⟨xE62, xL62, xR62, xH62, xO62, xB62, xN62, xV62, xU62⟩ I61 (by omega) []) tw_19 tw_20 (ow_nf hw tw_22) tw_22 tw_21 tw_2 tw_23 (by decide) all0 (by decide) (by decide) (ck' := 2) (sk' := 38) rfl rfl (by decide) (by decide) rfl (lenOf pd_4 rfl) (S := [(.int (1 : Int32))]) rfl (W := 1) (Nat.le_of_eq rfl) at_100 rfl ?_
    intro T65 v65 K65 hQ65 A65
    obtain ⟨ee65, xl65, rfl, hl65⟩ := hQ65
    rw [ee65] at A65 K65
    show OwnWP _ _ _ _ _ _ _ _ _ T65 (mkF m 103 #[.val (.int p1), .val (.int p2), .val (.int p3), .val (.ref b4), .val (.long ra61), .second, .val (.long ex64), .second, .val (.int (1 : Int32)), .val (.int pp18), .val (.int (1 : Int32)), .val (.long (own_r1 (4294967295 : Int64) pp18)), .second, .val (.int sx64), .unset, .unset, .unset] [(.long xl65), (.int (1 : Int32))])
    refine ow_lload C A65 at_103 rfl rfl ?_
    refine ow_lcmp_ne C A65 at_105 rfl at_106 (by decide) (pcY := 113) (by decide) (pcN := 109) rfl (fun zq => absurd (own_eq64 (by omega)) zq) (fun _ => ?_)
    refine ow_iconst C A65 at_109 (v := 1) rfl rfl ?_
    refine ow_goto C A65 at_110 (by decide) (pc' := 114) (by decide) ?_
    refine ow_iand C A65 at_114 rfl ?_
    show OwnWP _ _ _ _ _ _ _ _ _ T65 (mkF m 115 #[.val (.int p1), .val (.int p2), .val (.int p3), .val (.ref b4), .val (.long ra61), .second, .val (.long ex64), .second, .val (.int (1 : Int32)), .val (.int pp18), .val (.int (1 : Int32)), .val (.long (own_r1 (4294967295 : Int64) pp18)), .second, .val (.int sx64), .unset, .unset, .unset] [(.int (1 : Int32))])
    refine ow_istore C A65 at_115 (Ls' := #[.val (.int p1), .val (.int p2), .val (.int p3), .val (.ref b4), .val (.long ra61), .second, .val (.long ex64), .second, .val (.int (1 : Int32)), .val (.int pp18), .val (.int (1 : Int32)), .val (.long (own_r1 (4294967295 : Int64) pp18)), .second, .val (.int sx64), .unset, .unset, .unset]) rfl rfl ?_
    refine ow_iloadN C A65 at_117 rfl rfl ?_
    refine ow_callS C A65 (argsL := [(.int p2)]) (rm_prob l Z a0 hw p2 T61.heap []) tw_29 tw_30 tw_31 tw_32 (by decide) all0 (by decide) (by decide) (ck' := 2) (sk' := 38) rfl rfl (by decide) (by decide) rfl (lenOf pd_5 rfl) (S := []) rfl (W := 0) (Nat.le_of_eq rfl) at_118 rfl ?_
    intro T66 v66 K66 hQ66 A66
    obtain ⟨ee66, pp66, rfl, hp66⟩ := hQ66
    rw [ee66] at A66 K66
    show OwnWP _ _ _ _ _ _ _ _ _ T66 (mkF m 121 #[.val (.int p1), .val (.int p2), .val (.int p3), .val (.ref b4), .val (.long ra61), .second, .val (.long ex64), .second, .val (.int (1 : Int32)), .val (.int pp18), .val (.int (1 : Int32)), .val (.long (own_r1 (4294967295 : Int64) pp18)), .second, .val (.int sx64), .unset, .unset, .unset] [(.int pp66)])
    refine ow_istore C A66 at_121 (Ls' := #[.val (.int p1), .val (.int p2), .val (.int p3), .val (.ref b4), .val (.long ra61), .second, .val (.long ex64), .second, .val (.int (1 : Int32)), .val (.int pp66), .val (.int (1 : Int32)), .val (.long (own_r1 (4294967295 : Int64) pp18)), .second, .val (.int sx64), .unset, .unset, .unset]) rfl rfl ?_
    refine ow_iloadN C A66 at_123 rfl rfl ?_
    refine ow_if_ge C A66 at_124 (by decide) (pcY := 131) (by decide) (pcN := 127) rfl (fun hc124 => ?_) (fun hc124 => ?_)
    · skip
      refine ow_iconst C A66 at_131 (v := 0) rfl rfl ?_
      refine ow_istore C A66 at_132 (Ls' := #[.val (.int p1), .val (.int p2), .val (.int p3), .val (.ref b4), .val (.long ra61), .second, .val (.long ex64), .second, .val (.int (1 : Int32)), .val (.int pp66), .val (.int (0 : Int32)), .val (.long (own_r1 (4294967295 : Int64) pp18)), .second, .val (.int sx64), .unset, .unset, .unset]) rfl rfl ?_
      refine ow_aloadN C A66 at_134 rfl rfl rfl ?_
      refine ow_iload C A66 at_135 rfl rfl ?_
      refine ow_iload C A66 at_137 rfl rfl ?_
      refine ow_callV C A66 (argsL := [(.int pp66), (.int (0 : Int32))]) xE62 (rm_enc0 l Z a0 hw b4 bb15 kb15 lo61 ra61 he61 on61 bs61 pp66 (0 + nn61) T61.heap ⟨xE62, xL62, xR62, xH62, xO62, xB62, xN62, xV62, xU62⟩ I61 (by omega) hR61 hp66 []) tw_34 tw_35 (ow_nf hw tw_37) tw_37 tw_36 tw_2 tw_38 (by decide) (allS ows_b4 (allS (Or.inr (Nat.le_trans (ow_le A2) g15)) all0)) (by decide) (by decide) (ck' := 2) (sk' := 38) rfl rfl (by decide) (by decide) rfl (lenOf pd_6 rfl) (S := []) rfl (W := 0) (Nat.le_of_eq rfl) at_139 rfl ?_
      intro T67 v67 K67 hQ67 A67
      obtain ⟨rfl, lo67, ra67, he67, on67, bs67, nn67, O67, rl67, I67⟩ := hQ67
      show OwnWP _ _ _ _ _ _ _ _ _ T67 (mkF m 142 #[.val (.int p1), .val (.int p2), .val (.int p3), .val (.ref b4), .val (.long ra61), .second, .val (.long ex64), .second, .val (.int (1 : Int32)), .val (.int pp66), .val (.int (0 : Int32)), .val (.long (own_r1 (4294967295 : Int64) pp18)), .second, .val (.int sx64), .unset, .unset, .unset] [])
      obtain ⟨xE68, xL68, xR68, xH68, xO68, xB68, xN68, xV68, xU68⟩ := O67
      have rb67 := own_rb0 ra61 pp66 hR61 hp66
      have ok67 := own_ok _ _ _ rl67 rb67
      have hR67 : Rok ra67 := ⟨ok67.1, ok67.2.1⟩
      have tl67 := ok67.2.2.1
      have tu67 := ok67.2.2.2
      refine ow_lload C A67 at_142 rfl rfl ?_
      refine ow_iload C A67 at_144 rfl rfl ?_
      refine ow_iload C A67 at_146 rfl rfl ?_
      refine ow_callS C A67 (argsL := [(.long ra61), (.int pp66), (.int (0 : Int32))]) (rm_raw0 l Z a0 hw ra61 pp66 T67.heap []) tw_49 tw_50 tw_31 tw_51 (by decide) all0 (by decide) (by decide) (ck' := 2) (sk' := 38) rfl rfl (by decide) (by decide) rfl (lenOf pd_7 rfl) (S := []) rfl (W := 0) (Nat.le_of_eq rfl) at_148 rfl ?_
      intro T69 v69 K69 hQ69 A69
      obtain ⟨rfl, ee69⟩ := hQ69
      rw [ee69] at A69 K69
      show OwnWP _ _ _ _ _ _ _ _ _ T69 (mkF m 151 #[.val (.int p1), .val (.int p2), .val (.int p3), .val (.ref b4), .val (.long ra61), .second, .val (.long ex64), .second, .val (.int (1 : Int32)), .val (.int pp66), .val (.int (0 : Int32)), .val (.long (own_r1 (4294967295 : Int64) pp18)), .second, .val (.int sx64), .unset, .unset, .unset] [(.long (own_r0 ra61 pp66))])
      refine ow_lstore C A69 at_151 (Ls' := #[.val (.int p1), .val (.int p2), .val (.int p3), .val (.ref b4), .val (.long ra61), .second, .val (.long ex64), .second, .val (.int (1 : Int32)), .val (.int pp66), .val (.int (0 : Int32)), .val (.long (own_r0 ra61 pp66)), .second, .val (.int sx64), .unset, .unset, .unset]) rfl rfl ?_
      refine ow_lload C A69 at_153 rfl rfl ?_
      refine ow_callS C A69 (argsL := [(.long (own_r0 ra61 pp66))]) (rm_sft l Z a0 hw (own_r0 ra61 pp66) T67.heap rb67 []) tw_52 tw_53 tw_31 tw_54 (by decide) all0 (by decide) (by decide) (ck' := 2) (sk' := 38) rfl rfl (by decide) (by decide) rfl (lenOf pd_8 rfl) (S := []) rfl (W := 0) (Nat.le_of_eq rfl) at_155 rfl ?_
      intro T70 v70 K70 hQ70 A70
      obtain ⟨ee70, sx70, rfl, hs70⟩ := hQ70
      rw [ee70] at A70 K70
      show OwnWP _ _ _ _ _ _ _ _ _ T70 (mkF m 158 #[.val (.int p1), .val (.int p2), .val (.int p3), .val (.ref b4), .val (.long ra61), .second, .val (.long ex64), .second, .val (.int (1 : Int32)), .val (.int pp66), .val (.int (0 : Int32)), .val (.long (own_r0 ra61 pp66)), .second, .val (.int sx64), .unset, .unset, .unset] [(.int sx70)])
      have sr70 := own_s8 (own_r0 ra61 pp66) sx70 rb67 hs70
      have su70 := own_un _ _ _ _ _ rl67 sr70
      refine ow_istore C A70 at_158 (Ls' := #[.val (.int p1), .val (.int p2), .val (.int p3), .val (.ref b4), .val (.long ra61), .second, .val (.long ex64), .second, .val (.int (1 : Int32)), .val (.int pp66), .val (.int (0 : Int32)), .val (.long (own_r0 ra61 pp66)), .second, .val (.int sx70), .unset, .unset, .unset]) rfl rfl ?_
      refine ow_lload C A70 at_160 rfl rfl ?_
      refine ow_iload C A70 at_162 rfl rfl ?_
      refine ow_i2l C A70 at_164 rfl ?_
      refine ow_ladd C A70 at_165 rfl ?_
      have hex70 := own_ex ex64 sx70 (0 + nn61) nn67 hex64 su70.2.symm ⟨by omega, by omega, by omega, by omega⟩
      obtain ⟨ex70, dex70⟩ : ∃ z, z = (ex64 + sx70.toInt64) := ⟨_, rfl⟩
      rw [← dex70] at hex70 ⊢
      refine ow_lstore C A70 at_166 (Ls' := #[.val (.int p1), .val (.int p2), .val (.int p3), .val (.ref b4), .val (.long ra61), .second, .val (.long ex70), .second, .val (.int (1 : Int32)), .val (.int pp66), .val (.int (0 : Int32)), .val (.long (own_r0 ra61 pp66)), .second, .val (.int sx70), .unset, .unset, .unset]) rfl rfl ?_
      refine ow_lload C A70 at_168 rfl rfl ?_
      refine ow_bipush C A70 at_170 (v := 8) rfl rfl ?_
      refine ow_iload C A70 at_172 rfl rfl ?_
      refine ow_imul C A70 at_174 rfl ?_
      refine ow_lshl C A70 at_175 rfl ?_
      rw [show ((own_r0 ra61 pp66) <<< (((8 : Int32) * sx70) &&& 63).toInt64) = ra67 from (own_eq64 su70.1).symm]
      refine ow_lstore C A70 at_176 (Ls' := #[.val (.int p1), .val (.int p2), .val (.int p3), .val (.ref b4), .val (.long ra67), .second, .val (.long ex70), .second, .val (.int (1 : Int32)), .val (.int pp66), .val (.int (0 : Int32)), .val (.long (own_r0 ra61 pp66)), .second, .val (.int sx70), .unset, .unset, .unset]) rfl rfl ?_
      refine ow_iload C A70 at_178 rfl rfl ?_
      refine ow_aloadN C A70 at_180 rfl rfl rfl ?_
      refine ow_callV C A70 (argsL := []) xE68 (rm_lb l Z a0 hw b4 bb15 kb15 lo67 ra67 he67 on67 bs67 ((0 + nn61) + nn67) T67.heap ⟨xE68, xL68, xR68, xH68, xO68, xB68, xN68, xV68, xU68⟩ I67 (by omega) []) tw_19 tw_20 (ow_nf hw tw_22) tw_22 tw_21 tw_2 tw_23 (by decide) all0 (by decide) (by decide) (ck' := 2) (sk' := 38) rfl rfl (by decide) (by decide) rfl (lenOf pd_4 rfl) (S := [(.int (1 : Int32))]) rfl (W := 1) (Nat.le_of_eq rfl) at_181 rfl ?_
      intro T71 v71 K71 hQ71 A71
      obtain ⟨ee71, xl71, rfl, hl71⟩ := hQ71
      rw [ee71] at A71 K71
      show OwnWP _ _ _ _ _ _ _ _ _ T71 (mkF m 184 #[.val (.int p1), .val (.int p2), .val (.int p3), .val (.ref b4), .val (.long ra67), .second, .val (.long ex70), .second, .val (.int (1 : Int32)), .val (.int pp66), .val (.int (0 : Int32)), .val (.long (own_r0 ra61 pp66)), .second, .val (.int sx70), .unset, .unset, .unset] [(.long xl71), (.int (1 : Int32))])
      refine ow_lload C A71 at_184 rfl rfl ?_
      refine ow_lcmp_ne C A71 at_186 rfl at_187 (by decide) (pcY := 194) (by decide) (pcN := 190) rfl (fun zq => absurd (own_eq64 (by omega)) zq) (fun _ => ?_)
      refine ow_iconst C A71 at_190 (v := 1) rfl rfl ?_
      refine ow_goto C A71 at_191 (by decide) (pc' := 195) (by decide) ?_
      refine ow_iand C A71 at_195 rfl ?_
      show OwnWP _ _ _ _ _ _ _ _ _ T71 (mkF m 196 #[.val (.int p1), .val (.int p2), .val (.int p3), .val (.ref b4), .val (.long ra67), .second, .val (.long ex70), .second, .val (.int (1 : Int32)), .val (.int pp66), .val (.int (0 : Int32)), .val (.long (own_r0 ra61 pp66)), .second, .val (.int sx70), .unset, .unset, .unset] [(.int (1 : Int32))])
      refine ow_istore C A71 at_196 (Ls' := #[.val (.int p1), .val (.int p2), .val (.int p3), .val (.ref b4), .val (.long ra67), .second, .val (.long ex70), .second, .val (.int (1 : Int32)), .val (.int pp66), .val (.int (0 : Int32)), .val (.long (own_r0 ra61 pp66)), .second, .val (.int sx70), .unset, .unset, .unset]) rfl rfl ?_
      refine ow_iloadN C A71 at_198 rfl rfl ?_
      refine ow_callS C A71 (argsL := [(.int p3)]) (rm_prob l Z a0 hw p3 T67.heap []) tw_29 tw_30 tw_31 tw_32 (by decide) all0 (by decide) (by decide) (ck' := 2) (sk' := 38) rfl rfl (by decide) (by decide) rfl (lenOf pd_5 rfl) (S := []) rfl (W := 0) (Nat.le_of_eq rfl) at_199 rfl ?_
      intro T72 v72 K72 hQ72 A72
      obtain ⟨ee72, pp72, rfl, hp72⟩ := hQ72
      rw [ee72] at A72 K72
      show OwnWP _ _ _ _ _ _ _ _ _ T72 (mkF m 202 #[.val (.int p1), .val (.int p2), .val (.int p3), .val (.ref b4), .val (.long ra67), .second, .val (.long ex70), .second, .val (.int (1 : Int32)), .val (.int pp66), .val (.int (0 : Int32)), .val (.long (own_r0 ra61 pp66)), .second, .val (.int sx70), .unset, .unset, .unset] [(.int pp72)])
      refine ow_istore C A72 at_202 (Ls' := #[.val (.int p1), .val (.int p2), .val (.int p3), .val (.ref b4), .val (.long ra67), .second, .val (.long ex70), .second, .val (.int (1 : Int32)), .val (.int pp72), .val (.int (0 : Int32)), .val (.long (own_r0 ra61 pp66)), .second, .val (.int sx70), .unset, .unset, .unset]) rfl rfl ?_
      refine ow_iloadN C A72 at_204 rfl rfl ?_
      refine ow_if_ge C A72 at_205 (by decide) (pcY := 212) (by decide) (pcN := 208) rfl (fun hc205 => ?_) (fun hc205 => ?_)
      · skip
        refine ow_iconst C A72 at_212 (v := 0) rfl rfl ?_
        refine ow_istore C A72 at_213 (Ls' := #[.val (.int p1), .val (.int p2), .val (.int p3), .val (.ref b4), .val (.long ra67), .second, .val (.long ex70), .second, .val (.int (1 : Int32)), .val (.int pp72), .val (.int (0 : Int32)), .val (.long (own_r0 ra61 pp66)), .second, .val (.int sx70), .unset, .unset, .unset]) rfl rfl ?_
        refine ow_aloadN C A72 at_215 rfl rfl rfl ?_
        refine ow_iload C A72 at_216 rfl rfl ?_
        refine ow_iload C A72 at_218 rfl rfl ?_
        refine ow_callV C A72 (argsL := [(.int pp72), (.int (0 : Int32))]) xE68 (rm_enc0 l Z a0 hw b4 bb15 kb15 lo67 ra67 he67 on67 bs67 pp72 ((0 + nn61) + nn67) T67.heap ⟨xE68, xL68, xR68, xH68, xO68, xB68, xN68, xV68, xU68⟩ I67 (by omega) hR67 hp72 []) tw_34 tw_35 (ow_nf hw tw_37) tw_37 tw_36 tw_2 tw_38 (by decide) (allS ows_b4 (allS (Or.inr (Nat.le_trans (ow_le A2) g15)) all0)) (by decide) (by decide) (ck' := 2) (sk' := 38) rfl rfl (by decide) (by decide) rfl (lenOf pd_6 rfl) (S := []) rfl (W := 0) (Nat.le_of_eq rfl) at_220 rfl ?_
        intro T73 v73 K73 hQ73 A73
        obtain ⟨rfl, lo73, ra73, he73, on73, bs73, nn73, O73, rl73, I73⟩ := hQ73
        show OwnWP _ _ _ _ _ _ _ _ _ T73 (mkF m 223 #[.val (.int p1), .val (.int p2), .val (.int p3), .val (.ref b4), .val (.long ra67), .second, .val (.long ex70), .second, .val (.int (1 : Int32)), .val (.int pp72), .val (.int (0 : Int32)), .val (.long (own_r0 ra61 pp66)), .second, .val (.int sx70), .unset, .unset, .unset] [])
        obtain ⟨xE74, xL74, xR74, xH74, xO74, xB74, xN74, xV74, xU74⟩ := O73
        have rb73 := own_rb0 ra67 pp72 hR67 hp72
        have ok73 := own_ok _ _ _ rl73 rb73
        have hR73 : Rok ra73 := ⟨ok73.1, ok73.2.1⟩
        have tl73 := ok73.2.2.1
        have tu73 := ok73.2.2.2
        refine ow_lload C A73 at_223 rfl rfl ?_
        refine ow_iload C A73 at_225 rfl rfl ?_
        refine ow_iload C A73 at_227 rfl rfl ?_
        refine ow_callS C A73 (argsL := [(.long ra67), (.int pp72), (.int (0 : Int32))]) (rm_raw0 l Z a0 hw ra67 pp72 T73.heap []) tw_49 tw_50 tw_31 tw_51 (by decide) all0 (by decide) (by decide) (ck' := 2) (sk' := 38) rfl rfl (by decide) (by decide) rfl (lenOf pd_7 rfl) (S := []) rfl (W := 0) (Nat.le_of_eq rfl) at_229 rfl ?_
        intro T75 v75 K75 hQ75 A75
        obtain ⟨rfl, ee75⟩ := hQ75
        rw [ee75] at A75 K75
        show OwnWP _ _ _ _ _ _ _ _ _ T75 (mkF m 232 #[.val (.int p1), .val (.int p2), .val (.int p3), .val (.ref b4), .val (.long ra67), .second, .val (.long ex70), .second, .val (.int (1 : Int32)), .val (.int pp72), .val (.int (0 : Int32)), .val (.long (own_r0 ra61 pp66)), .second, .val (.int sx70), .unset, .unset, .unset] [(.long (own_r0 ra67 pp72))])
        refine ow_lstore C A75 at_232 (Ls' := #[.val (.int p1), .val (.int p2), .val (.int p3), .val (.ref b4), .val (.long ra67), .second, .val (.long ex70), .second, .val (.int (1 : Int32)), .val (.int pp72), .val (.int (0 : Int32)), .val (.long (own_r0 ra67 pp72)), .second, .val (.int sx70), .unset, .unset, .unset]) rfl rfl ?_
        refine ow_lload C A75 at_234 rfl rfl ?_
        refine ow_callS C A75 (argsL := [(.long (own_r0 ra67 pp72))]) (rm_sft l Z a0 hw (own_r0 ra67 pp72) T73.heap rb73 []) tw_52 tw_53 tw_31 tw_54 (by decide) all0 (by decide) (by decide) (ck' := 2) (sk' := 38) rfl rfl (by decide) (by decide) rfl (lenOf pd_8 rfl) (S := []) rfl (W := 0) (Nat.le_of_eq rfl) at_236 rfl ?_
        intro T76 v76 K76 hQ76 A76
        obtain ⟨ee76, sx76, rfl, hs76⟩ := hQ76
        rw [ee76] at A76 K76
        show OwnWP _ _ _ _ _ _ _ _ _ T76 (mkF m 239 #[.val (.int p1), .val (.int p2), .val (.int p3), .val (.ref b4), .val (.long ra67), .second, .val (.long ex70), .second, .val (.int (1 : Int32)), .val (.int pp72), .val (.int (0 : Int32)), .val (.long (own_r0 ra67 pp72)), .second, .val (.int sx70), .unset, .unset, .unset] [(.int sx76)])
        have sr76 := own_s8 (own_r0 ra67 pp72) sx76 rb73 hs76
        have su76 := own_un _ _ _ _ _ rl73 sr76
        refine ow_istore C A76 at_239 (Ls' := #[.val (.int p1), .val (.int p2), .val (.int p3), .val (.ref b4), .val (.long ra67), .second, .val (.long ex70), .second, .val (.int (1 : Int32)), .val (.int pp72), .val (.int (0 : Int32)), .val (.long (own_r0 ra67 pp72)), .second, .val (.int sx76), .unset, .unset, .unset]) rfl rfl ?_
        refine ow_lload C A76 at_241 rfl rfl ?_
        refine ow_iload C A76 at_243 rfl rfl ?_
        refine ow_i2l C A76 at_245 rfl ?_
        refine ow_ladd C A76 at_246 rfl ?_
        have hex76 := own_ex ex70 sx76 ((0 + nn61) + nn67) nn73 hex70 su76.2.symm ⟨by omega, by omega, by omega, by omega⟩
        obtain ⟨ex76, dex76⟩ : ∃ z, z = (ex70 + sx76.toInt64) := ⟨_, rfl⟩
        rw [← dex76] at hex76 ⊢
        refine ow_lstore C A76 at_247 (Ls' := #[.val (.int p1), .val (.int p2), .val (.int p3), .val (.ref b4), .val (.long ra67), .second, .val (.long ex76), .second, .val (.int (1 : Int32)), .val (.int pp72), .val (.int (0 : Int32)), .val (.long (own_r0 ra67 pp72)), .second, .val (.int sx76), .unset, .unset, .unset]) rfl rfl ?_
        refine ow_lload C A76 at_249 rfl rfl ?_
        refine ow_bipush C A76 at_251 (v := 8) rfl rfl ?_
        refine ow_iload C A76 at_253 rfl rfl ?_
        refine ow_imul C A76 at_255 rfl ?_
        refine ow_lshl C A76 at_256 rfl ?_
        rw [show ((own_r0 ra67 pp72) <<< (((8 : Int32) * sx76) &&& 63).toInt64) = ra73 from (own_eq64 su76.1).symm]
        refine ow_lstore C A76 at_257 (Ls' := #[.val (.int p1), .val (.int p2), .val (.int p3), .val (.ref b4), .val (.long ra73), .second, .val (.long ex76), .second, .val (.int (1 : Int32)), .val (.int pp72), .val (.int (0 : Int32)), .val (.long (own_r0 ra67 pp72)), .second, .val (.int sx76), .unset, .unset, .unset]) rfl rfl ?_
        refine ow_aloadN C A76 at_259 rfl rfl rfl ?_
        refine ow_callV C A76 (argsL := []) xE74 (rm_lb l Z a0 hw b4 bb15 kb15 lo73 ra73 he73 on73 bs73 (((0 + nn61) + nn67) + nn73) T73.heap ⟨xE74, xL74, xR74, xH74, xO74, xB74, xN74, xV74, xU74⟩ I73 (by omega) []) tw_19 tw_20 (ow_nf hw tw_22) tw_22 tw_21 tw_2 tw_23 (by decide) all0 (by decide) (by decide) (ck' := 2) (sk' := 38) rfl rfl (by decide) (by decide) rfl (lenOf pd_4 rfl) (S := []) rfl (W := 0) (Nat.le_of_eq rfl) at_260 rfl ?_
        intro T77 v77 K77 hQ77 A77
        obtain ⟨ee77, xl77, rfl, hl77⟩ := hQ77
        rw [ee77] at A77 K77
        show OwnWP _ _ _ _ _ _ _ _ _ T77 (mkF m 263 #[.val (.int p1), .val (.int p2), .val (.int p3), .val (.ref b4), .val (.long ra73), .second, .val (.long ex76), .second, .val (.int (1 : Int32)), .val (.int pp72), .val (.int (0 : Int32)), .val (.long (own_r0 ra67 pp72)), .second, .val (.int sx76), .unset, .unset, .unset] [(.long xl77)])
        refine ow_lstore C A77 at_263 (Ls' := #[.val (.int p1), .val (.int p2), .val (.int p3), .val (.ref b4), .val (.long ra73), .second, .val (.long ex76), .second, .val (.int (1 : Int32)), .val (.int pp72), .val (.int (0 : Int32)), .val (.long (own_r0 ra67 pp72)), .second, .val (.int sx76), .val (.long xl77), .second, .unset]) rfl rfl ?_
        refine ow_iload C A77 at_265 rfl rfl ?_
        refine ow_lload C A77 at_267 rfl rfl ?_
        refine ow_lload C A77 at_269 rfl rfl ?_
        refine ow_lcmp_ne C A77 at_271 rfl at_272 (by decide) (pcY := 279) (by decide) (pcN := 275) rfl (fun zq => absurd (own_eq64 (by omega)) zq) (fun _ => ?_)
        refine ow_iconst C A77 at_275 (v := 1) rfl rfl ?_
        refine ow_goto C A77 at_276 (by decide) (pc' := 280) (by decide) ?_
        refine ow_iand C A77 at_280 rfl ?_
        show OwnWP _ _ _ _ _ _ _ _ _ T77 (mkF m 281 #[.val (.int p1), .val (.int p2), .val (.int p3), .val (.ref b4), .val (.long ra73), .second, .val (.long ex76), .second, .val (.int (1 : Int32)), .val (.int pp72), .val (.int (0 : Int32)), .val (.long (own_r0 ra67 pp72)), .second, .val (.int sx76), .val (.long xl77), .second, .unset] [(.int (1 : Int32))])
        refine ow_istore C A77 at_281 (Ls' := #[.val (.int p1), .val (.int p2), .val (.int p3), .val (.ref b4), .val (.long ra73), .second, .val (.long ex76), .second, .val (.int (1 : Int32)), .val (.int pp72), .val (.int (0 : Int32)), .val (.long (own_r0 ra67 pp72)), .second, .val (.int sx76), .val (.long xl77), .second, .unset]) rfl rfl ?_
        refine ow_aloadN C A77 at_283 rfl rfl rfl ?_
        refine ow_callV C A77 (argsL := []) xE74 (rm_fin l Z a0 hw b4 bb15 kb15 lo73 ra73 he73 on73 bs73 (((0 + nn61) + nn67) + nn73) T73.heap ⟨xE74, xL74, xR74, xH74, xO74, xB74, xN74, xV74, xU74⟩ I73 (by omega) (by omega) []) tw_60 tw_61 (ow_nf hw tw_63) tw_63 tw_62 tw_2 tw_64 (by decide) (allS ows_b4 (allS (Or.inr (Nat.le_trans (ow_le A2) g15)) all0)) (by decide) (by decide) (ck' := 3) (sk' := 70) rfl rfl (by decide) (by decide) rfl (lenOf pd_9 rfl) (S := []) rfl (W := 0) (Nat.le_of_eq rfl) at_284 rfl ?_
        intro T78 v78 K78 hQ78 A78
        obtain ⟨rr78, kr78, nr78, vr78, rfl, yR78, n078, n178⟩ := hQ78
        show OwnWP _ _ _ _ _ _ _ _ _ T78 (mkF m 287 #[.val (.int p1), .val (.int p2), .val (.int p3), .val (.ref b4), .val (.long ra73), .second, .val (.long ex76), .second, .val (.int (1 : Int32)), .val (.int pp72), .val (.int (0 : Int32)), .val (.long (own_r0 ra67 pp72)), .second, .val (.int sx76), .val (.long xl77), .second, .unset] [(.ref rr78)])
        refine ow_astore C A78 at_287 rfl (Ls' := #[.val (.int p1), .val (.int p2), .val (.int p3), .val (.ref b4), .val (.long ra73), .second, .val (.long ex76), .second, .val (.int (1 : Int32)), .val (.int pp72), .val (.int (0 : Int32)), .val (.long (own_r0 ra67 pp72)), .second, .val (.int sx76), .val (.long xl77), .second, .val (.ref rr78)]) rfl rfl ?_
        refine ow_iload C A78 at_289 rfl rfl ?_
        refine ow_aload C A78 at_291 rfl rfl rfl ?_
        refine ow_alen C A78 yR78 at_293 rfl ?_
        refine ow_i2l C A78 at_294 rfl ?_
        refine ow_lload C A78 at_295 rfl rfl ?_
        refine ow_lcmp_gt C A78 at_297 rfl at_298 (by decide) (pcY := 305) (by decide) (pcN := 301) rfl (fun zq => absurd zq (own_nlt64 (by rw [c_i2l]; omega))) (fun _ => ?_)
        refine ow_iconst C A78 at_301 (v := 1) rfl rfl ?_
        refine ow_goto C A78 at_302 (by decide) (pc' := 306) (by decide) ?_
        refine ow_iand C A78 at_306 rfl ?_
        show OwnWP _ _ _ _ _ _ _ _ _ T78 (mkF m 307 #[.val (.int p1), .val (.int p2), .val (.int p3), .val (.ref b4), .val (.long ra73), .second, .val (.long ex76), .second, .val (.int (1 : Int32)), .val (.int pp72), .val (.int (0 : Int32)), .val (.long (own_r0 ra67 pp72)), .second, .val (.int sx76), .val (.long xl77), .second, .val (.ref rr78)] [(.int (1 : Int32))])
        refine ow_istore C A78 at_307 (Ls' := #[.val (.int p1), .val (.int p2), .val (.int p3), .val (.ref b4), .val (.long ra73), .second, .val (.long ex76), .second, .val (.int (1 : Int32)), .val (.int pp72), .val (.int (0 : Int32)), .val (.long (own_r0 ra67 pp72)), .second, .val (.int sx76), .val (.long xl77), .second, .val (.ref rr78)]) rfl rfl ?_
        refine ow_iload C A78 at_309 rfl rfl ?_
        refine ow_ireturn C A78 (t := .boolean) rfl rfl (by simp) at_311 (by decide) (by decide) ?_
        exact rfl
      · skip
        refine ow_iconst C A72 at_208 (v := 1) rfl rfl ?_
        refine ow_goto C A72 at_209 (by decide) (pc' := 213) (by decide) ?_
        refine ow_istore C A72 at_213 (Ls' := #[.val (.int p1), .val (.int p2), .val (.int p3), .val (.ref b4), .val (.long ra67), .second, .val (.long ex70), .second, .val (.int (1 : Int32)), .val (.int pp72), .val (.int (1 : Int32)), .val (.long (own_r0 ra61 pp66)), .second, .val (.int sx70), .unset, .unset, .unset]) rfl rfl ?_
        refine ow_aloadN C A72 at_215 rfl rfl rfl ?_
        refine ow_iload C A72 at_216 rfl rfl ?_
        refine ow_iload C A72 at_218 rfl rfl ?_
        refine ow_callV C A72 (argsL := [(.int pp72), (.int (1 : Int32))]) xE68 (rm_enc1 l Z a0 hw b4 bb15 kb15 lo67 ra67 he67 on67 bs67 pp72 ((0 + nn61) + nn67) T67.heap ⟨xE68, xL68, xR68, xH68, xO68, xB68, xN68, xV68, xU68⟩ I67 (by omega) hR67 hp72 []) tw_34 tw_35 (ow_nf hw tw_37) tw_37 tw_36 tw_2 tw_38 (by decide) (allS ows_b4 (allS (Or.inr (Nat.le_trans (ow_le A2) g15)) all0)) (by decide) (by decide) (ck' := 2) (sk' := 38) rfl rfl (by decide) (by decide) rfl (lenOf pd_6 rfl) (S := []) rfl (W := 0) (Nat.le_of_eq rfl) at_220 rfl ?_
        intro T79 v79 K79 hQ79 A79
        obtain ⟨rfl, lo79, ra79, he79, on79, bs79, nn79, O79, rl79, I79⟩ := hQ79
        show OwnWP _ _ _ _ _ _ _ _ _ T79 (mkF m 223 #[.val (.int p1), .val (.int p2), .val (.int p3), .val (.ref b4), .val (.long ra67), .second, .val (.long ex70), .second, .val (.int (1 : Int32)), .val (.int pp72), .val (.int (1 : Int32)), .val (.long (own_r0 ra61 pp66)), .second, .val (.int sx70), .unset, .unset, .unset] [])
        obtain ⟨xE80, xL80, xR80, xH80, xO80, xB80, xN80, xV80, xU80⟩ := O79
        have rb79 := own_rb1 ra67 pp72 hR67 hp72
        have ok79 := own_ok _ _ _ rl79 rb79
        have hR79 : Rok ra79 := ⟨ok79.1, ok79.2.1⟩
        have tl79 := ok79.2.2.1
        have tu79 := ok79.2.2.2
        refine ow_lload C A79 at_223 rfl rfl ?_
        refine ow_iload C A79 at_225 rfl rfl ?_
        refine ow_iload C A79 at_227 rfl rfl ?_
        refine ow_callS C A79 (argsL := [(.long ra67), (.int pp72), (.int (1 : Int32))]) (rm_raw1 l Z a0 hw ra67 pp72 T79.heap []) tw_49 tw_50 tw_31 tw_51 (by decide) all0 (by decide) (by decide) (ck' := 2) (sk' := 38) rfl rfl (by decide) (by decide) rfl (lenOf pd_7 rfl) (S := []) rfl (W := 0) (Nat.le_of_eq rfl) at_229 rfl ?_
        intro T81 v81 K81 hQ81 A81
        obtain ⟨rfl, ee81⟩ := hQ81
        rw [ee81] at A81 K81
        show OwnWP _ _ _ _ _ _ _ _ _ T81 (mkF m 232 #[.val (.int p1), .val (.int p2), .val (.int p3), .val (.ref b4), .val (.long ra67), .second, .val (.long ex70), .second, .val (.int (1 : Int32)), .val (.int pp72), .val (.int (1 : Int32)), .val (.long (own_r0 ra61 pp66)), .second, .val (.int sx70), .unset, .unset, .unset] [(.long (own_r1 ra67 pp72))])
        refine ow_lstore C A81 at_232 (Ls' := #[.val (.int p1), .val (.int p2), .val (.int p3), .val (.ref b4), .val (.long ra67), .second, .val (.long ex70), .second, .val (.int (1 : Int32)), .val (.int pp72), .val (.int (1 : Int32)), .val (.long (own_r1 ra67 pp72)), .second, .val (.int sx70), .unset, .unset, .unset]) rfl rfl ?_
        refine ow_lload C A81 at_234 rfl rfl ?_
        refine ow_callS C A81 (argsL := [(.long (own_r1 ra67 pp72))]) (rm_sft l Z a0 hw (own_r1 ra67 pp72) T79.heap rb79 []) tw_52 tw_53 tw_31 tw_54 (by decide) all0 (by decide) (by decide) (ck' := 2) (sk' := 38) rfl rfl (by decide) (by decide) rfl (lenOf pd_8 rfl) (S := []) rfl (W := 0) (Nat.le_of_eq rfl) at_236 rfl ?_
        intro T82 v82 K82 hQ82 A82
        obtain ⟨ee82, sx82, rfl, hs82⟩ := hQ82
        rw [ee82] at A82 K82
        show OwnWP _ _ _ _ _ _ _ _ _ T82 (mkF m 239 #[.val (.int p1), .val (.int p2), .val (.int p3), .val (.ref b4), .val (.long ra67), .second, .val (.long ex70), .second, .val (.int (1 : Int32)), .val (.int pp72), .val (.int (1 : Int32)), .val (.long (own_r1 ra67 pp72)), .second, .val (.int sx70), .unset, .unset, .unset] [(.int sx82)])
        have sr82 := own_s8 (own_r1 ra67 pp72) sx82 rb79 hs82
        have su82 := own_un _ _ _ _ _ rl79 sr82
        refine ow_istore C A82 at_239 (Ls' := #[.val (.int p1), .val (.int p2), .val (.int p3), .val (.ref b4), .val (.long ra67), .second, .val (.long ex70), .second, .val (.int (1 : Int32)), .val (.int pp72), .val (.int (1 : Int32)), .val (.long (own_r1 ra67 pp72)), .second, .val (.int sx82), .unset, .unset, .unset]) rfl rfl ?_
        refine ow_lload C A82 at_241 rfl rfl ?_
        refine ow_iload C A82 at_243 rfl rfl ?_
        refine ow_i2l C A82 at_245 rfl ?_
        refine ow_ladd C A82 at_246 rfl ?_
        have hex82 := own_ex ex70 sx82 ((0 + nn61) + nn67) nn79 hex70 su82.2.symm ⟨by omega, by omega, by omega, by omega⟩
        obtain ⟨ex82, dex82⟩ : ∃ z, z = (ex70 + sx82.toInt64) := ⟨_, rfl⟩
        rw [← dex82] at hex82 ⊢
        refine ow_lstore C A82 at_247 (Ls' := #[.val (.int p1), .val (.int p2), .val (.int p3), .val (.ref b4), .val (.long ra67), .second, .val (.long ex82), .second, .val (.int (1 : Int32)), .val (.int pp72), .val (.int (1 : Int32)), .val (.long (own_r1 ra67 pp72)), .second, .val (.int sx82), .unset, .unset, .unset]) rfl rfl ?_
        refine ow_lload C A82 at_249 rfl rfl ?_
        refine ow_bipush C A82 at_251 (v := 8) rfl rfl ?_
        refine ow_iload C A82 at_253 rfl rfl ?_
        refine ow_imul C A82 at_255 rfl ?_
        refine ow_lshl C A82 at_256 rfl ?_
        rw [show ((own_r1 ra67 pp72) <<< (((8 : Int32) * sx82) &&& 63).toInt64) = ra79 from (own_eq64 su82.1).symm]
        refine ow_lstore C A82 at_257 (Ls' := #[.val (.int p1), .val (.int p2), .val (.int p3), .val (.ref b4), .val (.long ra79), .second, .val (.long ex82), .second, .val (.int (1 : Int32)), .val (.int pp72), .val (.int (1 : Int32)), .val (.long (own_r1 ra67 pp72)), .second, .val (.int sx82), .unset, .unset, .unset]) rfl rfl ?_
        refine ow_aloadN C A82 at_259 rfl rfl rfl ?_
        refine ow_callV C A82 (argsL := []) xE80 (rm_lb l Z a0 hw b4 bb15 kb15 lo79 ra79 he79 on79 bs79 (((0 + nn61) + nn67) + nn79) T79.heap ⟨xE80, xL80, xR80, xH80, xO80, xB80, xN80, xV80, xU80⟩ I79 (by omega) []) tw_19 tw_20 (ow_nf hw tw_22) tw_22 tw_21 tw_2 tw_23 (by decide) all0 (by decide) (by decide) (ck' := 2) (sk' := 38) rfl rfl (by decide) (by decide) rfl (lenOf pd_4 rfl) (S := []) rfl (W := 0) (Nat.le_of_eq rfl) at_260 rfl ?_
        intro T83 v83 K83 hQ83 A83
        obtain ⟨ee83, xl83, rfl, hl83⟩ := hQ83
        rw [ee83] at A83 K83
        show OwnWP _ _ _ _ _ _ _ _ _ T83 (mkF m 263 #[.val (.int p1), .val (.int p2), .val (.int p3), .val (.ref b4), .val (.long ra79), .second, .val (.long ex82), .second, .val (.int (1 : Int32)), .val (.int pp72), .val (.int (1 : Int32)), .val (.long (own_r1 ra67 pp72)), .second, .val (.int sx82), .unset, .unset, .unset] [(.long xl83)])
        refine ow_lstore C A83 at_263 (Ls' := #[.val (.int p1), .val (.int p2), .val (.int p3), .val (.ref b4), .val (.long ra79), .second, .val (.long ex82), .second, .val (.int (1 : Int32)), .val (.int pp72), .val (.int (1 : Int32)), .val (.long (own_r1 ra67 pp72)), .second, .val (.int sx82), .val (.long xl83), .second, .unset]) rfl rfl ?_
        refine ow_iload C A83 at_265 rfl rfl ?_
        refine ow_lload C A83 at_267 rfl rfl ?_
        refine ow_lload C A83 at_269 rfl rfl ?_
        refine ow_lcmp_ne C A83 at_271 rfl at_272 (by decide) (pcY := 279) (by decide) (pcN := 275) rfl (fun zq => absurd (own_eq64 (by omega)) zq) (fun _ => ?_)
        refine ow_iconst C A83 at_275 (v := 1) rfl rfl ?_
        refine ow_goto C A83 at_276 (by decide) (pc' := 280) (by decide) ?_
        refine ow_iand C A83 at_280 rfl ?_
        show OwnWP _ _ _ _ _ _ _ _ _ T83 (mkF m 281 #[.val (.int p1), .val (.int p2), .val (.int p3), .val (.ref b4), .val (.long ra79), .second, .val (.long ex82), .second, .val (.int (1 : Int32)), .val (.int pp72), .val (.int (1 : Int32)), .val (.long (own_r1 ra67 pp72)), .second, .val (.int sx82), .val (.long xl83), .second, .unset] [(.int (1 : Int32))])
        refine ow_istore C A83 at_281 (Ls' := #[.val (.int p1), .val (.int p2), .val (.int p3), .val (.ref b4), .val (.long ra79), .second, .val (.long ex82), .second, .val (.int (1 : Int32)), .val (.int pp72), .val (.int (1 : Int32)), .val (.long (own_r1 ra67 pp72)), .second, .val (.int sx82), .val (.long xl83), .second, .unset]) rfl rfl ?_
        refine ow_aloadN C A83 at_283 rfl rfl rfl ?_
        refine ow_callV C A83 (argsL := []) xE80 (rm_fin l Z a0 hw b4 bb15 kb15 lo79 ra79 he79 on79 bs79 (((0 + nn61) + nn67) + nn79) T79.heap ⟨xE80, xL80, xR80, xH80, xO80, xB80, xN80, xV80, xU80⟩ I79 (by omega) (by omega) []) tw_60 tw_61 (ow_nf hw tw_63) tw_63 tw_62 tw_2 tw_64 (by decide) (allS ows_b4 (allS (Or.inr (Nat.le_trans (ow_le A2) g15)) all0)) (by decide) (by decide) (ck' := 3) (sk' := 70) rfl rfl (by decide) (by decide) rfl (lenOf pd_9 rfl) (S := []) rfl (W := 0) (Nat.le_of_eq rfl) at_284 rfl ?_
        intro T84 v84 K84 hQ84 A84
        obtain ⟨rr84, kr84, nr84, vr84, rfl, yR84, n084, n184⟩ := hQ84
        show OwnWP _ _ _ _ _ _ _ _ _ T84 (mkF m 287 #[.val (.int p1), .val (.int p2), .val (.int p3), .val (.ref b4), .val (.long ra79), .second, .val (.long ex82), .second, .val (.int (1 : Int32)), .val (.int pp72), .val (.int (1 : Int32)), .val (.long (own_r1 ra67 pp72)), .second, .val (.int sx82), .val (.long xl83), .second, .unset] [(.ref rr84)])
        refine ow_astore C A84 at_287 rfl (Ls' := #[.val (.int p1), .val (.int p2), .val (.int p3), .val (.ref b4), .val (.long ra79), .second, .val (.long ex82), .second, .val (.int (1 : Int32)), .val (.int pp72), .val (.int (1 : Int32)), .val (.long (own_r1 ra67 pp72)), .second, .val (.int sx82), .val (.long xl83), .second, .val (.ref rr84)]) rfl rfl ?_
        refine ow_iload C A84 at_289 rfl rfl ?_
        refine ow_aload C A84 at_291 rfl rfl rfl ?_
        refine ow_alen C A84 yR84 at_293 rfl ?_
        refine ow_i2l C A84 at_294 rfl ?_
        refine ow_lload C A84 at_295 rfl rfl ?_
        refine ow_lcmp_gt C A84 at_297 rfl at_298 (by decide) (pcY := 305) (by decide) (pcN := 301) rfl (fun zq => absurd zq (own_nlt64 (by rw [c_i2l]; omega))) (fun _ => ?_)
        refine ow_iconst C A84 at_301 (v := 1) rfl rfl ?_
        refine ow_goto C A84 at_302 (by decide) (pc' := 306) (by decide) ?_
        refine ow_iand C A84 at_306 rfl ?_
        show OwnWP _ _ _ _ _ _ _ _ _ T84 (mkF m 307 #[.val (.int p1), .val (.int p2), .val (.int p3), .val (.ref b4), .val (.long ra79), .second, .val (.long ex82), .second, .val (.int (1 : Int32)), .val (.int pp72), .val (.int (1 : Int32)), .val (.long (own_r1 ra67 pp72)), .second, .val (.int sx82), .val (.long xl83), .second, .val (.ref rr84)] [(.int (1 : Int32))])
        refine ow_istore C A84 at_307 (Ls' := #[.val (.int p1), .val (.int p2), .val (.int p3), .val (.ref b4), .val (.long ra79), .second, .val (.long ex82), .second, .val (.int (1 : Int32)), .val (.int pp72), .val (.int (1 : Int32)), .val (.long (own_r1 ra67 pp72)), .second, .val (.int sx82), .val (.long xl83), .second, .val (.ref rr84)]) rfl rfl ?_
        refine ow_iload C A84 at_309 rfl rfl ?_
        refine ow_ireturn C A84 (t := .boolean) rfl rfl (by simp) at_311 (by decide) (by decide) ?_
        exact rfl
    · skip
      refine ow_iconst C A66 at_127 (v := 1) rfl rfl ?_
      refine ow_goto C A66 at_128 (by decide) (pc' := 132) (by decide) ?_
      refine ow_istore C A66 at_132 (Ls' := #[.val (.int p1), .val (.int p2), .val (.int p3), .val (.ref b4), .val (.long ra61), .second, .val (.long ex64), .second, .val (.int (1 : Int32)), .val (.int pp66), .val (.int (1 : Int32)), .val (.long (own_r1 (4294967295 : Int64) pp18)), .second, .val (.int sx64), .unset, .unset, .unset]) rfl rfl ?_
      refine ow_aloadN C A66 at_134 rfl rfl rfl ?_
      refine ow_iload C A66 at_135 rfl rfl ?_
      refine ow_iload C A66 at_137 rfl rfl ?_
      refine ow_callV C A66 (argsL := [(.int pp66), (.int (1 : Int32))]) xE62 (rm_enc1 l Z a0 hw b4 bb15 kb15 lo61 ra61 he61 on61 bs61 pp66 (0 + nn61) T61.heap ⟨xE62, xL62, xR62, xH62, xO62, xB62, xN62, xV62, xU62⟩ I61 (by omega) hR61 hp66 []) tw_34 tw_35 (ow_nf hw tw_37) tw_37 tw_36 tw_2 tw_38 (by decide) (allS ows_b4 (allS (Or.inr (Nat.le_trans (ow_le A2) g15)) all0)) (by decide) (by decide) (ck' := 2) (sk' := 38) rfl rfl (by decide) (by decide) rfl (lenOf pd_6 rfl) (S := []) rfl (W := 0) (Nat.le_of_eq rfl) at_139 rfl ?_
      intro T85 v85 K85 hQ85 A85
      obtain ⟨rfl, lo85, ra85, he85, on85, bs85, nn85, O85, rl85, I85⟩ := hQ85
      show OwnWP _ _ _ _ _ _ _ _ _ T85 (mkF m 142 #[.val (.int p1), .val (.int p2), .val (.int p3), .val (.ref b4), .val (.long ra61), .second, .val (.long ex64), .second, .val (.int (1 : Int32)), .val (.int pp66), .val (.int (1 : Int32)), .val (.long (own_r1 (4294967295 : Int64) pp18)), .second, .val (.int sx64), .unset, .unset, .unset] [])
      obtain ⟨xE86, xL86, xR86, xH86, xO86, xB86, xN86, xV86, xU86⟩ := O85
      have rb85 := own_rb1 ra61 pp66 hR61 hp66
      have ok85 := own_ok _ _ _ rl85 rb85
      have hR85 : Rok ra85 := ⟨ok85.1, ok85.2.1⟩
      have tl85 := ok85.2.2.1
      have tu85 := ok85.2.2.2
      refine ow_lload C A85 at_142 rfl rfl ?_
      refine ow_iload C A85 at_144 rfl rfl ?_
      refine ow_iload C A85 at_146 rfl rfl ?_
      refine ow_callS C A85 (argsL := [(.long ra61), (.int pp66), (.int (1 : Int32))]) (rm_raw1 l Z a0 hw ra61 pp66 T85.heap []) tw_49 tw_50 tw_31 tw_51 (by decide) all0 (by decide) (by decide) (ck' := 2) (sk' := 38) rfl rfl (by decide) (by decide) rfl (lenOf pd_7 rfl) (S := []) rfl (W := 0) (Nat.le_of_eq rfl) at_148 rfl ?_
      intro T87 v87 K87 hQ87 A87
      obtain ⟨rfl, ee87⟩ := hQ87
      rw [ee87] at A87 K87
      show OwnWP _ _ _ _ _ _ _ _ _ T87 (mkF m 151 #[.val (.int p1), .val (.int p2), .val (.int p3), .val (.ref b4), .val (.long ra61), .second, .val (.long ex64), .second, .val (.int (1 : Int32)), .val (.int pp66), .val (.int (1 : Int32)), .val (.long (own_r1 (4294967295 : Int64) pp18)), .second, .val (.int sx64), .unset, .unset, .unset] [(.long (own_r1 ra61 pp66))])
      refine ow_lstore C A87 at_151 (Ls' := #[.val (.int p1), .val (.int p2), .val (.int p3), .val (.ref b4), .val (.long ra61), .second, .val (.long ex64), .second, .val (.int (1 : Int32)), .val (.int pp66), .val (.int (1 : Int32)), .val (.long (own_r1 ra61 pp66)), .second, .val (.int sx64), .unset, .unset, .unset]) rfl rfl ?_
      refine ow_lload C A87 at_153 rfl rfl ?_
      refine ow_callS C A87 (argsL := [(.long (own_r1 ra61 pp66))]) (rm_sft l Z a0 hw (own_r1 ra61 pp66) T85.heap rb85 []) tw_52 tw_53 tw_31 tw_54 (by decide) all0 (by decide) (by decide) (ck' := 2) (sk' := 38) rfl rfl (by decide) (by decide) rfl (lenOf pd_8 rfl) (S := []) rfl (W := 0) (Nat.le_of_eq rfl) at_155 rfl ?_
      intro T88 v88 K88 hQ88 A88
      obtain ⟨ee88, sx88, rfl, hs88⟩ := hQ88
      rw [ee88] at A88 K88
      show OwnWP _ _ _ _ _ _ _ _ _ T88 (mkF m 158 #[.val (.int p1), .val (.int p2), .val (.int p3), .val (.ref b4), .val (.long ra61), .second, .val (.long ex64), .second, .val (.int (1 : Int32)), .val (.int pp66), .val (.int (1 : Int32)), .val (.long (own_r1 ra61 pp66)), .second, .val (.int sx64), .unset, .unset, .unset] [(.int sx88)])
      have sr88 := own_s8 (own_r1 ra61 pp66) sx88 rb85 hs88
      have su88 := own_un _ _ _ _ _ rl85 sr88
      refine ow_istore C A88 at_158 (Ls' := #[.val (.int p1), .val (.int p2), .val (.int p3), .val (.ref b4), .val (.long ra61), .second, .val (.long ex64), .second, .val (.int (1 : Int32)), .val (.int pp66), .val (.int (1 : Int32)), .val (.long (own_r1 ra61 pp66)), .second, .val (.int sx88), .unset, .unset, .unset]) rfl rfl ?_
      refine ow_lload C A88 at_160 rfl rfl ?_
      refine ow_iload C A88 at_162 rfl rfl ?_
      refine ow_i2l C A88 at_164 rfl ?_
      refine ow_ladd C A88 at_165 rfl ?_
      have hex88 := own_ex ex64 sx88 (0 + nn61) nn85 hex64 su88.2.symm ⟨by omega, by omega, by omega, by omega⟩
      obtain ⟨ex88, dex88⟩ : ∃ z, z = (ex64 + sx88.toInt64) := ⟨_, rfl⟩
      rw [← dex88] at hex88 ⊢
      refine ow_lstore C A88 at_166 (Ls' := #[.val (.int p1), .val (.int p2), .val (.int p3), .val (.ref b4), .val (.long ra61), .second, .val (.long ex88), .second, .val (.int (1 : Int32)), .val (.int pp66), .val (.int (1 : Int32)), .val (.long (own_r1 ra61 pp66)), .second, .val (.int sx88), .unset, .unset, .unset]) rfl rfl ?_
      refine ow_lload C A88 at_168 rfl rfl ?_
      refine ow_bipush C A88 at_170 (v := 8) rfl rfl ?_
      refine ow_iload C A88 at_172 rfl rfl ?_
      refine ow_imul C A88 at_174 rfl ?_
      refine ow_lshl C A88 at_175 rfl ?_
      rw [show ((own_r1 ra61 pp66) <<< (((8 : Int32) * sx88) &&& 63).toInt64) = ra85 from (own_eq64 su88.1).symm]
      refine ow_lstore C A88 at_176 (Ls' := #[.val (.int p1), .val (.int p2), .val (.int p3), .val (.ref b4), .val (.long ra85), .second, .val (.long ex88), .second, .val (.int (1 : Int32)), .val (.int pp66), .val (.int (1 : Int32)), .val (.long (own_r1 ra61 pp66)), .second, .val (.int sx88), .unset, .unset, .unset]) rfl rfl ?_
      refine ow_iload C A88 at_178 rfl rfl ?_
      refine ow_aloadN C A88 at_180 rfl rfl rfl ?_
      refine ow_callV C A88 (argsL := []) xE86 (rm_lb l Z a0 hw b4 bb15 kb15 lo85 ra85 he85 on85 bs85 ((0 + nn61) + nn85) T85.heap ⟨xE86, xL86, xR86, xH86, xO86, xB86, xN86, xV86, xU86⟩ I85 (by omega) []) tw_19 tw_20 (ow_nf hw tw_22) tw_22 tw_21 tw_2 tw_23 (by decide) all0 (by decide) (by decide) (ck' := 2) (sk' := 38) rfl rfl (by decide) (by decide) rfl (lenOf pd_4 rfl) (S := [(.int (1 : Int32))]) rfl (W := 1) (Nat.le_of_eq rfl) at_181 rfl ?_
      intro T89 v89 K89 hQ89 A89
      obtain ⟨ee89, xl89, rfl, hl89⟩ := hQ89
      rw [ee89] at A89 K89
      show OwnWP _ _ _ _ _ _ _ _ _ T89 (mkF m 184 #[.val (.int p1), .val (.int p2), .val (.int p3), .val (.ref b4), .val (.long ra85), .second, .val (.long ex88), .second, .val (.int (1 : Int32)), .val (.int pp66), .val (.int (1 : Int32)), .val (.long (own_r1 ra61 pp66)), .second, .val (.int sx88), .unset, .unset, .unset] [(.long xl89), (.int (1 : Int32))])
      refine ow_lload C A89 at_184 rfl rfl ?_
      refine ow_lcmp_ne C A89 at_186 rfl at_187 (by decide) (pcY := 194) (by decide) (pcN := 190) rfl (fun zq => absurd (own_eq64 (by omega)) zq) (fun _ => ?_)
      refine ow_iconst C A89 at_190 (v := 1) rfl rfl ?_
      refine ow_goto C A89 at_191 (by decide) (pc' := 195) (by decide) ?_
      refine ow_iand C A89 at_195 rfl ?_
      show OwnWP _ _ _ _ _ _ _ _ _ T89 (mkF m 196 #[.val (.int p1), .val (.int p2), .val (.int p3), .val (.ref b4), .val (.long ra85), .second, .val (.long ex88), .second, .val (.int (1 : Int32)), .val (.int pp66), .val (.int (1 : Int32)), .val (.long (own_r1 ra61 pp66)), .second, .val (.int sx88), .unset, .unset, .unset] [(.int (1 : Int32))])
      refine ow_istore C A89 at_196 (Ls' := #[.val (.int p1), .val (.int p2), .val (.int p3), .val (.ref b4), .val (.long ra85), .second, .val (.long ex88), .second, .val (.int (1 : Int32)), .val (.int pp66), .val (.int (1 : Int32)), .val (.long (own_r1 ra61 pp66)), .second, .val (.int sx88), .unset, .unset, .unset]) rfl rfl ?_
      refine ow_iloadN C A89 at_198 rfl rfl ?_
      refine ow_callS C A89 (argsL := [(.int p3)]) (rm_prob l Z a0 hw p3 T85.heap []) tw_29 tw_30 tw_31 tw_32 (by decide) all0 (by decide) (by decide) (ck' := 2) (sk' := 38) rfl rfl (by decide) (by decide) rfl (lenOf pd_5 rfl) (S := []) rfl (W := 0) (Nat.le_of_eq rfl) at_199 rfl ?_
      intro T90 v90 K90 hQ90 A90
      obtain ⟨ee90, pp90, rfl, hp90⟩ := hQ90
      rw [ee90] at A90 K90
      show OwnWP _ _ _ _ _ _ _ _ _ T90 (mkF m 202 #[.val (.int p1), .val (.int p2), .val (.int p3), .val (.ref b4), .val (.long ra85), .second, .val (.long ex88), .second, .val (.int (1 : Int32)), .val (.int pp66), .val (.int (1 : Int32)), .val (.long (own_r1 ra61 pp66)), .second, .val (.int sx88), .unset, .unset, .unset] [(.int pp90)])
      refine ow_istore C A90 at_202 (Ls' := #[.val (.int p1), .val (.int p2), .val (.int p3), .val (.ref b4), .val (.long ra85), .second, .val (.long ex88), .second, .val (.int (1 : Int32)), .val (.int pp90), .val (.int (1 : Int32)), .val (.long (own_r1 ra61 pp66)), .second, .val (.int sx88), .unset, .unset, .unset]) rfl rfl ?_
      refine ow_iloadN C A90 at_204 rfl rfl ?_
      refine ow_if_ge C A90 at_205 (by decide) (pcY := 212) (by decide) (pcN := 208) rfl (fun hc205 => ?_) (fun hc205 => ?_)
      · skip
        refine ow_iconst C A90 at_212 (v := 0) rfl rfl ?_
        refine ow_istore C A90 at_213 (Ls' := #[.val (.int p1), .val (.int p2), .val (.int p3), .val (.ref b4), .val (.long ra85), .second, .val (.long ex88), .second, .val (.int (1 : Int32)), .val (.int pp90), .val (.int (0 : Int32)), .val (.long (own_r1 ra61 pp66)), .second, .val (.int sx88), .unset, .unset, .unset]) rfl rfl ?_
        refine ow_aloadN C A90 at_215 rfl rfl rfl ?_
        refine ow_iload C A90 at_216 rfl rfl ?_
        refine ow_iload C A90 at_218 rfl rfl ?_
        refine ow_callV C A90 (argsL := [(.int pp90), (.int (0 : Int32))]) xE86 (rm_enc0 l Z a0 hw b4 bb15 kb15 lo85 ra85 he85 on85 bs85 pp90 ((0 + nn61) + nn85) T85.heap ⟨xE86, xL86, xR86, xH86, xO86, xB86, xN86, xV86, xU86⟩ I85 (by omega) hR85 hp90 []) tw_34 tw_35 (ow_nf hw tw_37) tw_37 tw_36 tw_2 tw_38 (by decide) (allS ows_b4 (allS (Or.inr (Nat.le_trans (ow_le A2) g15)) all0)) (by decide) (by decide) (ck' := 2) (sk' := 38) rfl rfl (by decide) (by decide) rfl (lenOf pd_6 rfl) (S := []) rfl (W := 0) (Nat.le_of_eq rfl) at_220 rfl ?_
        intro T91 v91 K91 hQ91 A91
        obtain ⟨rfl, lo91, ra91, he91, on91, bs91, nn91, O91, rl91, I91⟩ := hQ91
        show OwnWP _ _ _ _ _ _ _ _ _ T91 (mkF m 223 #[.val (.int p1), .val (.int p2), .val (.int p3), .val (.ref b4), .val (.long ra85), .second, .val (.long ex88), .second, .val (.int (1 : Int32)), .val (.int pp90), .val (.int (0 : Int32)), .val (.long (own_r1 ra61 pp66)), .second, .val (.int sx88), .unset, .unset, .unset] [])
        obtain ⟨xE92, xL92, xR92, xH92, xO92, xB92, xN92, xV92, xU92⟩ := O91
        have rb91 := own_rb0 ra85 pp90 hR85 hp90
        have ok91 := own_ok _ _ _ rl91 rb91
        have hR91 : Rok ra91 := ⟨ok91.1, ok91.2.1⟩
        have tl91 := ok91.2.2.1
        have tu91 := ok91.2.2.2
        refine ow_lload C A91 at_223 rfl rfl ?_
        refine ow_iload C A91 at_225 rfl rfl ?_
        refine ow_iload C A91 at_227 rfl rfl ?_
        refine ow_callS C A91 (argsL := [(.long ra85), (.int pp90), (.int (0 : Int32))]) (rm_raw0 l Z a0 hw ra85 pp90 T91.heap []) tw_49 tw_50 tw_31 tw_51 (by decide) all0 (by decide) (by decide) (ck' := 2) (sk' := 38) rfl rfl (by decide) (by decide) rfl (lenOf pd_7 rfl) (S := []) rfl (W := 0) (Nat.le_of_eq rfl) at_229 rfl ?_
        intro T93 v93 K93 hQ93 A93
        obtain ⟨rfl, ee93⟩ := hQ93
        rw [ee93] at A93 K93
        show OwnWP _ _ _ _ _ _ _ _ _ T93 (mkF m 232 #[.val (.int p1), .val (.int p2), .val (.int p3), .val (.ref b4), .val (.long ra85), .second, .val (.long ex88), .second, .val (.int (1 : Int32)), .val (.int pp90), .val (.int (0 : Int32)), .val (.long (own_r1 ra61 pp66)), .second, .val (.int sx88), .unset, .unset, .unset] [(.long (own_r0 ra85 pp90))])
        refine ow_lstore C A93 at_232 (Ls' := #[.val (.int p1), .val (.int p2), .val (.int p3), .val (.ref b4), .val (.long ra85), .second, .val (.long ex88), .second, .val (.int (1 : Int32)), .val (.int pp90), .val (.int (0 : Int32)), .val (.long (own_r0 ra85 pp90)), .second, .val (.int sx88), .unset, .unset, .unset]) rfl rfl ?_
        refine ow_lload C A93 at_234 rfl rfl ?_
        refine ow_callS C A93 (argsL := [(.long (own_r0 ra85 pp90))]) (rm_sft l Z a0 hw (own_r0 ra85 pp90) T91.heap rb91 []) tw_52 tw_53 tw_31 tw_54 (by decide) all0 (by decide) (by decide) (ck' := 2) (sk' := 38) rfl rfl (by decide) (by decide) rfl (lenOf pd_8 rfl) (S := []) rfl (W := 0) (Nat.le_of_eq rfl) at_236 rfl ?_
        intro T94 v94 K94 hQ94 A94
        obtain ⟨ee94, sx94, rfl, hs94⟩ := hQ94
        rw [ee94] at A94 K94
        show OwnWP _ _ _ _ _ _ _ _ _ T94 (mkF m 239 #[.val (.int p1), .val (.int p2), .val (.int p3), .val (.ref b4), .val (.long ra85), .second, .val (.long ex88), .second, .val (.int (1 : Int32)), .val (.int pp90), .val (.int (0 : Int32)), .val (.long (own_r0 ra85 pp90)), .second, .val (.int sx88), .unset, .unset, .unset] [(.int sx94)])
        have sr94 := own_s8 (own_r0 ra85 pp90) sx94 rb91 hs94
        have su94 := own_un _ _ _ _ _ rl91 sr94
        refine ow_istore C A94 at_239 (Ls' := #[.val (.int p1), .val (.int p2), .val (.int p3), .val (.ref b4), .val (.long ra85), .second, .val (.long ex88), .second, .val (.int (1 : Int32)), .val (.int pp90), .val (.int (0 : Int32)), .val (.long (own_r0 ra85 pp90)), .second, .val (.int sx94), .unset, .unset, .unset]) rfl rfl ?_
        refine ow_lload C A94 at_241 rfl rfl ?_
        refine ow_iload C A94 at_243 rfl rfl ?_
        refine ow_i2l C A94 at_245 rfl ?_
        refine ow_ladd C A94 at_246 rfl ?_
        have hex94 := own_ex ex88 sx94 ((0 + nn61) + nn85) nn91 hex88 su94.2.symm ⟨by omega, by omega, by omega, by omega⟩
        obtain ⟨ex94, dex94⟩ : ∃ z, z = (ex88 + sx94.toInt64) := ⟨_, rfl⟩
        rw [← dex94] at hex94 ⊢
        refine ow_lstore C A94 at_247 (Ls' := #[.val (.int p1), .val (.int p2), .val (.int p3), .val (.ref b4), .val (.long ra85), .second, .val (.long ex94), .second, .val (.int (1 : Int32)), .val (.int pp90), .val (.int (0 : Int32)), .val (.long (own_r0 ra85 pp90)), .second, .val (.int sx94), .unset, .unset, .unset]) rfl rfl ?_
        refine ow_lload C A94 at_249 rfl rfl ?_
        refine ow_bipush C A94 at_251 (v := 8) rfl rfl ?_
        refine ow_iload C A94 at_253 rfl rfl ?_
        refine ow_imul C A94 at_255 rfl ?_
        refine ow_lshl C A94 at_256 rfl ?_
        rw [show ((own_r0 ra85 pp90) <<< (((8 : Int32) * sx94) &&& 63).toInt64) = ra91 from (own_eq64 su94.1).symm]
        refine ow_lstore C A94 at_257 (Ls' := #[.val (.int p1), .val (.int p2), .val (.int p3), .val (.ref b4), .val (.long ra91), .second, .val (.long ex94), .second, .val (.int (1 : Int32)), .val (.int pp90), .val (.int (0 : Int32)), .val (.long (own_r0 ra85 pp90)), .second, .val (.int sx94), .unset, .unset, .unset]) rfl rfl ?_
        refine ow_aloadN C A94 at_259 rfl rfl rfl ?_
        refine ow_callV C A94 (argsL := []) xE92 (rm_lb l Z a0 hw b4 bb15 kb15 lo91 ra91 he91 on91 bs91 (((0 + nn61) + nn85) + nn91) T91.heap ⟨xE92, xL92, xR92, xH92, xO92, xB92, xN92, xV92, xU92⟩ I91 (by omega) []) tw_19 tw_20 (ow_nf hw tw_22) tw_22 tw_21 tw_2 tw_23 (by decide) all0 (by decide) (by decide) (ck' := 2) (sk' := 38) rfl rfl (by decide) (by decide) rfl (lenOf pd_4 rfl) (S := []) rfl (W := 0) (Nat.le_of_eq rfl) at_260 rfl ?_
        intro T95 v95 K95 hQ95 A95
        obtain ⟨ee95, xl95, rfl, hl95⟩ := hQ95
        rw [ee95] at A95 K95
        show OwnWP _ _ _ _ _ _ _ _ _ T95 (mkF m 263 #[.val (.int p1), .val (.int p2), .val (.int p3), .val (.ref b4), .val (.long ra91), .second, .val (.long ex94), .second, .val (.int (1 : Int32)), .val (.int pp90), .val (.int (0 : Int32)), .val (.long (own_r0 ra85 pp90)), .second, .val (.int sx94), .unset, .unset, .unset] [(.long xl95)])
        refine ow_lstore C A95 at_263 (Ls' := #[.val (.int p1), .val (.int p2), .val (.int p3), .val (.ref b4), .val (.long ra91), .second, .val (.long ex94), .second, .val (.int (1 : Int32)), .val (.int pp90), .val (.int (0 : Int32)), .val (.long (own_r0 ra85 pp90)), .second, .val (.int sx94), .val (.long xl95), .second, .unset]) rfl rfl ?_
        refine ow_iload C A95 at_265 rfl rfl ?_
        refine ow_lload C A95 at_267 rfl rfl ?_
        refine ow_lload C A95 at_269 rfl rfl ?_
        refine ow_lcmp_ne C A95 at_271 rfl at_272 (by decide) (pcY := 279) (by decide) (pcN := 275) rfl (fun zq => absurd (own_eq64 (by omega)) zq) (fun _ => ?_)
        refine ow_iconst C A95 at_275 (v := 1) rfl rfl ?_
        refine ow_goto C A95 at_276 (by decide) (pc' := 280) (by decide) ?_
        refine ow_iand C A95 at_280 rfl ?_
        show OwnWP _ _ _ _ _ _ _ _ _ T95 (mkF m 281 #[.val (.int p1), .val (.int p2), .val (.int p3), .val (.ref b4), .val (.long ra91), .second, .val (.long ex94), .second, .val (.int (1 : Int32)), .val (.int pp90), .val (.int (0 : Int32)), .val (.long (own_r0 ra85 pp90)), .second, .val (.int sx94), .val (.long xl95), .second, .unset] [(.int (1 : Int32))])
        refine ow_istore C A95 at_281 (Ls' := #[.val (.int p1), .val (.int p2), .val (.int p3), .val (.ref b4), .val (.long ra91), .second, .val (.long ex94), .second, .val (.int (1 : Int32)), .val (.int pp90), .val (.int (0 : Int32)), .val (.long (own_r0 ra85 pp90)), .second, .val (.int sx94), .val (.long xl95), .second, .unset]) rfl rfl ?_
        refine ow_aloadN C A95 at_283 rfl rfl rfl ?_
        refine ow_callV C A95 (argsL := []) xE92 (rm_fin l Z a0 hw b4 bb15 kb15 lo91 ra91 he91 on91 bs91 (((0 + nn61) + nn85) + nn91) T91.heap ⟨xE92, xL92, xR92, xH92, xO92, xB92, xN92, xV92, xU92⟩ I91 (by omega) (by omega) []) tw_60 tw_61 (ow_nf hw tw_63) tw_63 tw_62 tw_2 tw_64 (by decide) (allS ows_b4 (allS (Or.inr (Nat.le_trans (ow_le A2) g15)) all0)) (by decide) (by decide) (ck' := 3) (sk' := 70) rfl rfl (by decide) (by decide) rfl (lenOf pd_9 rfl) (S := []) rfl (W := 0) (Nat.le_of_eq rfl) at_284 rfl ?_
        intro T96 v96 K96 hQ96 A96
        obtain ⟨rr96, kr96, nr96, vr96, rfl, yR96, n096, n196⟩ := hQ96
        show OwnWP _ _ _ _ _ _ _ _ _ T96 (mkF m 287 #[.val (.int p1), .val (.int p2), .val (.int p3), .val (.ref b4), .val (.long ra91), .second, .val (.long ex94), .second, .val (.int (1 : Int32)), .val (.int pp90), .val (.int (0 : Int32)), .val (.long (own_r0 ra85 pp90)), .second, .val (.int sx94), .val (.long xl95), .second, .unset] [(.ref rr96)])
        refine ow_astore C A96 at_287 rfl (Ls' := #[.val (.int p1), .val (.int p2), .val (.int p3), .val (.ref b4), .val (.long ra91), .second, .val (.long ex94), .second, .val (.int (1 : Int32)), .val (.int pp90), .val (.int (0 : Int32)), .val (.long (own_r0 ra85 pp90)), .second, .val (.int sx94), .val (.long xl95), .second, .val (.ref rr96)]) rfl rfl ?_
        refine ow_iload C A96 at_289 rfl rfl ?_
        refine ow_aload C A96 at_291 rfl rfl rfl ?_
        refine ow_alen C A96 yR96 at_293 rfl ?_
        refine ow_i2l C A96 at_294 rfl ?_
        refine ow_lload C A96 at_295 rfl rfl ?_
        refine ow_lcmp_gt C A96 at_297 rfl at_298 (by decide) (pcY := 305) (by decide) (pcN := 301) rfl (fun zq => absurd zq (own_nlt64 (by rw [c_i2l]; omega))) (fun _ => ?_)
        refine ow_iconst C A96 at_301 (v := 1) rfl rfl ?_
        refine ow_goto C A96 at_302 (by decide) (pc' := 306) (by decide) ?_
        refine ow_iand C A96 at_306 rfl ?_
        show OwnWP _ _ _ _ _ _ _ _ _ T96 (mkF m 307 #[.val (.int p1), .val (.int p2), .val (.int p3), .val (.ref b4), .val (.long ra91), .second, .val (.long ex94), .second, .val (.int (1 : Int32)), .val (.int pp90), .val (.int (0 : Int32)), .val (.long (own_r0 ra85 pp90)), .second, .val (.int sx94), .val (.long xl95), .second, .val (.ref rr96)] [(.int (1 : Int32))])
        refine ow_istore C A96 at_307 (Ls' := #[.val (.int p1), .val (.int p2), .val (.int p3), .val (.ref b4), .val (.long ra91), .second, .val (.long ex94), .second, .val (.int (1 : Int32)), .val (.int pp90), .val (.int (0 : Int32)), .val (.long (own_r0 ra85 pp90)), .second, .val (.int sx94), .val (.long xl95), .second, .val (.ref rr96)]) rfl rfl ?_
        refine ow_iload C A96 at_309 rfl rfl ?_
        refine ow_ireturn C A96 (t := .boolean) rfl rfl (by simp) at_311 (by decide) (by decide) ?_
        exact rfl
      · skip
        refine ow_iconst C A90 at_208 (v := 1) rfl rfl ?_
        refine ow_goto C A90 at_209 (by decide) (pc' := 213) (by decide) ?_
        refine ow_istore C A90 at_213 (Ls' := #[.val (.int p1), .val (.int p2), .val (.int p3), .val (.ref b4), .val (.long ra85), .second, .val (.long ex88), .second, .val (.int (1 : Int32)), .val (.int pp90), .val (.int (1 : Int32)), .val (.long (own_r1 ra61 pp66)), .second, .val (.int sx88), .unset, .unset, .unset]) rfl rfl ?_
        refine ow_aloadN C A90 at_215 rfl rfl rfl ?_
        refine ow_iload C A90 at_216 rfl rfl ?_
        refine ow_iload C A90 at_218 rfl rfl ?_
        refine ow_callV C A90 (argsL := [(.int pp90), (.int (1 : Int32))]) xE86 (rm_enc1 l Z a0 hw b4 bb15 kb15 lo85 ra85 he85 on85 bs85 pp90 ((0 + nn61) + nn85) T85.heap ⟨xE86, xL86, xR86, xH86, xO86, xB86, xN86, xV86, xU86⟩ I85 (by omega) hR85 hp90 []) tw_34 tw_35 (ow_nf hw tw_37) tw_37 tw_36 tw_2 tw_38 (by decide) (allS ows_b4 (allS (Or.inr (Nat.le_trans (ow_le A2) g15)) all0)) (by decide) (by decide) (ck' := 2) (sk' := 38) rfl rfl (by decide) (by decide) rfl (lenOf pd_6 rfl) (S := []) rfl (W := 0) (Nat.le_of_eq rfl) at_220 rfl ?_
        intro T97 v97 K97 hQ97 A97
        obtain ⟨rfl, lo97, ra97, he97, on97, bs97, nn97, O97, rl97, I97⟩ := hQ97
        show OwnWP _ _ _ _ _ _ _ _ _ T97 (mkF m 223 #[.val (.int p1), .val (.int p2), .val (.int p3), .val (.ref b4), .val (.long ra85), .second, .val (.long ex88), .second, .val (.int (1 : Int32)), .val (.int pp90), .val (.int (1 : Int32)), .val (.long (own_r1 ra61 pp66)), .second, .val (.int sx88), .unset, .unset, .unset] [])
        obtain ⟨xE98, xL98, xR98, xH98, xO98, xB98, xN98, xV98, xU98⟩ := O97
        have rb97 := own_rb1 ra85 pp90 hR85 hp90
        have ok97 := own_ok _ _ _ rl97 rb97
        have hR97 : Rok ra97 := ⟨ok97.1, ok97.2.1⟩
        have tl97 := ok97.2.2.1
        have tu97 := ok97.2.2.2
        refine ow_lload C A97 at_223 rfl rfl ?_
        refine ow_iload C A97 at_225 rfl rfl ?_
        refine ow_iload C A97 at_227 rfl rfl ?_
        refine ow_callS C A97 (argsL := [(.long ra85), (.int pp90), (.int (1 : Int32))]) (rm_raw1 l Z a0 hw ra85 pp90 T97.heap []) tw_49 tw_50 tw_31 tw_51 (by decide) all0 (by decide) (by decide) (ck' := 2) (sk' := 38) rfl rfl (by decide) (by decide) rfl (lenOf pd_7 rfl) (S := []) rfl (W := 0) (Nat.le_of_eq rfl) at_229 rfl ?_
        intro T99 v99 K99 hQ99 A99
        obtain ⟨rfl, ee99⟩ := hQ99
        rw [ee99] at A99 K99
        show OwnWP _ _ _ _ _ _ _ _ _ T99 (mkF m 232 #[.val (.int p1), .val (.int p2), .val (.int p3), .val (.ref b4), .val (.long ra85), .second, .val (.long ex88), .second, .val (.int (1 : Int32)), .val (.int pp90), .val (.int (1 : Int32)), .val (.long (own_r1 ra61 pp66)), .second, .val (.int sx88), .unset, .unset, .unset] [(.long (own_r1 ra85 pp90))])
        refine ow_lstore C A99 at_232 (Ls' := #[.val (.int p1), .val (.int p2), .val (.int p3), .val (.ref b4), .val (.long ra85), .second, .val (.long ex88), .second, .val (.int (1 : Int32)), .val (.int pp90), .val (.int (1 : Int32)), .val (.long (own_r1 ra85 pp90)), .second, .val (.int sx88), .unset, .unset, .unset]) rfl rfl ?_
        refine ow_lload C A99 at_234 rfl rfl ?_
        refine ow_callS C A99 (argsL := [(.long (own_r1 ra85 pp90))]) (rm_sft l Z a0 hw (own_r1 ra85 pp90) T97.heap rb97 []) tw_52 tw_53 tw_31 tw_54 (by decide) all0 (by decide) (by decide) (ck' := 2) (sk' := 38) rfl rfl (by decide) (by decide) rfl (lenOf pd_8 rfl) (S := []) rfl (W := 0) (Nat.le_of_eq rfl) at_236 rfl ?_
        intro T100 v100 K100 hQ100 A100
        obtain ⟨ee100, sx100, rfl, hs100⟩ := hQ100
        rw [ee100] at A100 K100
        show OwnWP _ _ _ _ _ _ _ _ _ T100 (mkF m 239 #[.val (.int p1), .val (.int p2), .val (.int p3), .val (.ref b4), .val (.long ra85), .second, .val (.long ex88), .second, .val (.int (1 : Int32)), .val (.int pp90), .val (.int (1 : Int32)), .val (.long (own_r1 ra85 pp90)), .second, .val (.int sx88), .unset, .unset, .unset] [(.int sx100)])
        have sr100 := own_s8 (own_r1 ra85 pp90) sx100 rb97 hs100
        have su100 := own_un _ _ _ _ _ rl97 sr100
        refine ow_istore C A100 at_239 (Ls' := #[.val (.int p1), .val (.int p2), .val (.int p3), .val (.ref b4), .val (.long ra85), .second, .val (.long ex88), .second, .val (.int (1 : Int32)), .val (.int pp90), .val (.int (1 : Int32)), .val (.long (own_r1 ra85 pp90)), .second, .val (.int sx100), .unset, .unset, .unset]) rfl rfl ?_
        refine ow_lload C A100 at_241 rfl rfl ?_
        refine ow_iload C A100 at_243 rfl rfl ?_
        refine ow_i2l C A100 at_245 rfl ?_
        refine ow_ladd C A100 at_246 rfl ?_
        have hex100 := own_ex ex88 sx100 ((0 + nn61) + nn85) nn97 hex88 su100.2.symm ⟨by omega, by omega, by omega, by omega⟩
        obtain ⟨ex100, dex100⟩ : ∃ z, z = (ex88 + sx100.toInt64) := ⟨_, rfl⟩
        rw [← dex100] at hex100 ⊢
        refine ow_lstore C A100 at_247 (Ls' := #[.val (.int p1), .val (.int p2), .val (.int p3), .val (.ref b4), .val (.long ra85), .second, .val (.long ex100), .second, .val (.int (1 : Int32)), .val (.int pp90), .val (.int (1 : Int32)), .val (.long (own_r1 ra85 pp90)), .second, .val (.int sx100), .unset, .unset, .unset]) rfl rfl ?_
        refine ow_lload C A100 at_249 rfl rfl ?_
        refine ow_bipush C A100 at_251 (v := 8) rfl rfl ?_
        refine ow_iload C A100 at_253 rfl rfl ?_
        refine ow_imul C A100 at_255 rfl ?_
        refine ow_lshl C A100 at_256 rfl ?_
        rw [show ((own_r1 ra85 pp90) <<< (((8 : Int32) * sx100) &&& 63).toInt64) = ra97 from (own_eq64 su100.1).symm]
        refine ow_lstore C A100 at_257 (Ls' := #[.val (.int p1), .val (.int p2), .val (.int p3), .val (.ref b4), .val (.long ra97), .second, .val (.long ex100), .second, .val (.int (1 : Int32)), .val (.int pp90), .val (.int (1 : Int32)), .val (.long (own_r1 ra85 pp90)), .second, .val (.int sx100), .unset, .unset, .unset]) rfl rfl ?_
        refine ow_aloadN C A100 at_259 rfl rfl rfl ?_
        refine ow_callV C A100 (argsL := []) xE98 (rm_lb l Z a0 hw b4 bb15 kb15 lo97 ra97 he97 on97 bs97 (((0 + nn61) + nn85) + nn97) T97.heap ⟨xE98, xL98, xR98, xH98, xO98, xB98, xN98, xV98, xU98⟩ I97 (by omega) []) tw_19 tw_20 (ow_nf hw tw_22) tw_22 tw_21 tw_2 tw_23 (by decide) all0 (by decide) (by decide) (ck' := 2) (sk' := 38) rfl rfl (by decide) (by decide) rfl (lenOf pd_4 rfl) (S := []) rfl (W := 0) (Nat.le_of_eq rfl) at_260 rfl ?_
        intro T101 v101 K101 hQ101 A101
        obtain ⟨ee101, xl101, rfl, hl101⟩ := hQ101
        rw [ee101] at A101 K101
        show OwnWP _ _ _ _ _ _ _ _ _ T101 (mkF m 263 #[.val (.int p1), .val (.int p2), .val (.int p3), .val (.ref b4), .val (.long ra97), .second, .val (.long ex100), .second, .val (.int (1 : Int32)), .val (.int pp90), .val (.int (1 : Int32)), .val (.long (own_r1 ra85 pp90)), .second, .val (.int sx100), .unset, .unset, .unset] [(.long xl101)])
        refine ow_lstore C A101 at_263 (Ls' := #[.val (.int p1), .val (.int p2), .val (.int p3), .val (.ref b4), .val (.long ra97), .second, .val (.long ex100), .second, .val (.int (1 : Int32)), .val (.int pp90), .val (.int (1 : Int32)), .val (.long (own_r1 ra85 pp90)), .second, .val (.int sx100), .val (.long xl101), .second, .unset]) rfl rfl ?_
        refine ow_iload C A101 at_265 rfl rfl ?_
        refine ow_lload C A101 at_267 rfl rfl ?_
        refine ow_lload C A101 at_269 rfl rfl ?_
        refine ow_lcmp_ne C A101 at_271 rfl at_272 (by decide) (pcY := 279) (by decide) (pcN := 275) rfl (fun zq => absurd (own_eq64 (by omega)) zq) (fun _ => ?_)
        refine ow_iconst C A101 at_275 (v := 1) rfl rfl ?_
        refine ow_goto C A101 at_276 (by decide) (pc' := 280) (by decide) ?_
        refine ow_iand C A101 at_280 rfl ?_
        show OwnWP _ _ _ _ _ _ _ _ _ T101 (mkF m 281 #[.val (.int p1), .val (.int p2), .val (.int p3), .val (.ref b4), .val (.long ra97), .second, .val (.long ex100), .second, .val (.int (1 : Int32)), .val (.int pp90), .val (.int (1 : Int32)), .val (.long (own_r1 ra85 pp90)), .second, .val (.int sx100), .val (.long xl101), .second, .unset] [(.int (1 : Int32))])
        refine ow_istore C A101 at_281 (Ls' := #[.val (.int p1), .val (.int p2), .val (.int p3), .val (.ref b4), .val (.long ra97), .second, .val (.long ex100), .second, .val (.int (1 : Int32)), .val (.int pp90), .val (.int (1 : Int32)), .val (.long (own_r1 ra85 pp90)), .second, .val (.int sx100), .val (.long xl101), .second, .unset]) rfl rfl ?_
        refine ow_aloadN C A101 at_283 rfl rfl rfl ?_
        refine ow_callV C A101 (argsL := []) xE98 (rm_fin l Z a0 hw b4 bb15 kb15 lo97 ra97 he97 on97 bs97 (((0 + nn61) + nn85) + nn97) T97.heap ⟨xE98, xL98, xR98, xH98, xO98, xB98, xN98, xV98, xU98⟩ I97 (by omega) (by omega) []) tw_60 tw_61 (ow_nf hw tw_63) tw_63 tw_62 tw_2 tw_64 (by decide) (allS ows_b4 (allS (Or.inr (Nat.le_trans (ow_le A2) g15)) all0)) (by decide) (by decide) (ck' := 3) (sk' := 70) rfl rfl (by decide) (by decide) rfl (lenOf pd_9 rfl) (S := []) rfl (W := 0) (Nat.le_of_eq rfl) at_284 rfl ?_
        intro T102 v102 K102 hQ102 A102
        obtain ⟨rr102, kr102, nr102, vr102, rfl, yR102, n0102, n1102⟩ := hQ102
        show OwnWP _ _ _ _ _ _ _ _ _ T102 (mkF m 287 #[.val (.int p1), .val (.int p2), .val (.int p3), .val (.ref b4), .val (.long ra97), .second, .val (.long ex100), .second, .val (.int (1 : Int32)), .val (.int pp90), .val (.int (1 : Int32)), .val (.long (own_r1 ra85 pp90)), .second, .val (.int sx100), .val (.long xl101), .second, .unset] [(.ref rr102)])
        refine ow_astore C A102 at_287 rfl (Ls' := #[.val (.int p1), .val (.int p2), .val (.int p3), .val (.ref b4), .val (.long ra97), .second, .val (.long ex100), .second, .val (.int (1 : Int32)), .val (.int pp90), .val (.int (1 : Int32)), .val (.long (own_r1 ra85 pp90)), .second, .val (.int sx100), .val (.long xl101), .second, .val (.ref rr102)]) rfl rfl ?_
        refine ow_iload C A102 at_289 rfl rfl ?_
        refine ow_aload C A102 at_291 rfl rfl rfl ?_
        refine ow_alen C A102 yR102 at_293 rfl ?_
        refine ow_i2l C A102 at_294 rfl ?_
        refine ow_lload C A102 at_295 rfl rfl ?_
        refine ow_lcmp_gt C A102 at_297 rfl at_298 (by decide) (pcY := 305) (by decide) (pcN := 301) rfl (fun zq => absurd zq (own_nlt64 (by rw [c_i2l]; omega))) (fun _ => ?_)
        refine ow_iconst C A102 at_301 (v := 1) rfl rfl ?_
        refine ow_goto C A102 at_302 (by decide) (pc' := 306) (by decide) ?_
        refine ow_iand C A102 at_306 rfl ?_
        show OwnWP _ _ _ _ _ _ _ _ _ T102 (mkF m 307 #[.val (.int p1), .val (.int p2), .val (.int p3), .val (.ref b4), .val (.long ra97), .second, .val (.long ex100), .second, .val (.int (1 : Int32)), .val (.int pp90), .val (.int (1 : Int32)), .val (.long (own_r1 ra85 pp90)), .second, .val (.int sx100), .val (.long xl101), .second, .val (.ref rr102)] [(.int (1 : Int32))])
        refine ow_istore C A102 at_307 (Ls' := #[.val (.int p1), .val (.int p2), .val (.int p3), .val (.ref b4), .val (.long ra97), .second, .val (.long ex100), .second, .val (.int (1 : Int32)), .val (.int pp90), .val (.int (1 : Int32)), .val (.long (own_r1 ra85 pp90)), .second, .val (.int sx100), .val (.long xl101), .second, .val (.ref rr102)]) rfl rfl ?_
        refine ow_iload C A102 at_309 rfl rfl ?_
        refine ow_ireturn C A102 (t := .boolean) rfl rfl (by simp) at_311 (by decide) (by decide) ?_
        exact rfl
set_option maxRecDepth 65536 in
set_option maxHeartbeats 40000000 in
theorem comes_1 {Post : Tables → Env → Array Value → State → Outcome → State → Prop} (hpost : ∀ tb e args s v u, (limb_1_1.after args s (.returned v) u = true ∧ limb_1_2.after args s (.returned v) u = true ∧ True) → FrameEnd s (.returned v) u (Jvm.fieldLocs frame_1_writes args s ++ Jvm.arrayLocs frame_1_arrays args s ++ Jvm.staticLocs frame_1_statics s) 16 192 → Post tb e args s (.returned v) u) :
    ArmFor flags0 classFile x code maxLocals ret World_1 tables_1 room_1 Calls_1 rest_1 Pre_1 Post := by
  intro l hfl _ _ p e ha hc hk s m args below hf hA hF happ hP
  obtain ⟨hcalls, hrest, hpre⟩ := hP
  obtain ⟨-, -, -, hnamed, -, -, -, hat⟩ := (Spec.applies_iff hf).mp happ
  obtain ⟨hg, hn⟩ := and_e (Cond.before_iff.mp (show (Jvm.Cond.and given_1 narrow_1).before args s = true from hpre))
  obtain ⟨gg1, gg2⟩ := and_e hg
  obtain ⟨gg3, gg4⟩ := and_e gg2
  obtain ⟨gg5, gg6⟩ := and_e gg4
  obtain ⟨w0, w1, w2, rfl⟩ : ∃ w0 w1 w2 : Value, args = #[w0, w1, w2] := by
    have hs : args.size = 3 := by simpa [Cond.value, given_1] using gg1
    obtain ⟨L⟩ := args
    match L, hs with
    | [w0, w1, w2], _ => exact ⟨w0, w1, w2, rfl⟩
  have hw := fun d (hd : d ∈ tables_1) => atoms_spec (ws := Jvm.Cond.code x code maxLocals ret :: tables_1) hat d (List.mem_cons_of_mem _ hd)
  have hfit : Fit s := fun {y c} hc i hi => by
    obtain ⟨ha, rfl⟩ := Array.getElem?_eq_some_iff.mp hc
    have q := List.all_eq_true.mp ((Array.all_eq_true_iff_forall_mem.mp hF) _ (Array.getElem_mem ha)) i (List.mem_range.mpr hi)
    simpa [Array.getElem?_eq_getElem hi] using q
  obtain ⟨i0, ei0⟩ := is_v gg3
  obtain rfl : w0 = (.int i0) := Option.some.inj ei0
  obtain ⟨i1, ei1⟩ := is_v gg5
  obtain rfl : w1 = (.int i1) := Option.some.inj ei1
  obtain ⟨i2, ei2⟩ := is_v gg6
  obtain rfl : w2 = (.int i2) := Option.some.inj ei2
  obtain ⟨n, o, h1, h2, h3, _, L, rfl, ⟨N, -, rfl⟩, hq⟩ := rm0 l s _ hw i0 i1 i2 s.heap  tables_1 p e ha hc hk s m _ below hf ((Spec.applies_iff_loose hf).mp happ).1 ⟨rfl, State.Warmed39.refl s, rfl⟩ trivial
  refine ⟨n, _, h1, h2, h3, hpost _ _ _ _ _ _ ⟨Cond.after_iff.mpr rfl, Cond.after_iff.mpr (eq_i res_at (Term.int_eval (1)) rfl), trivial⟩ ⟨hq.1, hq.2.1, (hq.2.2.sift fun y hy => Or.inr ((N y hy).elim (fun q => nomatch q) id)).mono (by decide) (by decide)⟩⟩
theorem main_1_1 : Claimed_1_1 := comes_1 fun _ _ _ _ _ _ h hF => ⟨h.1, hF⟩
theorem main_1_2 : Claimed_1_2 := comes_1 fun _ _ _ _ _ _ h hF => ⟨h.2.1, hF⟩
end Jvm.Pilot.@@N@@
namespace Jvm.Pilot.@@N@@
open Jvm Jvm.ClassFile Sem Op Lib Jvm.Free Jvm.Stand Jvm.Pilot.@@N@@.Jvm.D
/-! MADE BY PROGRAM (witnessworld.py) out of the Statement's table words and the real class files: 12 classes; the members and pool entries that the words name. The judged class is class 1, her method 4. -/
namespace start1
open Jvm.ClassFile
def u (s : String) : CpInfo := .utf8 (stringToUtf16 s)
/-- a pool by its gaps: so many unusable entries, then the entry; so many at the end -/
def gap : Nat → List CpInfo → List CpInfo
  | 0, r => r
  | n + 1, r => .unusable :: gap n r
def poolList (es : List (Nat × CpInfo)) (last : Nat) : List CpInfo := es.foldr (fun e r => gap e.1 (e.2 :: r)) (gap last [])
def pool (es : List (Nat × CpInfo)) (last : Nat) : Array CpInfo := ⟨poolList es last⟩
def fileOf (pool : Array CpInfo) (this : Nat) (attrs : Array Attribute := #[]) (ms : Array MethodInfo := #[]) (fl : Nat := 33) (sup : Nat := 0) (ifs : Array Nat := #[]) (fds : Array FieldInfo := #[]) : ClassFile where
  minorVersion := 0
  majorVersion := 65
  constantPool := pool
  accessFlags := fl
  thisClass := this
  superClass := sup
  interfaces := ifs
  fields := fds
  methods := ms
  attributes := attrs
def plain (name : String) (sup : Option ClassId) : Class where
  name := name
  kind := .ordinary
  loader := none
  accessFlags := 33
  super := sup
  interfaces := #[]
  cf := none
  fields := #[]
  methods := #[]
  instanceTypes := #[]
  staticTypes := #[]
  resolved := #[]
  callSites := []
  init := .initialized
  statics := none
  mirror := none

def pool0 : Array CpInfo := pool [(5, u "<init>"), (0, u "()V"), (1, .class_ 10), (1, u "java/lang/Object")] 113

def k0c0 : Code := { maxStack := 0, maxLocals := 1, code := object_method_1_code, exceptionTable := #[], attributes := #[] }
def k0m0 : Method := { name := "<init>", desc := "()V", sig := { parameters := [], returnType := none }, accessFlags := 1, code := some k0c0 }
/-- java/lang/Object -/
def k0 : Class := { plain "java/lang/Object" none with
  accessFlags := 33
  interfaces := #[]
  cf := some (fileOf pool0 8 #[] #[{ accessFlags := 1, nameIndex := 5, descriptorIndex := 6, attributes := #[] }] 33 0 #[] #[])
  fields := #[]
  methods := #[k0m0]
  instanceTypes := #[]
  staticTypes := #[]
  resolved := Array.replicate 124 none
  statics := none }

def pool1 : Array CpInfo := pool [(2, .class_ 4), (0, .nameAndType 5 6), (0, u "java/lang/Object"), (0, u "<init>"), (0, u "()V"), (0, .integer 2147483647), (0, .long 16777216), (1, .class_ 11), (0, u "com/example/phasorwire/phasorwire/RangeEncoder"), (0, .methodref 10 3), (0, .long 4294967295), (1, .long 4), (1, .methodref 10 18), (0, .nameAndType 19 20), (0, u "lengthBound"), (0, u "()J"), (0, .methodref 22 23), (0, .class_ 24), (0, .nameAndType 25 26), (0, u "com/example/phasorwire/phasorwire/RangeEncoderLengthBoundPinLaw"), (0, u "prob"), (0, u "(I)I"), (0, .methodref 10 28), (0, .nameAndType 29 30), (0, u "encode"), (0, u "(IZ)V"), (0, .methodref 22 32), (0, .nameAndType 33 34), (0, u "raw"), (0, u "(JIZ)J"), (0, .methodref 22 36), (0, .nameAndType 37 38), (0, u "shifts"), (0, u "(J)I"), (0, .methodref 10 40), (0, .nameAndType 41 42), (0, u "finish"), (0, u "()[B"), (3, u "law"), (0, u "(III)Z")] 4

def k1m0 : Method := { name := "<init>", desc := "()V", sig := { parameters := [], returnType := none }, accessFlags := 1, code := none }
def k1c1 : Code := { maxStack := 3, maxLocals := 1, code := method_2_code, exceptionTable := #[], attributes := #[] }
def k1m1 : Method := { name := "prob", desc := "(I)I", sig := { parameters := [.int], returnType := some .int }, accessFlags := 10, code := some k1c1 }
def k1c2 : Code := { maxStack := 4, maxLocals := 6, code := method_3_code, exceptionTable := #[], attributes := #[] }
def k1m2 : Method := { name := "raw", desc := "(JIZ)J", sig := { parameters := [.long, .int, .boolean], returnType := some .long }, accessFlags := 10, code := some k1c2 }
def k1c3 : Code := { maxStack := 4, maxLocals := 2, code := method_4_code, exceptionTable := #[], attributes := #[] }
def k1m3 : Method := { name := "shifts", desc := "(J)I", sig := { parameters := [.long], returnType := some .int }, accessFlags := 10, code := some k1c3 }
def k1c4 : Code := { maxStack := 5, maxLocals := 17, code := code, exceptionTable := #[], attributes := #[] }
def k1m4 : Method := { name := "law", desc := "(III)Z", sig := { parameters := [.int, .int, .int], returnType := some .boolean }, accessFlags := 9, code := some k1c4 }
/-- com/example/phasorwire/phasorwire/RangeEncoderLengthBoundPinLaw -/
def k1 : Class := { plain "com/example/phasorwire/phasorwire/RangeEncoderLengthBoundPinLaw" (some 0) with
  accessFlags := 49
  interfaces := #[]
  cf := some (fileOf pool1 22 #[] #[{ accessFlags := 1, nameIndex := 5, descriptorIndex := 6, attributes := #[] }, { accessFlags := 10, nameIndex := 25, descriptorIndex := 26, attributes := #[] }, { accessFlags := 10, nameIndex := 33, descriptorIndex := 34, attributes := #[] }, { accessFlags := 10, nameIndex := 37, descriptorIndex := 38, attributes := #[] }, { accessFlags := 9, nameIndex := 46, descriptorIndex := 47, attributes := #[] }] 49 2 #[] #[])
  fields := #[]
  methods := #[k1m0, k1m1, k1m2, k1m3, k1m4]
  instanceTypes := #[]
  staticTypes := #[]
  resolved := Array.replicate 52 none
  statics := none }

def pool2 : Array CpInfo := pool [(1, .class_ 2), (0, u "com/example/phasorwire/phasorwire/RangeEncoder"), (0, .methodref 4 5), (0, .class_ 6), (0, .nameAndType 7 8), (0, u "java/lang/Object"), (0, u "<init>"), (0, u "()V"), (0, .long 4294967295), (1, .fieldref 1 12), (0, .nameAndType 13 14), (0, u "range"), (0, u "J"), (0, .fieldref 1 16), (0, .nameAndType 17 18), (0, u "held"), (0, u "I"), (0, .fieldref 1 20), (0, .nameAndType 21 22), (0, u "bytes"), (0, u "[B"), (0, .long 18446744073709551615), (1, .fieldref 1 26), (0, .nameAndType 27 14), (0, u "low"), (0, .long 2), (1, .long 16777216), (1, .methodref 1 33), (0, .nameAndType 34 8), (0, u "shift"), (0, .fieldref 1 36), (0, .nameAndType 37 18), (0, u "length"), (0, .fieldref 1 39), (0, .nameAndType 40 14), (0, u "heldOnes"), (0, .long 4), (1, .methodref 44 45), (0, .class_ 46), (0, .nameAndType 47 48), (0, u "java/util/Arrays"), (0, u "copyOf"), (0, u "([BI)[B"), (0, .long 4278190080), (1, .long 4294967296), (1, .methodref 1 54), (0, .nameAndType 55 56), (0, u "write"), (0, u "(I)V"), (0, .long 16777215), (1, u "PROBABILITY_BITS"), (2, u "TOP"), (0, u "WINDOW"), (0, u "FULL_RANGE"), (2, u "encode"), (0, u "(IZ)V"), (1, u "lengthBound"), (0, u "()J"), (0, u "finish"), (0, u "()[B")] 2

def k2c0 : Code := { maxStack := 3, maxLocals := 1, code := prog_63_method_1_code, exceptionTable := #[], attributes := #[] }
def k2m0 : Method := { name := "<init>", desc := "()V", sig := { parameters := [], returnType := none }, accessFlags := 0, code := some k2c0 }
def k2c1 : Code := { maxStack := 9, maxLocals := 7, code := prog_63_method_2_code, exceptionTable := #[], attributes := #[] }
def k2m1 : Method := { name := "encode", desc := "(IZ)V", sig := { parameters := [.int, .boolean], returnType := none }, accessFlags := 0, code := some k2c1 }
def k2c2 : Code := { maxStack := 4, maxLocals := 1, code := prog_63_method_3_code, exceptionTable := #[], attributes := #[] }
def k2m2 : Method := { name := "lengthBound", desc := "()J", sig := { parameters := [], returnType := some .long }, accessFlags := 0, code := some k2c2 }
def k2c3 : Code := { maxStack := 6, maxLocals := 7, code := prog_63_method_4_code, exceptionTable := #[], attributes := #[] }
def k2m3 : Method := { name := "finish", desc := "()[B", sig := { parameters := [], returnType := some (.array .byte) }, accessFlags := 0, code := some k2c3 }
def k2c4 : Code := { maxStack := 5, maxLocals := 2, code := prog_63_method_5_code, exceptionTable := #[], attributes := #[] }
def k2m4 : Method := { name := "shift", desc := "()V", sig := { parameters := [], returnType := none }, accessFlags := 2, code := some k2c4 }
def k2c5 : Code := { maxStack := 5, maxLocals := 2, code := prog_63_method_6_code, exceptionTable := #[], attributes := #[] }
def k2m5 : Method := { name := "write", desc := "(I)V", sig := { parameters := [.int], returnType := none }, accessFlags := 2, code := some k2c5 }
/-- com/example/phasorwire/phasorwire/RangeEncoder -/
def k2 : Class := { plain "com/example/phasorwire/phasorwire/RangeEncoder" (some 0) with
  accessFlags := 48
  interfaces := #[]
  cf := some (fileOf pool2 1 #[] #[{ accessFlags := 0, nameIndex := 7, descriptorIndex := 8, attributes := #[] }, { accessFlags := 0, nameIndex := 67, descriptorIndex := 68, attributes := #[] }, { accessFlags := 0, nameIndex := 70, descriptorIndex := 71, attributes := #[] }, { accessFlags := 0, nameIndex := 72, descriptorIndex := 73, attributes := #[] }, { accessFlags := 2, nameIndex := 34, descriptorIndex := 8, attributes := #[] }, { accessFlags := 2, nameIndex := 55, descriptorIndex := 56, attributes := #[] }] 48 4 #[] #[{ accessFlags := 24, nameIndex := 59, descriptorIndex := 18, attributes := #[] }, { accessFlags := 24, nameIndex := 62, descriptorIndex := 14, attributes := #[] }, { accessFlags := 26, nameIndex := 63, descriptorIndex := 14, attributes := #[] }, { accessFlags := 24, nameIndex := 64, descriptorIndex := 14, attributes := #[] }, { accessFlags := 2, nameIndex := 27, descriptorIndex := 14, attributes := #[] }, { accessFlags := 2, nameIndex := 13, descriptorIndex := 14, attributes := #[] }, { accessFlags := 2, nameIndex := 17, descriptorIndex := 18, attributes := #[] }, { accessFlags := 2, nameIndex := 40, descriptorIndex := 14, attributes := #[] }, { accessFlags := 2, nameIndex := 21, descriptorIndex := 22, attributes := #[] }, { accessFlags := 2, nameIndex := 37, descriptorIndex := 18, attributes := #[] }])
  fields := #[{ name := "PROBABILITY_BITS", type := .int, accessFlags := 24, slot := 0, constantValue := 0 }, { name := "TOP", type := .long, accessFlags := 24, slot := 1, constantValue := 0 }, { name := "WINDOW", type := .long, accessFlags := 26, slot := 2, constantValue := 0 }, { name := "FULL_RANGE", type := .long, accessFlags := 24, slot := 3, constantValue := 0 }, { name := "low", type := .long, accessFlags := 2, slot := 0, constantValue := 0 }, { name := "range", type := .long, accessFlags := 2, slot := 1, constantValue := 0 }, { name := "held", type := .int, accessFlags := 2, slot := 2, constantValue := 0 }, { name := "heldOnes", type := .long, accessFlags := 2, slot := 3, constantValue := 0 }, { name := "bytes", type := (.array .byte), accessFlags := 2, slot := 4, constantValue := 0 }, { name := "length", type := .int, accessFlags := 2, slot := 5, constantValue := 0 }]
  methods := #[k2m0, k2m1, k2m2, k2m3, k2m4, k2m5]
  instanceTypes := #[.long, .long, .int, .long, (.array .byte), .int]
  staticTypes := #[.int, .long, .long, .long]
  resolved := Array.replicate 76 none
  statics := none }

def pool3 : Array CpInfo := pool [(2, .class_ 4), (1, u "java/lang/Object"), (0, u "<init>"), (0, u "()V"), (7, .class_ 16), (1, u "java/util/Arrays"), (57, .class_ 76), (1, u "java/util/Arrays$NaturalOrder"), (36, .class_ 115), (1, u "java/util/Arrays$LegacyMergeSort"), (1, u "Z"), (32, .methodref 151 152), (0, .class_ 153), (0, .nameAndType 154 155), (0, u "java/lang/System"), (0, u "arraycopy"), (0, u "(Ljava/lang/Object;ILjava/lang/Object;II)V"), (146, u "copyOf"), (1, .methodref 305 306), (0, .class_ 307), (0, .nameAndType 308 309), (0, u "java/lang/Math"), (0, u "min"), (0, u "(II)I"), (65, .class_ 376), (0, u "java/util/Arrays$ArrayList"), (68, u "$assertionsDisabled"), (269, u "MIN_ARRAY_SORT_GRAN"), (0, u "I"), (2, u "INSERTIONSORT_THRESHOLD"), (149, u "([BI)[B"), (105, .class_ 976), (0, u "java/util/Arrays$ArrayItr")] 52

def k3m0 : Method := { name := "<init>", desc := "()V", sig := { parameters := [], returnType := none }, accessFlags := 2, code := none }
def k3c1 : Code := { maxStack := 6, maxLocals := 3, code := jdk_65_method_121_code, exceptionTable := #[], attributes := #[] }
def k3m1 : Method := { name := "copyOf", desc := "([BI)[B", sig := { parameters := [(.array .byte), .int], returnType := some (.array .byte) }, accessFlags := 9, code := some k3c1 }
/-- java/util/Arrays -/
def k3 : Class := { plain "java/util/Arrays" (some 0) with
  accessFlags := 49
  interfaces := #[]
  cf := some (fileOf pool3 14 #[.nestMembers #[975, 375, 113, 74]] #[{ accessFlags := 2, nameIndex := 5, descriptorIndex := 6, attributes := #[] }, { accessFlags := 9, nameIndex := 302, descriptorIndex := 869, attributes := #[] }] 49 2 #[] #[{ accessFlags := 26, nameIndex := 715, descriptorIndex := 716, attributes := #[] }, { accessFlags := 26, nameIndex := 719, descriptorIndex := 716, attributes := #[] }, { accessFlags := 4120, nameIndex := 445, descriptorIndex := 117, attributes := #[] }])
  fields := #[{ name := "MIN_ARRAY_SORT_GRAN", type := .int, accessFlags := 26, slot := 0, constantValue := 0 }, { name := "INSERTIONSORT_THRESHOLD", type := .int, accessFlags := 26, slot := 1, constantValue := 0 }, { name := "$assertionsDisabled", type := .boolean, accessFlags := 4120, slot := 2, constantValue := 0 }]
  methods := #[k3m0, k3m1]
  instanceTypes := #[]
  staticTypes := #[.int, .int, .boolean]
  resolved := Array.replicate 1029 none
  statics := none }

def pool4 : Array CpInfo := pool [(1, .class_ 2), (0, u "java/lang/Math"), (1, .class_ 6), (1, u "java/lang/Object"), (0, u "<init>"), (0, u "()V"), (89, .class_ 100), (1, u "java/lang/Math$RandomNumberGeneratorHolder"), (71, u "negativeZeroFloatBits"), (0, u "J"), (2, u "negativeZeroDoubleBits"), (24, u "min"), (43, u "$assertionsDisabled"), (0, u "Z"), (88, u "(II)I"), (2, u "twoToTheDoubleScaleDown"), (0, u "D"), (4, u "twoToTheDoubleScaleUp"), (9, u "E"), (3, u "PI"), (2, u "TAU"), (2, u "DEGREES_TO_RADIANS"), (0, u "RADIANS_TO_DEGREES")] 94

def k4m0 : Method := { name := "<init>", desc := "()V", sig := { parameters := [], returnType := none }, accessFlags := 2, code := none }
def k4c1 : Code := { maxStack := 2, maxLocals := 2, code := jdk_29_method_69_code, exceptionTable := #[], attributes := #[] }
def k4m1 : Method := { name := "min", desc := "(II)I", sig := { parameters := [.int, .int], returnType := some .int }, accessFlags := 9, code := some k4c1 }
/-- java/lang/Math -/
def k4 : Class := { plain "java/lang/Math" (some 0) with
  accessFlags := 49
  interfaces := #[]
  cf := some (fileOf pool4 1 #[.nestMembers #[98]] #[{ accessFlags := 2, nameIndex := 7, descriptorIndex := 8, attributes := #[] }, { accessFlags := 9, nameIndex := 201, descriptorIndex := 335, attributes := #[] }] 49 4 #[] #[{ accessFlags := 25, nameIndex := 354, descriptorIndex := 339, attributes := #[] }, { accessFlags := 25, nameIndex := 358, descriptorIndex := 339, attributes := #[] }, { accessFlags := 25, nameIndex := 361, descriptorIndex := 339, attributes := #[] }, { accessFlags := 26, nameIndex := 364, descriptorIndex := 339, attributes := #[] }, { accessFlags := 26, nameIndex := 365, descriptorIndex := 339, attributes := #[] }, { accessFlags := 26, nameIndex := 172, descriptorIndex := 173, attributes := #[] }, { accessFlags := 26, nameIndex := 176, descriptorIndex := 173, attributes := #[] }, { accessFlags := 8, nameIndex := 344, descriptorIndex := 339, attributes := #[] }, { accessFlags := 8, nameIndex := 338, descriptorIndex := 339, attributes := #[] }, { accessFlags := 4120, nameIndex := 245, descriptorIndex := 246, attributes := #[] }])
  fields := #[{ name := "E", type := .double, accessFlags := 25, slot := 0, constantValue := 0 }, { name := "PI", type := .double, accessFlags := 25, slot := 1, constantValue := 0 }, { name := "TAU", type := .double, accessFlags := 25, slot := 2, constantValue := 0 }, { name := "DEGREES_TO_RADIANS", type := .double, accessFlags := 26, slot := 3, constantValue := 0 }, { name := "RADIANS_TO_DEGREES", type := .double, accessFlags := 26, slot := 4, constantValue := 0 }, { name := "negativeZeroFloatBits", type := .long, accessFlags := 26, slot := 5, constantValue := 0 }, { name := "negativeZeroDoubleBits", type := .long, accessFlags := 26, slot := 6, constantValue := 0 }, { name := "twoToTheDoubleScaleUp", type := .double, accessFlags := 8, slot := 7, constantValue := 0 }, { name := "twoToTheDoubleScaleDown", type := .double, accessFlags := 8, slot := 8, constantValue := 0 }, { name := "$assertionsDisabled", type := .boolean, accessFlags := 4120, slot := 9, constantValue := 0 }]
  methods := #[k4m0, k4m1]
  instanceTypes := #[]
  staticTypes := #[.double, .double, .double, .double, .double, .long, .long, .double, .double, .boolean]
  resolved := Array.replicate 460 none
  statics := none }

def pool5 : Array CpInfo := pool [(2, .class_ 4), (1, u "java/lang/Object"), (0, u "<init>"), (0, u "()V"), (1, .class_ 10), (1, u "java/lang/System"), (0, u "allowSecurityManager"), (0, u "I"), (16, u "cons"), (0, u "Ljava/io/Console;"), (77, .class_ 110), (1, u "java/lang/System$CallersHolder"), (43, u "initialErrStream"), (0, u "Ljava/io/PrintStream;"), (19, u "security"), (0, u "Ljava/lang/SecurityManager;"), (31, .class_ 209), (0, u "java/lang/System$1"), (7, u "props"), (0, u "Ljava/util/Properties;"), (2, u "lineSeparator"), (0, u "Ljava/lang/String;"), (96, .class_ 321), (1, u "java/lang/System$LoggerFinder"), (5, .class_ 328), (0, u "java/lang/System$Logger"), (67, u "err"), (2, u "out"), (91, u "notSupportedJnuEncoding"), (15, u "in"), (17, u "initialIn"), (0, u "Ljava/io/InputStream;"), (35, u "bootLayer"), (0, u "Ljava/lang/ModuleLayer;"), (99, .class_ 664), (0, u "java/lang/System$2"), (9, u "NEVER"), (2, u "MAYBE"), (49, u "arraycopy"), (0, u "(Ljava/lang/Object;ILjava/lang/Object;II)V"), (72, .class_ 802), (0, u "java/lang/System$Logger$Level")] 31

def k5m0 : Method := { name := "<init>", desc := "()V", sig := { parameters := [], returnType := none }, accessFlags := 2, code := none }
def k5m1 : Method := { name := "arraycopy", desc := "(Ljava/lang/Object;ILjava/lang/Object;II)V", sig := { parameters := [(.object "java/lang/Object"), .int, (.object "java/lang/Object"), .int, .int], returnType := none }, accessFlags := 265, code := none }
/-- java/lang/System -/
def k5 : Class := { plain "java/lang/System" (some 0) with
  accessFlags := 49
  interfaces := #[]
  cf := some (fileOf pool5 8 #[.nestMembers #[319, 327, 801, 108, 663, 208]] #[{ accessFlags := 2, nameIndex := 5, descriptorIndex := 6, attributes := #[] }, { accessFlags := 265, nameIndex := 727, descriptorIndex := 728, attributes := #[] }] 49 2 #[] #[{ accessFlags := 25, nameIndex := 507, descriptorIndex := 526, attributes := #[] }, { accessFlags := 25, nameIndex := 399, descriptorIndex := 155, attributes := #[] }, { accessFlags := 25, nameIndex := 396, descriptorIndex := 155, attributes := #[] }, { accessFlags := 10, nameIndex := 525, descriptorIndex := 526, attributes := #[] }, { accessFlags := 26, nameIndex := 674, descriptorIndex := 12, attributes := #[] }, { accessFlags := 26, nameIndex := 677, descriptorIndex := 12, attributes := #[] }, { accessFlags := 10, nameIndex := 11, descriptorIndex := 12, attributes := #[] }, { accessFlags := 74, nameIndex := 175, descriptorIndex := 176, attributes := #[] }, { accessFlags := 10, nameIndex := 491, descriptorIndex := 222, attributes := #[] }, { accessFlags := 74, nameIndex := 29, descriptorIndex := 30, attributes := #[] }, { accessFlags := 74, nameIndex := 154, descriptorIndex := 155, attributes := #[] }, { accessFlags := 10, nameIndex := 217, descriptorIndex := 218, attributes := #[] }, { accessFlags := 10, nameIndex := 221, descriptorIndex := 222, attributes := #[] }, { accessFlags := 8, nameIndex := 562, descriptorIndex := 563, attributes := #[] }])
  fields := #[{ name := "in", type := (.object "java/io/InputStream"), accessFlags := 25, slot := 0, constantValue := 0 }, { name := "out", type := (.object "java/io/PrintStream"), accessFlags := 25, slot := 1, constantValue := 0 }, { name := "err", type := (.object "java/io/PrintStream"), accessFlags := 25, slot := 2, constantValue := 0 }, { name := "initialIn", type := (.object "java/io/InputStream"), accessFlags := 10, slot := 3, constantValue := 0 }, { name := "NEVER", type := .int, accessFlags := 26, slot := 4, constantValue := 0 }, { name := "MAYBE", type := .int, accessFlags := 26, slot := 5, constantValue := 0 }, { name := "allowSecurityManager", type := .int, accessFlags := 10, slot := 6, constantValue := 0 }, { name := "security", type := (.object "java/lang/SecurityManager"), accessFlags := 74, slot := 7, constantValue := 0 }, { name := "notSupportedJnuEncoding", type := (.object "java/lang/String"), accessFlags := 10, slot := 8, constantValue := 0 }, { name := "cons", type := (.object "java/io/Console"), accessFlags := 74, slot := 9, constantValue := 0 }, { name := "initialErrStream", type := (.object "java/io/PrintStream"), accessFlags := 74, slot := 10, constantValue := 0 }, { name := "props", type := (.object "java/util/Properties"), accessFlags := 10, slot := 11, constantValue := 0 }, { name := "lineSeparator", type := (.object "java/lang/String"), accessFlags := 10, slot := 12, constantValue := 0 }, { name := "bootLayer", type := (.object "java/lang/ModuleLayer"), accessFlags := 8, slot := 13, constantValue := 0 }]
  methods := #[k5m0, k5m1]
  instanceTypes := #[]
  staticTypes := #[(.object "java/io/InputStream"), (.object "java/io/PrintStream"), (.object "java/io/PrintStream"), (.object "java/io/InputStream"), .int, .int, .int, (.object "java/lang/SecurityManager"), (.object "java/lang/String"), (.object "java/io/Console"), (.object "java/io/PrintStream"), (.object "java/util/Properties"), (.object "java/lang/String"), (.object "java/lang/ModuleLayer")]
  resolved := Array.replicate 834 none
  statics := none }

def pool6 : Array CpInfo := pool [(1, u "java/lang/Cloneable"), (0, .class_ 1), (0, u "java/lang/Object"), (0, .class_ 3)] 3

/-- java/lang/Cloneable -/
def k6 : Class := { plain "java/lang/Cloneable" (some 0) with
  accessFlags := 1537
  interfaces := #[]
  cf := some (fileOf pool6 2 #[] #[] 1537 4 #[] #[])
  fields := #[]
  methods := #[]
  instanceTypes := #[]
  staticTypes := #[]
  resolved := Array.replicate 8 none
  statics := none }

def pool7 : Array CpInfo := pool [(1, u "java/io/Serializable"), (0, .class_ 1), (0, u "java/lang/Object"), (0, .class_ 3)] 3

/-- java/io/Serializable -/
def k7 : Class := { plain "java/io/Serializable" (some 0) with
  accessFlags := 1537
  interfaces := #[]
  cf := some (fileOf pool7 2 #[] #[] 1537 4 #[] #[])
  fields := #[]
  methods := #[]
  instanceTypes := #[]
  staticTypes := #[]
  resolved := Array.replicate 8 none
  statics := none }

/-- the primitive byte -/
def k8 : Class := { plain "byte" none with kind := .primitive 'B', accessFlags := 0x411 }
/-- [B -/
def k9 : Class := { plain "[B" (some 0) with kind := .array 8 .byte, interfaces := #[6, 7], accessFlags := 1041 }

/-- the primitive int -/
def k10 : Class := { plain "int" none with kind := .primitive 'I', accessFlags := 0x411 }
/-- [I -/
def k11 : Class := { plain "[I" (some 0) with kind := .array 10 .int, interfaces := #[6, 7], accessFlags := 1041 }

def heap : Heap := #[]
def classes : Array Class := #[k0, k1, k2, k3, k4, k5, k6, k7, k8, k9, k10, k11]
def interned : List (Array UInt16 × Addr) := []
def slotsUsed : Nat := 0
def theMethod : MethodId := ⟨1, 4⟩
def args0 : Array Value := #[.int 5, .int 5, .int 5]
def aboutOver (below : List Frame) : State where
  vm := { classes := classes, interned := interned.toArray }
  heap := heap
  slotsUsed := slotsUsed
  threads := #[{ frames := .invoking theMethod args0 :: below }]
def below0 : List Frame := [.native { method := ⟨0, 0⟩, args := #[] }]
def about1 : State := aboutOver below0
def p0 : Program := .bare "" "" ""
def e0 : Env := launch0.env 0 0 0
theorem w_frames : about1.frames = Frame.invoking theMethod args0 :: below0 := rfl
set_option maxRecDepth 65536 in
theorem w_args : argsFit about1.vm theMethod args0 = true := by decide +kernel
set_option maxRecDepth 65536 in
theorem w_heap : heapFits about1 = true := by decide +kernel
set_option maxRecDepth 65536 in
theorem w_runnable : about1.curStatus? = some .runnable := by decide +kernel
set_option maxRecDepth 65536 in
theorem w_alone : about1.alone = true := by decide +kernel
set_option maxRecDepth 65536 in
theorem w_named : about1.methodNamed? x = some theMethod := by decide +kernel
set_option maxRecDepth 65536 in
theorem w_hears : about1.hears theMethod below0 = true := by decide +kernel
set_option maxRecDepth 65536 in
theorem w_ripe : about1.ripe theMethod args0 below0 = true := by decide +kernel
theorem w_running : about1.status = .running := rfl
set_option maxRecDepth 65536 in
theorem w_room : about1.hasRoom e0.platform room_1 = true :=
  launch0.hasRoom_least _ room_1 (by decide +kernel) (by decide +kernel) (by decide +kernel) (by decide +kernel) (by decide +kernel) (by decide +kernel)
theorem allAtoms_all (ts : List Jvm.Cond) (a : Array Jvm.Value) (st : Jvm.State) : (allAtoms ts).before a st = ts.all (fun c => c.before a st) := by
  induction ts with
  | nil => rfl
  | cons c t ih =>
    show (Jvm.Cond.and c (allAtoms t)).before a st = _
    rw [Jvm.Cond.before_and, ih, List.all_cons]
def words1 : List Jvm.Cond := Jvm.Cond.code x code maxLocals ret :: tables_1
/-- a 'code' word, met by the world's own term for the bytes: nothing is compared byte by byte -/
theorem code_word {y : MethodName} {bytes : ByteArray} {mx : Nat} {rt : Option FieldType} {a : Array Value} {s : State} {m : MethodId} {meth : Method} {c : Code} (h1 : s.methodNamed? y = some m) (h2 : s.vm.method? m = some meth) (h3 : meth.code = some c) (h4 : c.code = bytes)
    (h5 : (c.maxLocals == mx && c.exceptionTable.isEmpty && decide (c.maxStack ≤ mostOperands) && decide (meth.sig.returnType = rt) && !meth.locks && decide (parseMethodDescriptor y.desc = some meth.sig)) = true) : (Jvm.Cond.code y bytes mx rt).before a s = true := by
  simp only [Bool.and_eq_true, beq_iff_eq, Bool.not_eq_true', decide_eq_true_eq] at h5
  obtain ⟨⟨⟨⟨⟨g1, g2⟩, g3⟩, g4⟩, g5⟩, g6⟩ := h5
  simp [Cond.before, Cond.holds, Cond.value, h1, h2, h3, h4, g1, g2, g3, g4, g5, g6]
def isCode : Jvm.Cond → Bool
  | .code _ _ _ _ => true
  | _ => false
theorem all_split {L : List Jvm.Cond} {P : Jvm.Cond → Bool} (h1 : L.all (fun c => isCode c || P c) = true) (h2 : ∀ c ∈ L.filter isCode, P c = true) : L.all P = true := by
  refine List.all_eq_true.mpr fun c hc => ?_
  have h := List.all_eq_true.mp h1 c hc
  rcases Bool.eq_false_or_eq_true (isCode c) with hi | hi
  · exact h2 c (List.mem_filter.mpr ⟨hc, hi⟩)
  · simpa [hi] using h
set_option maxRecDepth 65536 in
theorem w_c0 : (Jvm.Cond.code x code maxLocals ret).before args0 about1 = true := code_word (m := ⟨1, 4⟩) (meth := k1m4) (c := k1c4) (by decide +kernel) rfl rfl rfl (by decide +kernel)
set_option maxRecDepth 65536 in
theorem w_c1 : (Jvm.Cond.code ({ cls := "com/example/phasorwire/phasorwire/RangeEncoder", name := "<init>", desc := "()V" } : Jvm.MethodName) prog_63_method_1_code (1 : Nat) (Option.none : Option Jvm.ClassFile.FieldType)).before args0 about1 = true := code_word (m := ⟨2, 0⟩) (meth := k2m0) (c := k2c0) (by decide +kernel) rfl rfl rfl (by decide +kernel)
set_option maxRecDepth 65536 in
theorem w_c2 : (Jvm.Cond.code ({ cls := "java/lang/Object", name := "<init>", desc := "()V" } : Jvm.MethodName) object_method_1_code (1 : Nat) (Option.none : Option Jvm.ClassFile.FieldType)).before args0 about1 = true := code_word (m := ⟨0, 0⟩) (meth := k0m0) (c := k0c0) (by decide +kernel) rfl rfl rfl (by decide +kernel)
set_option maxRecDepth 65536 in
theorem w_c3 : (Jvm.Cond.code ({ cls := "com/example/phasorwire/phasorwire/RangeEncoder", name := "lengthBound", desc := "()J" } : Jvm.MethodName) prog_63_method_3_code (1 : Nat) (Option.some Jvm.ClassFile.FieldType.long)).before args0 about1 = true := code_word (m := ⟨2, 2⟩) (meth := k2m2) (c := k2c2) (by decide +kernel) rfl rfl rfl (by decide +kernel)
set_option maxRecDepth 65536 in
theorem w_c4 : (Jvm.Cond.code ({ cls := "com/example/phasorwire/phasorwire/RangeEncoderLengthBoundPinLaw", name := "prob", desc := "(I)I" } : Jvm.MethodName) method_2_code (1 : Nat) (Option.some Jvm.ClassFile.FieldType.int)).before args0 about1 = true := code_word (m := ⟨1, 1⟩) (meth := k1m1) (c := k1c1) (by decide +kernel) rfl rfl rfl (by decide +kernel)
set_option maxRecDepth 65536 in
theorem w_c5 : (Jvm.Cond.code ({ cls := "com/example/phasorwire/phasorwire/RangeEncoder", name := "encode", desc := "(IZ)V" } : Jvm.MethodName) prog_63_method_2_code (7 : Nat) (Option.none : Option Jvm.ClassFile.FieldType)).before args0 about1 = true := code_word (m := ⟨2, 1⟩) (meth := k2m1) (c := k2c1) (by decide +kernel) rfl rfl rfl (by decide +kernel)
set_option maxRecDepth 65536 in
theorem w_c6 : (Jvm.Cond.code ({ cls := "com/example/phasorwire/phasorwire/RangeEncoder", name := "shift", desc := "()V" } : Jvm.MethodName) prog_63_method_5_code (2 : Nat) (Option.none : Option Jvm.ClassFile.FieldType)).before args0 about1 = true := code_word (m := ⟨2, 4⟩) (meth := k2m4) (c := k2c4) (by decide +kernel) rfl rfl rfl (by decide +kernel)
set_option maxRecDepth 65536 in
theorem w_c7 : (Jvm.Cond.code ({ cls := "com/example/phasorwire/phasorwire/RangeEncoderLengthBoundPinLaw", name := "raw", desc := "(JIZ)J" } : Jvm.MethodName) method_3_code (6 : Nat) (Option.some Jvm.ClassFile.FieldType.long)).before args0 about1 = true := code_word (m := ⟨1, 2⟩) (meth := k1m2) (c := k1c2) (by decide +kernel) rfl rfl rfl (by decide +kernel)
set_option maxRecDepth 65536 in
theorem w_c8 : (Jvm.Cond.code ({ cls := "com/example/phasorwire/phasorwire/RangeEncoderLengthBoundPinLaw", name := "shifts", desc := "(J)I" } : Jvm.MethodName) method_4_code (2 : Nat) (Option.some Jvm.ClassFile.FieldType.int)).before args0 about1 = true := code_word (m := ⟨1, 3⟩) (meth := k1m3) (c := k1c3) (by decide +kernel) rfl rfl rfl (by decide +kernel)
set_option maxRecDepth 65536 in
theorem w_c9 : (Jvm.Cond.code ({ cls := "com/example/phasorwire/phasorwire/RangeEncoder", name := "write", desc := "(I)V" } : Jvm.MethodName) prog_63_method_6_code (2 : Nat) (Option.none : Option Jvm.ClassFile.FieldType)).before args0 about1 = true := code_word (m := ⟨2, 5⟩) (meth := k2m5) (c := k2c5) (by decide +kernel) rfl rfl rfl (by decide +kernel)
set_option maxRecDepth 65536 in
theorem w_c10 : (Jvm.Cond.code ({ cls := "com/example/phasorwire/phasorwire/RangeEncoder", name := "finish", desc := "()[B" } : Jvm.MethodName) prog_63_method_4_code (7 : Nat) (Option.some (Jvm.ClassFile.FieldType.array Jvm.ClassFile.FieldType.byte))).before args0 about1 = true := code_word (m := ⟨2, 3⟩) (meth := k2m3) (c := k2c3) (by decide +kernel) rfl rfl rfl (by decide +kernel)
set_option maxRecDepth 65536 in
theorem w_c11 : (Jvm.Cond.code ({ cls := "java/util/Arrays", name := "copyOf", desc := "([BI)[B" } : Jvm.MethodName) jdk_65_method_121_code (3 : Nat) (Option.some (Jvm.ClassFile.FieldType.array Jvm.ClassFile.FieldType.byte))).before args0 about1 = true := code_word (m := ⟨3, 1⟩) (meth := k3m1) (c := k3c1) (by decide +kernel) rfl rfl rfl (by decide +kernel)
set_option maxRecDepth 65536 in
theorem w_c12 : (Jvm.Cond.code ({ cls := "java/lang/Math", name := "min", desc := "(II)I" } : Jvm.MethodName) jdk_29_method_69_code (2 : Nat) (Option.some Jvm.ClassFile.FieldType.int)).before args0 about1 = true := code_word (m := ⟨4, 1⟩) (meth := k4m1) (c := k4c1) (by decide +kernel) rfl rfl rfl (by decide +kernel)
def codes1 : List Jvm.Cond := [Jvm.Cond.code x code maxLocals ret, Jvm.Cond.code ({ cls := "com/example/phasorwire/phasorwire/RangeEncoder", name := "<init>", desc := "()V" } : Jvm.MethodName) prog_63_method_1_code (1 : Nat) (Option.none : Option Jvm.ClassFile.FieldType), Jvm.Cond.code ({ cls := "java/lang/Object", name := "<init>", desc := "()V" } : Jvm.MethodName) object_method_1_code (1 : Nat) (Option.none : Option Jvm.ClassFile.FieldType), Jvm.Cond.code ({ cls := "com/example/phasorwire/phasorwire/RangeEncoder", name := "lengthBound", desc := "()J" } : Jvm.MethodName) prog_63_method_3_code (1 : Nat) (Option.some Jvm.ClassFile.FieldType.long), Jvm.Cond.code ({ cls := "com/example/phasorwire/phasorwire/RangeEncoderLengthBoundPinLaw", name := "prob", desc := "(I)I" } : Jvm.MethodName) method_2_code (1 : Nat) (Option.some Jvm.ClassFile.FieldType.int), Jvm.Cond.code ({ cls := "com/example/phasorwire/phasorwire/RangeEncoder", name := "encode", desc := "(IZ)V" } : Jvm.MethodName) prog_63_method_2_code (7 : Nat) (Option.none : Option Jvm.ClassFile.FieldType), Jvm.Cond.code ({ cls := "com/example/phasorwire/phasorwire/RangeEncoder", name := "shift", desc := "()V" } : Jvm.MethodName) prog_63_method_5_code (2 : Nat) (Option.none : Option Jvm.ClassFile.FieldType), Jvm.Cond.code ({ cls := "com/example/phasorwire/phasorwire/RangeEncoderLengthBoundPinLaw", name := "raw", desc := "(JIZ)J" } : Jvm.MethodName) method_3_code (6 : Nat) (Option.some Jvm.ClassFile.FieldType.long), Jvm.Cond.code ({ cls := "com/example/phasorwire/phasorwire/RangeEncoderLengthBoundPinLaw", name := "shifts", desc := "(J)I" } : Jvm.MethodName) method_4_code (2 : Nat) (Option.some Jvm.ClassFile.FieldType.int), Jvm.Cond.code ({ cls := "com/example/phasorwire/phasorwire/RangeEncoder", name := "write", desc := "(I)V" } : Jvm.MethodName) prog_63_method_6_code (2 : Nat) (Option.none : Option Jvm.ClassFile.FieldType), Jvm.Cond.code ({ cls := "com/example/phasorwire/phasorwire/RangeEncoder", name := "finish", desc := "()[B" } : Jvm.MethodName) prog_63_method_4_code (7 : Nat) (Option.some (Jvm.ClassFile.FieldType.array Jvm.ClassFile.FieldType.byte)), Jvm.Cond.code ({ cls := "java/util/Arrays", name := "copyOf", desc := "([BI)[B" } : Jvm.MethodName) jdk_65_method_121_code (3 : Nat) (Option.some (Jvm.ClassFile.FieldType.array Jvm.ClassFile.FieldType.byte)), Jvm.Cond.code ({ cls := "java/lang/Math", name := "min", desc := "(II)I" } : Jvm.MethodName) jdk_29_method_69_code (2 : Nat) (Option.some Jvm.ClassFile.FieldType.int)]
set_option maxRecDepth 65536 in
theorem codes_eq : words1.filter isCode = codes1 := rfl
theorem w_codes : ∀ c ∈ words1.filter isCode, c.before args0 about1 = true := by
  rw [codes_eq]
  intro c hc
  simp only [codes1, List.mem_cons, List.not_mem_nil, or_false] at hc
  rcases hc with rfl | rfl | rfl | rfl | rfl | rfl | rfl | rfl | rfl | rfl | rfl | rfl | rfl
  · exact w_c0
  · exact w_c1
  · exact w_c2
  · exact w_c3
  · exact w_c4
  · exact w_c5
  · exact w_c6
  · exact w_c7
  · exact w_c8
  · exact w_c9
  · exact w_c10
  · exact w_c11
  · exact w_c12
set_option maxRecDepth 65536 in
theorem w_t1 : (words1.take 24).all (fun c => isCode c || c.before args0 about1) = true := by decide +kernel
set_option maxRecDepth 65536 in
theorem w_t2 : ((words1.drop 24).take 24).all (fun c => isCode c || c.before args0 about1) = true := by decide +kernel
set_option maxRecDepth 65536 in
theorem w_t3 : (((words1.drop 24).drop 24).take 24).all (fun c => isCode c || c.before args0 about1) = true := by decide +kernel
set_option maxRecDepth 65536 in
theorem w_t4 : (((words1.drop 24).drop 24).drop 24).all (fun c => isCode c || c.before args0 about1) = true := by decide +kernel
theorem w_tables : (allAtoms (Jvm.Cond.code x code maxLocals ret :: tables_1)).before args0 about1 = true := by
  rw [allAtoms_all]
  show words1.all (fun c => c.before args0 about1) = true
  refine all_split ?_ w_codes
  rw [← List.take_append_drop 24 words1, List.all_append, w_t1, ← List.take_append_drop 24 (words1.drop 24), List.all_append, w_t2, ← List.take_append_drop 24 ((words1.drop 24).drop 24), List.all_append, w_t3, w_t4]
  rfl
set_option maxRecDepth 65536 in
theorem w_case : (Jvm.Cond.and given_1 narrow_1).before args0 about1 = true := by decide +kernel
theorem w_applies : (headSpec (Jvm.Cond.code x code maxLocals ret :: tables_1) room_1).applies x e0.platform about1 = true :=
  (Spec.applies_iff w_frames).mpr ⟨w_running, w_runnable, w_alone, w_named, w_hears, w_ripe, w_room, w_tables⟩
theorem atStart : AtStart classFile x code maxLocals ret World_1 tables_1 room_1 Calls_1 rest_1 Pre_1 launch0 p0 e0 about1 theMethod args0 below0 :=
  ⟨lists_1, trivial, launch0.admits_env _ _ _, launch0.least_env, fairChoices_fair.cas, fairChoices_fair.clock, w_frames, w_args, w_heap, w_applies, trivial, trivial, w_case⟩
end start1
theorem witness_1 : WitnessClaimed_1 := ⟨start1.p0, start1.e0, start1.about1, start1.theMethod, start1.args0, start1.below0, start1.atStart⟩
end Jvm.Pilot.@@N@@
