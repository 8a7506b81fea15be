import JvmDerived
import JvmDerived.Pilot.@@N@@Statement
import JvmDerived.Pilot.@@N@@Code
set_option linter.unusedVariables false
set_option linter.unusedSimpArgs false
namespace Jvm.RoadKit
open Sem ClassFile Op Lib Jvm.Stand Jvm.Free Jvm.LawKit
section Own
variable {p : Program} {l : Launch} {e : Env} {R : Room} {s : State} {m : MethodId} {args : Array Value} {below : List Frame} {meth : Method} {c : Code} {T T' : State} {Z : State} {a0 : Array Value} {h h' h0 : Heap} {ws : List Addr} {ck sk CK SK : Nat} {Q : Option Value → Heap → Prop} {bytes : ByteArray} {ml : Nat} {ret : Option FieldType} {y0 : MethodName} {tw : List Jvm.Cond} {pc pc' : Nat} {Ls Ls' : Array Slot} {S : List Value} {g g' : JFrame}
/-- Java's >>> -/
def own_ushr (x y : Int32) : Int32 := (x.toUInt32 >>> (y &&& 31).toUInt32).toInt32
def own_ushrL (x : Int64) (y : Int32) : Int64 := (x.toUInt64 >>> (y &&& 63).toInt64.toUInt64).toInt64
/-- what is known of the method that is walked -/
def OwnCtx (p : Program) (s : State) (m : MethodId) (meth : Method) (c : Code) (Z : State) (a0 : Array Value) (tw : List Jvm.Cond) (y0 : MethodName) (bytes : ByteArray) (ml : Nat) (ret : Option FieldType) : Prop :=
  p.tables.exec = Jvm.exec ∧ Z.Warmed39 s.vm ∧ (∀ d ∈ tw, d.before a0 Z = true) ∧ c.code = bytes ∧ c.maxLocals = ml ∧ s.vm.findClass y0.cls = some m.cls ∧ meth.name = y0.name ∧ meth.sig.returnType = ret ∧ meth.locks = false
/-- where the walk stands: the heap h; of the heap h0 at the entry only the cells at ws may have been written -/
def OwnPos (p : Program) (l : Launch) (e : Env) (R : Room) (s : State) (m : MethodId) (args : Array Value) (below : List Frame) (meth : Method) (c : Code) (h0 : Heap) (ws : List Addr) (T : State) (h : Heap) (ck sk : Nat) : Prop :=
  ∃ locs, Stand p l e R s m args below meth c T locs ck sk ∧ T.heap = h ∧ (∀ y ∈ locs, y.base ∈ ws ∨ h0.size ≤ y.base) ∧ Keep h0 h ws
/-- from here the method returns as Q says -/
def OwnWP (p : Program) (e : Env) (below : List Frame) (s : State) (h0 : Heap) (ws : List Addr) (Q : Option Value → Heap → Prop) (CK SK : Nat) (T : State) (g : JFrame) : Prop :=
  ∃ s₂ o, Steps p.tables e below (T.setTop g) s₂ ∧ s₂.status = .running ∧ Ended s₂ below o ∧ ∃ v L, o = .returned v ∧ ((∀ y ∈ L, y.base ∈ ws ∨ h0.size ≤ y.base) ∧ Keep h0 s₂.heap ws ∧ Q v s₂.heap) ∧ FrameEnd s o s₂ L CK SK
/-- a method's contract -/
def OwnCtr (l : Launch) (Z : State) (y : MethodName) (bytes : ByteArray) (ml : Nat) (ret : Option FieldType) (rm : Room) (as : Array Value) (h0 : Heap) (ws : List Addr) (Q : Option Value → Heap → Prop) (cs : List Jvm.Cond) : Prop :=
  MetFree l y (head1 (Jvm.Cond.code y bytes ml ret :: cs) rm) (fun a U => a = as ∧ Z.Warmed39 U.vm ∧ U.heap = h0) (fun _ _ _ _ _ => True) (fun _ U o U' => ∃ v L, o = .returned v ∧ ((∀ y ∈ L, y.base ∈ ws ∨ h0.size ≤ y.base) ∧ Keep h0 U'.heap ws ∧ Q v U'.heap) ∧ FrameEnd U o U' L rm.cells rm.slots)
theorem ow_le (A : OwnPos p l e R s m args below meth c h0 ws T h ck sk) : h0.size ≤ h.size := by obtain ⟨_, _, _, _, K⟩ := A; exact K.1
theorem ow_st (q : ∀ target, Steps p.tables e below (T'.setTop g') target → Steps p.tables e below (T.setTop g) target) (k : OwnWP p e below s h0 ws Q CK SK T' g') : OwnWP p e below s h0 ws Q CK SK T g := by
  obtain ⟨s₂, o, k1, k2⟩ := k; exact ⟨s₂, o, q _ k1, k2⟩
theorem ow_stT (q : Steps p.tables e below (T.setTop g) (T'.setTop g')) (k : OwnWP p e below s h0 ws Q CK SK T' g') : OwnWP p e below s h0 ws Q CK SK T g := by
  obtain ⟨s₂, o, k1, k2⟩ := k; exact ⟨s₂, o, q.trans k1, k2⟩
theorem ow_mono {Q' : Option Value → Heap → Prop} (q : ∀ v h, Q' v h → Q v h) (k : OwnWP p e below s h0 ws Q' CK SK T g) : OwnWP p e below s h0 ws Q CK SK T g := by
  obtain ⟨s₂, o, k1, k2, k3, v, L, k4, ⟨k5, k6, k7⟩, k8⟩ := k; exact ⟨s₂, o, k1, k2, k3, v, L, k4, ⟨k5, k6, q _ _ k7⟩, k8⟩
theorem ow_ctr {rm : Room} {as : Array Value} {cs : List Jvm.Cond} {Ls : Array Slot} (hp : plainFor y0 = true) (hw : ∀ d ∈ tw, d.before a0 Z = true) (ef : ∀ m, entryFrame m as ml = mkF m 0 Ls [])
    (body : ∀ (p : Program) (e : Env) (s : State) (m : MethodId) (below : List Frame) (meth : Method) (c : Code) (T : State), OwnCtx p s m meth c Z a0 tw y0 bytes ml ret → OwnPos p l e rm s m as below meth c h0 ws T h0 0 0 → OwnWP p e below s h0 ws Q rm.cells rm.slots T (mkF m 0 Ls [])) :
    OwnCtr l Z y0 bytes ml ret rm as h0 ws Q cs := by
  refine MetFree.of_bodySF hp hisR ?_
  intro p e s m args below meth c s₁ Bd hml0 hP hK
  obtain ⟨rfl, hZ, hh⟩ := hP
  have X0 : Stand p l e rm s m _ below meth c s₁ [] 0 0 := Stand.of_body Bd
  have e0 : s₁.heap = h0 := by rw [← hh, Bd.state]; rfl
  have hk : meth.locks = false := BodyLoose.notSynchronized Bd
  obtain ⟨s₂, o, k1, k2⟩ := body p e s m below meth c s₁ ⟨Bd.exec, hZ, hw, Bd.bytes, hml0, findClass_of_methodNamed Bd.named, (name_of_methodNamed Bd.named Bd.method).1, Bd.returns, hk⟩ ⟨[], X0, e0, (fun _ q => nomatch q), Keep.refl _ _⟩
  exact ⟨s₂, o, castTop (ef m) k1, k2⟩
theorem ow_ctr_mono {rm : Room} {as : Array Value} {cs : List Jvm.Cond} {y : MethodName} {Q' : Option Value → Heap → Prop} (M : OwnCtr l Z y bytes ml ret rm as h0 ws Q cs) (q : ∀ v h, Q v h → Q' v h) : OwnCtr l Z y bytes ml ret rm as h0 ws Q' cs := by
  intro p e ha hc hk s m args below hf happ hP hK
  obtain ⟨n, o, h1, h2, h3, v, L, h4, ⟨h5, h6, h7⟩, h8⟩ := M p e ha hc hk s m args below hf happ hP hK
  exact ⟨n, o, h1, h2, h3, v, L, h4, ⟨h5, h6, q _ _ h7⟩, h8⟩
theorem ow_done {v : Option Value} (C : OwnCtx p s m meth c Z a0 tw y0 bytes ml ret) (A : OwnPos p l e R s m args below meth c h0 ws T h ck sk) (hv : ret = none → v = none) (h1 : ck ≤ CK) (h2 : sk ≤ SK) (hq : Q v h)
    (hst : ∀ {locs : List Loc} {fs : List Frame}, Stand p l e R s m args below meth c T locs ck sk → (∀ (f : JFrame) (acts : List Action), f.method = m → f.locked = none → f.entered = [] → (doReturn e (T.setTop f) acts v).1 = T.setFrames fs) → Steps p.tables e below (T.setTop g) (T.setFrames fs)) :
    OwnWP p e below s h0 ws Q CK SK T g := by
  obtain ⟨locs, X, rfl, N, K⟩ := A
  obtain ⟨fs, hr, hrun, hended, hW, hsame⟩ := X.leave (v := v) (fun q => hv (C.2.2.2.2.2.2.2.1.symm.trans q)) C.2.2.2.2.2.2.2.2
  exact ⟨_, _, hst X hr, hrun, hended, _, _, rfl, ⟨N, K, hq⟩, ⟨_, rfl⟩, hW, hsame.mono h1 h2⟩
theorem ow_ireturn (C : OwnCtx p s m meth c Z a0 tw y0 bytes ml ret) (A : OwnPos p l e R s m args below meth c h0 ws T h ck sk) {t : FieldType} {w : Int32} (hret : ret = some t) (hn : narrow t (.int w) = .int w) (hti : t = .int ∨ t = .boolean ∨ t = .byte ∨ t = .char ∨ t = .short)
    (hd : decode bytes pc = .ok (.ireturn, 1)) (h1 : ck ≤ CK) (h2 : sk ≤ SK) (hq : Q (some (.int w)) h) : OwnWP p e below s h0 ws Q CK SK T (mkF m pc Ls [.int w]) :=
  ow_done C A (fun q => by rw [hret] at q; cases q) h1 h2 hq fun X hr => X.ireturnOut C.1 (C.2.2.2.2.2.2.2.1.trans hret) hn hti (hb C.2.2.2.1 hd) hr
theorem ow_lreturn (C : OwnCtx p s m meth c Z a0 tw y0 bytes ml ret) (A : OwnPos p l e R s m args below meth c h0 ws T h ck sk) {w : Int64} (hret : ret = some .long)
    (hd : decode bytes pc = .ok (.lreturn, 1)) (h1 : ck ≤ CK) (h2 : sk ≤ SK) (hq : Q (some (.long w)) h) : OwnWP p e below s h0 ws Q CK SK T (mkF m pc Ls [.long w]) :=
  ow_done C A (fun q => by rw [hret] at q; cases q) h1 h2 hq fun X hr => X.lreturnOut C.1 (C.2.2.2.2.2.2.2.1.trans hret) (hb C.2.2.2.1 hd) hr
theorem ow_areturn (C : OwnCtx p s m meth c Z a0 tw y0 bytes ml ret) (A : OwnPos p l e R s m args below meth c h0 ws T h ck sk) {t : FieldType} {w : Value} (hret : ret = some t) (ht : t.isReference = true) (hw : w.isRef = true)
    (hd : decode bytes pc = .ok (.areturn, 1)) (h1 : ck ≤ CK) (h2 : sk ≤ SK) (hq : Q (some w) h) : OwnWP p e below s h0 ws Q CK SK T (mkF m pc Ls [w]) :=
  ow_done C A (fun q => by rw [hret] at q; cases q) h1 h2 hq fun X hr => X.areturnOut C.1 hw (C.2.2.2.2.2.2.2.1.trans hret) ht (hb C.2.2.2.1 hd) hr
theorem ow_return (C : OwnCtx p s m meth c Z a0 tw y0 bytes ml ret) (A : OwnPos p l e R s m args below meth c h0 ws T h ck sk) (hret : ret = none)
    (hd : decode bytes pc = .ok (.return_, 1)) (h1 : ck ≤ CK) (h2 : sk ≤ SK) (hq : Q none h) : OwnWP p e below s h0 ws Q CK SK T (mkF m pc Ls []) :=
  ow_done C A (fun _ => rfl) h1 h2 hq fun X hr => X.returnOut C.1 (C.2.2.2.2.2.2.2.1.trans hret) (hb C.2.2.2.1 hd) hr
theorem ow_iadd (C : OwnCtx p s m meth c Z a0 tw y0 bytes ml ret) (A : OwnPos p l e R s m args below meth c h0 ws T h ck sk) {x y : Int32} (hd : decode bytes pc = .ok (.iadd, 1)) (hp : pc + 1 = pc') (k : OwnWP p e below s h0 ws Q CK SK T (mkF m pc' Ls (.int (x + y) :: S))) : OwnWP p e below s h0 ws Q CK SK T (mkF m pc Ls (.int y :: .int x :: S)) := by
  obtain ⟨locs, X, -⟩ := A; subst hp
  exact ow_st (fun _ k => XS.iadd X.here C.1 rfl (hb C.2.2.2.1 hd) rfl k) k
theorem ow_isub (C : OwnCtx p s m meth c Z a0 tw y0 bytes ml ret) (A : OwnPos p l e R s m args below meth c h0 ws T h ck sk) {x y : Int32} (hd : decode bytes pc = .ok (.isub, 1)) (hp : pc + 1 = pc') (k : OwnWP p e below s h0 ws Q CK SK T (mkF m pc' Ls (.int (x - y) :: S))) : OwnWP p e below s h0 ws Q CK SK T (mkF m pc Ls (.int y :: .int x :: S)) := by
  obtain ⟨locs, X, -⟩ := A; subst hp
  exact ow_st (fun _ k => XS.isub X.here C.1 rfl (hb C.2.2.2.1 hd) rfl k) k
theorem ow_imul (C : OwnCtx p s m meth c Z a0 tw y0 bytes ml ret) (A : OwnPos p l e R s m args below meth c h0 ws T h ck sk) {x y : Int32} (hd : decode bytes pc = .ok (.imul, 1)) (hp : pc + 1 = pc') (k : OwnWP p e below s h0 ws Q CK SK T (mkF m pc' Ls (.int (x * y) :: S))) : OwnWP p e below s h0 ws Q CK SK T (mkF m pc Ls (.int y :: .int x :: S)) := by
  obtain ⟨locs, X, -⟩ := A; subst hp
  exact ow_st (fun _ k => XS.imul X.here C.1 rfl (hb C.2.2.2.1 hd) rfl k) k
theorem ow_iand (C : OwnCtx p s m meth c Z a0 tw y0 bytes ml ret) (A : OwnPos p l e R s m args below meth c h0 ws T h ck sk) {x y : Int32} (hd : decode bytes pc = .ok (.iand, 1)) (hp : pc + 1 = pc') (k : OwnWP p e below s h0 ws Q CK SK T (mkF m pc' Ls (.int (x &&& y) :: S))) : OwnWP p e below s h0 ws Q CK SK T (mkF m pc Ls (.int y :: .int x :: S)) := by
  obtain ⟨locs, X, -⟩ := A; subst hp
  exact ow_st (fun _ k => XS.iand X.here C.1 rfl (hb C.2.2.2.1 hd) rfl k) k
theorem ow_ior (C : OwnCtx p s m meth c Z a0 tw y0 bytes ml ret) (A : OwnPos p l e R s m args below meth c h0 ws T h ck sk) {x y : Int32} (hd : decode bytes pc = .ok (.ior, 1)) (hp : pc + 1 = pc') (k : OwnWP p e below s h0 ws Q CK SK T (mkF m pc' Ls (.int (x ||| y) :: S))) : OwnWP p e below s h0 ws Q CK SK T (mkF m pc Ls (.int y :: .int x :: S)) := by
  obtain ⟨locs, X, -⟩ := A; subst hp
  exact ow_st (fun _ k => XS.ior X.here C.1 rfl (hb C.2.2.2.1 hd) rfl k) k
theorem ow_ixor (C : OwnCtx p s m meth c Z a0 tw y0 bytes ml ret) (A : OwnPos p l e R s m args below meth c h0 ws T h ck sk) {x y : Int32} (hd : decode bytes pc = .ok (.ixor, 1)) (hp : pc + 1 = pc') (k : OwnWP p e below s h0 ws Q CK SK T (mkF m pc' Ls (.int (x ^^^ y) :: S))) : OwnWP p e below s h0 ws Q CK SK T (mkF m pc Ls (.int y :: .int x :: S)) := by
  obtain ⟨locs, X, -⟩ := A; subst hp
  exact ow_st (fun _ k => XS.ixor X.here C.1 rfl (hb C.2.2.2.1 hd) rfl k) k
theorem ow_ishl (C : OwnCtx p s m meth c Z a0 tw y0 bytes ml ret) (A : OwnPos p l e R s m args below meth c h0 ws T h ck sk) {x y : Int32} (hd : decode bytes pc = .ok (.ishl, 1)) (hp : pc + 1 = pc') (k : OwnWP p e below s h0 ws Q CK SK T (mkF m pc' Ls (.int (x <<< (y &&& 31)) :: S))) : OwnWP p e below s h0 ws Q CK SK T (mkF m pc Ls (.int y :: .int x :: S)) := by
  obtain ⟨locs, X, -⟩ := A; subst hp
  exact ow_st (fun _ k => XS.ishl X.here C.1 rfl (hb C.2.2.2.1 hd) rfl k) k
theorem ow_ishr (C : OwnCtx p s m meth c Z a0 tw y0 bytes ml ret) (A : OwnPos p l e R s m args below meth c h0 ws T h ck sk) {x y : Int32} (hd : decode bytes pc = .ok (.ishr, 1)) (hp : pc + 1 = pc') (k : OwnWP p e below s h0 ws Q CK SK T (mkF m pc' Ls (.int (x >>> (y &&& 31)) :: S))) : OwnWP p e below s h0 ws Q CK SK T (mkF m pc Ls (.int y :: .int x :: S)) := by
  obtain ⟨locs, X, -⟩ := A; subst hp
  exact ow_st (fun _ k => XS.ishr X.here C.1 rfl (hb C.2.2.2.1 hd) rfl k) k
theorem ow_iushr (C : OwnCtx p s m meth c Z a0 tw y0 bytes ml ret) (A : OwnPos p l e R s m args below meth c h0 ws T h ck sk) {x y : Int32} (hd : decode bytes pc = .ok (.iushr, 1)) (hp : pc + 1 = pc') (k : OwnWP p e below s h0 ws Q CK SK T (mkF m pc' Ls (.int (own_ushr x y) :: S))) : OwnWP p e below s h0 ws Q CK SK T (mkF m pc Ls (.int y :: .int x :: S)) := by
  obtain ⟨locs, X, -⟩ := A; subst hp
  exact ow_st (fun _ k => XS.iushr X.here C.1 rfl (hb C.2.2.2.1 hd) rfl k) k
theorem ow_ladd (C : OwnCtx p s m meth c Z a0 tw y0 bytes ml ret) (A : OwnPos p l e R s m args below meth c h0 ws T h ck sk) {x y : Int64} (hd : decode bytes pc = .ok (.ladd, 1)) (hp : pc + 1 = pc') (k : OwnWP p e below s h0 ws Q CK SK T (mkF m pc' Ls (.long (x + y) :: S))) : OwnWP p e below s h0 ws Q CK SK T (mkF m pc Ls (.long y :: .long x :: S)) := by
  obtain ⟨locs, X, -⟩ := A; subst hp
  exact ow_st (fun _ k => XS.ladd X.here C.1 rfl (hb C.2.2.2.1 hd) rfl k) k
theorem ow_lsub (C : OwnCtx p s m meth c Z a0 tw y0 bytes ml ret) (A : OwnPos p l e R s m args below meth c h0 ws T h ck sk) {x y : Int64} (hd : decode bytes pc = .ok (.lsub, 1)) (hp : pc + 1 = pc') (k : OwnWP p e below s h0 ws Q CK SK T (mkF m pc' Ls (.long (x - y) :: S))) : OwnWP p e below s h0 ws Q CK SK T (mkF m pc Ls (.long y :: .long x :: S)) := by
  obtain ⟨locs, X, -⟩ := A; subst hp
  exact ow_st (fun _ k => XS.lsub X.here C.1 rfl (hb C.2.2.2.1 hd) rfl k) k
theorem ow_lmul (C : OwnCtx p s m meth c Z a0 tw y0 bytes ml ret) (A : OwnPos p l e R s m args below meth c h0 ws T h ck sk) {x y : Int64} (hd : decode bytes pc = .ok (.lmul, 1)) (hp : pc + 1 = pc') (k : OwnWP p e below s h0 ws Q CK SK T (mkF m pc' Ls (.long (x * y) :: S))) : OwnWP p e below s h0 ws Q CK SK T (mkF m pc Ls (.long y :: .long x :: S)) := by
  obtain ⟨locs, X, -⟩ := A; subst hp
  exact ow_st (fun _ k => XS.lmul X.here C.1 rfl (hb C.2.2.2.1 hd) rfl k) k
theorem ow_land (C : OwnCtx p s m meth c Z a0 tw y0 bytes ml ret) (A : OwnPos p l e R s m args below meth c h0 ws T h ck sk) {x y : Int64} (hd : decode bytes pc = .ok (.land, 1)) (hp : pc + 1 = pc') (k : OwnWP p e below s h0 ws Q CK SK T (mkF m pc' Ls (.long (x &&& y) :: S))) : OwnWP p e below s h0 ws Q CK SK T (mkF m pc Ls (.long y :: .long x :: S)) := by
  obtain ⟨locs, X, -⟩ := A; subst hp
  exact ow_st (fun _ k => XS.land X.here C.1 rfl (hb C.2.2.2.1 hd) rfl k) k
theorem ow_lor (C : OwnCtx p s m meth c Z a0 tw y0 bytes ml ret) (A : OwnPos p l e R s m args below meth c h0 ws T h ck sk) {x y : Int64} (hd : decode bytes pc = .ok (.lor, 1)) (hp : pc + 1 = pc') (k : OwnWP p e below s h0 ws Q CK SK T (mkF m pc' Ls (.long (x ||| y) :: S))) : OwnWP p e below s h0 ws Q CK SK T (mkF m pc Ls (.long y :: .long x :: S)) := by
  obtain ⟨locs, X, -⟩ := A; subst hp
  exact ow_st (fun _ k => XS.lor X.here C.1 rfl (hb C.2.2.2.1 hd) rfl k) k
theorem ow_lxor (C : OwnCtx p s m meth c Z a0 tw y0 bytes ml ret) (A : OwnPos p l e R s m args below meth c h0 ws T h ck sk) {x y : Int64} (hd : decode bytes pc = .ok (.lxor, 1)) (hp : pc + 1 = pc') (k : OwnWP p e below s h0 ws Q CK SK T (mkF m pc' Ls (.long (x ^^^ y) :: S))) : OwnWP p e below s h0 ws Q CK SK T (mkF m pc Ls (.long y :: .long x :: S)) := by
  obtain ⟨locs, X, -⟩ := A; subst hp
  exact ow_st (fun _ k => XS.lxor X.here C.1 rfl (hb C.2.2.2.1 hd) rfl k) k
theorem ow_lshl (C : OwnCtx p s m meth c Z a0 tw y0 bytes ml ret) (A : OwnPos p l e R s m args below meth c h0 ws T h ck sk) {x : Int64} {y : Int32} (hd : decode bytes pc = .ok (.lshl, 1)) (hp : pc + 1 = pc') (k : OwnWP p e below s h0 ws Q CK SK T (mkF m pc' Ls (.long (x <<< (y &&& 63).toInt64) :: S))) : OwnWP p e below s h0 ws Q CK SK T (mkF m pc Ls (.int y :: .long x :: S)) := by
  obtain ⟨locs, X, -⟩ := A; subst hp
  exact ow_st (fun _ k => XS.lshl X.here C.1 rfl (hb C.2.2.2.1 hd) rfl k) k
theorem ow_lshr (C : OwnCtx p s m meth c Z a0 tw y0 bytes ml ret) (A : OwnPos p l e R s m args below meth c h0 ws T h ck sk) {x : Int64} {y : Int32} (hd : decode bytes pc = .ok (.lshr, 1)) (hp : pc + 1 = pc') (k : OwnWP p e below s h0 ws Q CK SK T (mkF m pc' Ls (.long (x >>> (y &&& 63).toInt64) :: S))) : OwnWP p e below s h0 ws Q CK SK T (mkF m pc Ls (.int y :: .long x :: S)) := by
  obtain ⟨locs, X, -⟩ := A; subst hp
  exact ow_st (fun _ k => XS.lshr X.here C.1 rfl (hb C.2.2.2.1 hd) rfl k) k
theorem ow_lushr (C : OwnCtx p s m meth c Z a0 tw y0 bytes ml ret) (A : OwnPos p l e R s m args below meth c h0 ws T h ck sk) {x : Int64} {y : Int32} (hd : decode bytes pc = .ok (.lushr, 1)) (hp : pc + 1 = pc') (k : OwnWP p e below s h0 ws Q CK SK T (mkF m pc' Ls (.long (own_ushrL x y) :: S))) : OwnWP p e below s h0 ws Q CK SK T (mkF m pc Ls (.int y :: .long x :: S)) := by
  obtain ⟨locs, X, -⟩ := A; subst hp
  exact ow_st (fun _ k => XS.lushr X.here C.1 rfl (hb C.2.2.2.1 hd) rfl k) k
theorem ow_idiv (C : OwnCtx p s m meth c Z a0 tw y0 bytes ml ret) (A : OwnPos p l e R s m args below meth c h0 ws T h ck sk) {x y : Int32} (hd : decode bytes pc = .ok (.idiv, 1)) (hy : y ≠ 0) (hp : pc + 1 = pc') (k : OwnWP p e below s h0 ws Q CK SK T (mkF m pc' Ls (.int (x / y) :: S))) : OwnWP p e below s h0 ws Q CK SK T (mkF m pc Ls (.int y :: .int x :: S)) := by
  obtain ⟨locs, X, -⟩ := A; subst hp
  exact ow_st (fun _ k => XS.idiv X.here C.1 rfl (hb C.2.2.2.1 hd) rfl hy k) k
theorem ow_irem (C : OwnCtx p s m meth c Z a0 tw y0 bytes ml ret) (A : OwnPos p l e R s m args below meth c h0 ws T h ck sk) {x y : Int32} (hd : decode bytes pc = .ok (.irem, 1)) (hy : y ≠ 0) (hp : pc + 1 = pc') (k : OwnWP p e below s h0 ws Q CK SK T (mkF m pc' Ls (.int (x % y) :: S))) : OwnWP p e below s h0 ws Q CK SK T (mkF m pc Ls (.int y :: .int x :: S)) := by
  obtain ⟨locs, X, -⟩ := A; subst hp
  exact ow_st (fun _ k => iremM X C.1 rfl (hb C.2.2.2.1 hd) rfl hy k) k
theorem ow_ldiv (C : OwnCtx p s m meth c Z a0 tw y0 bytes ml ret) (A : OwnPos p l e R s m args below meth c h0 ws T h ck sk) {x y : Int64} (hd : decode bytes pc = .ok (.ldiv, 1)) (hy : y ≠ 0) (hp : pc + 1 = pc') (k : OwnWP p e below s h0 ws Q CK SK T (mkF m pc' Ls (.long (x / y) :: S))) : OwnWP p e below s h0 ws Q CK SK T (mkF m pc Ls (.long y :: .long x :: S)) := by
  obtain ⟨locs, X, -⟩ := A; subst hp
  exact ow_st (fun _ k => XS.ldiv X.here C.1 rfl (hb C.2.2.2.1 hd) rfl hy k) k
theorem ow_lrem (C : OwnCtx p s m meth c Z a0 tw y0 bytes ml ret) (A : OwnPos p l e R s m args below meth c h0 ws T h ck sk) {x y : Int64} (hd : decode bytes pc = .ok (.lrem, 1)) (hy : y ≠ 0) (hp : pc + 1 = pc') (k : OwnWP p e below s h0 ws Q CK SK T (mkF m pc' Ls (.long (x % y) :: S))) : OwnWP p e below s h0 ws Q CK SK T (mkF m pc Ls (.long y :: .long x :: S)) := by
  obtain ⟨locs, X, -⟩ := A; subst hp
  exact ow_st (fun _ k => XS.lrem X.here C.1 rfl (hb C.2.2.2.1 hd) rfl hy (by rw [lrem_mod]; exact k)) k
theorem ow_ineg (C : OwnCtx p s m meth c Z a0 tw y0 bytes ml ret) (A : OwnPos p l e R s m args below meth c h0 ws T h ck sk) {x : Int32} (hd : decode bytes pc = .ok (.ineg, 1)) (hp : pc + 1 = pc') (k : OwnWP p e below s h0 ws Q CK SK T (mkF m pc' Ls (.int (-x) :: S))) : OwnWP p e below s h0 ws Q CK SK T (mkF m pc Ls (.int x :: S)) := by
  obtain ⟨locs, X, -⟩ := A; subst hp
  exact ow_st (fun _ k => XS.ineg X.here C.1 rfl (hb C.2.2.2.1 hd) rfl k) k
theorem ow_lneg (C : OwnCtx p s m meth c Z a0 tw y0 bytes ml ret) (A : OwnPos p l e R s m args below meth c h0 ws T h ck sk) {x : Int64} (hd : decode bytes pc = .ok (.lneg, 1)) (hp : pc + 1 = pc') (k : OwnWP p e below s h0 ws Q CK SK T (mkF m pc' Ls (.long (-x) :: S))) : OwnWP p e below s h0 ws Q CK SK T (mkF m pc Ls (.long x :: S)) := by
  obtain ⟨locs, X, -⟩ := A; subst hp
  exact ow_st (fun _ k => XS.lneg X.here C.1 rfl (hb C.2.2.2.1 hd) rfl k) k
theorem ow_i2l (C : OwnCtx p s m meth c Z a0 tw y0 bytes ml ret) (A : OwnPos p l e R s m args below meth c h0 ws T h ck sk) {x : Int32} (hd : decode bytes pc = .ok (.i2l, 1)) (hp : pc + 1 = pc') (k : OwnWP p e below s h0 ws Q CK SK T (mkF m pc' Ls (.long x.toInt64 :: S))) : OwnWP p e below s h0 ws Q CK SK T (mkF m pc Ls (.int x :: S)) := by
  obtain ⟨locs, X, -⟩ := A; subst hp
  exact ow_st (fun _ k => XS.i2l X.here C.1 rfl (hb C.2.2.2.1 hd) rfl k) k
theorem ow_l2i (C : OwnCtx p s m meth c Z a0 tw y0 bytes ml ret) (A : OwnPos p l e R s m args below meth c h0 ws T h ck sk) {x : Int64} (hd : decode bytes pc = .ok (.l2i, 1)) (hp : pc + 1 = pc') (k : OwnWP p e below s h0 ws Q CK SK T (mkF m pc' Ls (.int x.toInt32 :: S))) : OwnWP p e below s h0 ws Q CK SK T (mkF m pc Ls (.long x :: S)) := by
  obtain ⟨locs, X, -⟩ := A; subst hp
  exact ow_st (fun _ k => XS.l2i X.here C.1 rfl (hb C.2.2.2.1 hd) rfl k) k
theorem ow_i2b (C : OwnCtx p s m meth c Z a0 tw y0 bytes ml ret) (A : OwnPos p l e R s m args below meth c h0 ws T h ck sk) {x : Int32} (hd : decode bytes pc = .ok (.i2b, 1)) (hp : pc + 1 = pc') (k : OwnWP p e below s h0 ws Q CK SK T (mkF m pc' Ls (.int x.toInt8.toInt32 :: S))) : OwnWP p e below s h0 ws Q CK SK T (mkF m pc Ls (.int x :: S)) := by
  obtain ⟨locs, X, -⟩ := A; subst hp
  exact ow_st (fun _ k => XS.i2b X.here C.1 rfl (hb C.2.2.2.1 hd) rfl k) k
theorem ow_i2s (C : OwnCtx p s m meth c Z a0 tw y0 bytes ml ret) (A : OwnPos p l e R s m args below meth c h0 ws T h ck sk) {x : Int32} (hd : decode bytes pc = .ok (.i2s, 1)) (hp : pc + 1 = pc') (k : OwnWP p e below s h0 ws Q CK SK T (mkF m pc' Ls (.int x.toInt16.toInt32 :: S))) : OwnWP p e below s h0 ws Q CK SK T (mkF m pc Ls (.int x :: S)) := by
  obtain ⟨locs, X, -⟩ := A; subst hp
  exact ow_st (fun _ k => XS.i2s X.here C.1 rfl (hb C.2.2.2.1 hd) rfl k) k
theorem ow_i2c (C : OwnCtx p s m meth c Z a0 tw y0 bytes ml ret) (A : OwnPos p l e R s m args below meth c h0 ws T h ck sk) {x : Int32} (hd : decode bytes pc = .ok (.i2c, 1)) (hp : pc + 1 = pc') (k : OwnWP p e below s h0 ws Q CK SK T (mkF m pc' Ls (.int x.toUInt32.toUInt16.toUInt32.toInt32 :: S))) : OwnWP p e below s h0 ws Q CK SK T (mkF m pc Ls (.int x :: S)) := by
  obtain ⟨locs, X, -⟩ := A; subst hp
  exact ow_st (fun _ k => XS.i2c X.here C.1 rfl (hb C.2.2.2.1 hd) rfl k) k
theorem ow_iconst (C : OwnCtx p s m meth c Z a0 tw y0 bytes ml ret) (A : OwnPos p l e R s m args below meth c h0 ws T h ck sk) {i : Int} {v : Int32} (hd : decode bytes pc = .ok (.iconst i, 1)) (hv : Int32.ofInt i = v) (hp : pc + 1 = pc') (k : OwnWP p e below s h0 ws Q CK SK T (mkF m pc' Ls (.int v :: S))) : OwnWP p e below s h0 ws Q CK SK T (mkF m pc Ls (S)) := by
  obtain ⟨locs, X, -⟩ := A; subst hp
  exact ow_st (fun _ k => by subst hv; exact XS.iconst X.here C.1 rfl (hb C.2.2.2.1 hd) k) k
theorem ow_bipush (C : OwnCtx p s m meth c Z a0 tw y0 bytes ml ret) (A : OwnPos p l e R s m args below meth c h0 ws T h ck sk) {i : Int} {v : Int32} (hd : decode bytes pc = .ok (.bipush i, 2)) (hv : (Int8.ofInt i).toInt32 = v) (hp : pc + 2 = pc') (k : OwnWP p e below s h0 ws Q CK SK T (mkF m pc' Ls (.int v :: S))) : OwnWP p e below s h0 ws Q CK SK T (mkF m pc Ls (S)) := by
  obtain ⟨locs, X, -⟩ := A; subst hp
  exact ow_st (fun _ k => by subst hv; exact XS.bipush X.here C.1 rfl (hb C.2.2.2.1 hd) k) k
theorem ow_sipush (C : OwnCtx p s m meth c Z a0 tw y0 bytes ml ret) (A : OwnPos p l e R s m args below meth c h0 ws T h ck sk) {i : Int} {v : Int32} (hd : decode bytes pc = .ok (.sipush i, 3)) (hv : (Int16.ofInt i).toInt32 = v) (hp : pc + 3 = pc') (k : OwnWP p e below s h0 ws Q CK SK T (mkF m pc' Ls (.int v :: S))) : OwnWP p e below s h0 ws Q CK SK T (mkF m pc Ls (S)) := by
  obtain ⟨locs, X, -⟩ := A; subst hp
  exact ow_st (fun _ k => by subst hv; exact XS.sipush X.here C.1 rfl (hb C.2.2.2.1 hd) k) k
theorem ow_lconst (C : OwnCtx p s m meth c Z a0 tw y0 bytes ml ret) (A : OwnPos p l e R s m args below meth c h0 ws T h ck sk) {i : Fin 2} {v : Int64} (hd : decode bytes pc = .ok (.lconst i, 1)) (hv : Int64.ofNat i = v) (hp : pc + 1 = pc') (k : OwnWP p e below s h0 ws Q CK SK T (mkF m pc' Ls (.long v :: S))) : OwnWP p e below s h0 ws Q CK SK T (mkF m pc Ls (S)) := by
  obtain ⟨locs, X, -⟩ := A; subst hp
  exact ow_st (fun _ k => by subst hv; exact XS.lconst X.here C.1 rfl (hb C.2.2.2.1 hd) k) k
theorem ow_aconst_null (C : OwnCtx p s m meth c Z a0 tw y0 bytes ml ret) (A : OwnPos p l e R s m args below meth c h0 ws T h ck sk)  (hd : decode bytes pc = .ok (.aconst_null, 1)) (hp : pc + 1 = pc') (k : OwnWP p e below s h0 ws Q CK SK T (mkF m pc' Ls (.null :: S))) : OwnWP p e below s h0 ws Q CK SK T (mkF m pc Ls (S)) := by
  obtain ⟨locs, X, -⟩ := A; subst hp
  exact ow_st (fun _ k => XS.aconstNull X.here C.1 rfl (hb C.2.2.2.1 hd) k) k
theorem ow_iload (C : OwnCtx p s m meth c Z a0 tw y0 bytes ml ret) (A : OwnPos p l e R s m args below meth c h0 ws T h ck sk) {j : Nat} {v : Int32} (hd : decode bytes pc = .ok (.iload j, 2)) (hl : Ls[j]? = some (.val (.int v))) (hp : pc + 2 = pc') (k : OwnWP p e below s h0 ws Q CK SK T (mkF m pc' Ls (.int v :: S))) : OwnWP p e below s h0 ws Q CK SK T (mkF m pc Ls (S)) := by
  obtain ⟨locs, X, -⟩ := A; subst hp
  exact ow_st (fun _ k => XS.iload X.here C.1 rfl (hb C.2.2.2.1 hd) hl k) k
theorem ow_iloadN (C : OwnCtx p s m meth c Z a0 tw y0 bytes ml ret) (A : OwnPos p l e R s m args below meth c h0 ws T h ck sk) {j : Fin 4} {v : Int32} (hd : decode bytes pc = .ok (.iload_n j, 1)) (hl : Ls[j.val]? = some (.val (.int v))) (hp : pc + 1 = pc') (k : OwnWP p e below s h0 ws Q CK SK T (mkF m pc' Ls (.int v :: S))) : OwnWP p e below s h0 ws Q CK SK T (mkF m pc Ls (S)) := by
  obtain ⟨locs, X, -⟩ := A; subst hp
  exact ow_st (fun _ k => XS.iloadN X.here C.1 rfl (hb C.2.2.2.1 hd) hl k) k
theorem ow_lload (C : OwnCtx p s m meth c Z a0 tw y0 bytes ml ret) (A : OwnPos p l e R s m args below meth c h0 ws T h ck sk) {j : Nat} {v : Int64} (hd : decode bytes pc = .ok (.lload j, 2)) (hl : Ls[j]? = some (.val (.long v))) (hp : pc + 2 = pc') (k : OwnWP p e below s h0 ws Q CK SK T (mkF m pc' Ls (.long v :: S))) : OwnWP p e below s h0 ws Q CK SK T (mkF m pc Ls (S)) := by
  obtain ⟨locs, X, -⟩ := A; subst hp
  exact ow_st (fun _ k => XS.lload X.here C.1 rfl (hb C.2.2.2.1 hd) hl k) k
theorem ow_lloadN (C : OwnCtx p s m meth c Z a0 tw y0 bytes ml ret) (A : OwnPos p l e R s m args below meth c h0 ws T h ck sk) {j : Fin 4} {v : Int64} (hd : decode bytes pc = .ok (.lload_n j, 1)) (hl : Ls[j.val]? = some (.val (.long v))) (hp : pc + 1 = pc') (k : OwnWP p e below s h0 ws Q CK SK T (mkF m pc' Ls (.long v :: S))) : OwnWP p e below s h0 ws Q CK SK T (mkF m pc Ls (S)) := by
  obtain ⟨locs, X, -⟩ := A; subst hp
  exact ow_st (fun _ k => XS.lloadN X.here C.1 rfl (hb C.2.2.2.1 hd) hl k) k
theorem ow_aload (C : OwnCtx p s m meth c Z a0 tw y0 bytes ml ret) (A : OwnPos p l e R s m args below meth c h0 ws T h ck sk) {j : Nat} {v : Value} (hd : decode bytes pc = .ok (.aload j, 2)) (hl : Ls[j]? = some (.val v)) (hv : v.isRef = true) (hp : pc + 2 = pc') (k : OwnWP p e below s h0 ws Q CK SK T (mkF m pc' Ls (v :: S))) : OwnWP p e below s h0 ws Q CK SK T (mkF m pc Ls (S)) := by
  obtain ⟨locs, X, -⟩ := A; subst hp
  exact ow_st (fun _ k => XS.aload X.here C.1 rfl (hb C.2.2.2.1 hd) hl hv k) k
theorem ow_aloadN (C : OwnCtx p s m meth c Z a0 tw y0 bytes ml ret) (A : OwnPos p l e R s m args below meth c h0 ws T h ck sk) {j : Fin 4} {v : Value} (hd : decode bytes pc = .ok (.aload_n j, 1)) (hl : Ls[j.val]? = some (.val v)) (hv : v.isRef = true) (hp : pc + 1 = pc') (k : OwnWP p e below s h0 ws Q CK SK T (mkF m pc' Ls (v :: S))) : OwnWP p e below s h0 ws Q CK SK T (mkF m pc Ls (S)) := by
  obtain ⟨locs, X, -⟩ := A; subst hp
  exact ow_st (fun _ k => XS.aloadN X.here C.1 rfl (hb C.2.2.2.1 hd) hl hv k) k
theorem ow_istore (C : OwnCtx p s m meth c Z a0 tw y0 bytes ml ret) (A : OwnPos p l e R s m args below meth c h0 ws T h ck sk) {j : Nat} {v : Int32} (hd : decode bytes pc = .ok (.istore j, 2)) (hl : storeLocals Ls j (.int v) = some Ls') (hp : pc + 2 = pc') (k : OwnWP p e below s h0 ws Q CK SK T (mkF m pc' Ls' (S))) : OwnWP p e below s h0 ws Q CK SK T (mkF m pc Ls (.int v :: S)) := by
  obtain ⟨locs, X, -⟩ := A; subst hp
  exact ow_st (fun _ k => XS.istore X.here C.1 rfl (hb C.2.2.2.1 hd) rfl hl k) k
theorem ow_istoreN (C : OwnCtx p s m meth c Z a0 tw y0 bytes ml ret) (A : OwnPos p l e R s m args below meth c h0 ws T h ck sk) {j : Fin 4} {v : Int32} (hd : decode bytes pc = .ok (.istore_n j, 1)) (hl : storeLocals Ls j.val (.int v) = some Ls') (hp : pc + 1 = pc') (k : OwnWP p e below s h0 ws Q CK SK T (mkF m pc' Ls' (S))) : OwnWP p e below s h0 ws Q CK SK T (mkF m pc Ls (.int v :: S)) := by
  obtain ⟨locs, X, -⟩ := A; subst hp
  exact ow_st (fun _ k => XS.istoreN X.here C.1 rfl (hb C.2.2.2.1 hd) rfl hl k) k
theorem ow_lstore (C : OwnCtx p s m meth c Z a0 tw y0 bytes ml ret) (A : OwnPos p l e R s m args below meth c h0 ws T h ck sk) {j : Nat} {v : Int64} (hd : decode bytes pc = .ok (.lstore j, 2)) (hl : storeLocals Ls j (.long v) = some Ls') (hp : pc + 2 = pc') (k : OwnWP p e below s h0 ws Q CK SK T (mkF m pc' Ls' (S))) : OwnWP p e below s h0 ws Q CK SK T (mkF m pc Ls (.long v :: S)) := by
  obtain ⟨locs, X, -⟩ := A; subst hp
  exact ow_st (fun _ k => XS.lstore X.here C.1 rfl (hb C.2.2.2.1 hd) rfl hl k) k
theorem ow_lstoreN (C : OwnCtx p s m meth c Z a0 tw y0 bytes ml ret) (A : OwnPos p l e R s m args below meth c h0 ws T h ck sk) {j : Fin 4} {v : Int64} (hd : decode bytes pc = .ok (.lstore_n j, 1)) (hl : storeLocals Ls j.val (.long v) = some Ls') (hp : pc + 1 = pc') (k : OwnWP p e below s h0 ws Q CK SK T (mkF m pc' Ls' (S))) : OwnWP p e below s h0 ws Q CK SK T (mkF m pc Ls (.long v :: S)) := by
  obtain ⟨locs, X, -⟩ := A; subst hp
  exact ow_st (fun _ k => XS.lstoreN X.here C.1 rfl (hb C.2.2.2.1 hd) rfl hl k) k
theorem ow_astore (C : OwnCtx p s m meth c Z a0 tw y0 bytes ml ret) (A : OwnPos p l e R s m args below meth c h0 ws T h ck sk) {j : Nat} {v : Value} (hd : decode bytes pc = .ok (.astore j, 2)) (hv : v.isRef = true) (hl : storeLocals Ls j v = some Ls') (hp : pc + 2 = pc') (k : OwnWP p e below s h0 ws Q CK SK T (mkF m pc' Ls' (S))) : OwnWP p e below s h0 ws Q CK SK T (mkF m pc Ls (v :: S)) := by
  obtain ⟨locs, X, -⟩ := A; subst hp
  exact ow_st (fun _ k => XS.astore X.here C.1 rfl (hb C.2.2.2.1 hd) rfl hv hl k) k
theorem ow_astoreN (C : OwnCtx p s m meth c Z a0 tw y0 bytes ml ret) (A : OwnPos p l e R s m args below meth c h0 ws T h ck sk) {j : Fin 4} {v : Value} (hd : decode bytes pc = .ok (.astore_n j, 1)) (hv : v.isRef = true) (hl : storeLocals Ls j.val v = some Ls') (hp : pc + 1 = pc') (k : OwnWP p e below s h0 ws Q CK SK T (mkF m pc' Ls' (S))) : OwnWP p e below s h0 ws Q CK SK T (mkF m pc Ls (v :: S)) := by
  obtain ⟨locs, X, -⟩ := A; subst hp
  exact ow_st (fun _ k => XS.astoreN X.here C.1 rfl (hb C.2.2.2.1 hd) rfl hv hl k) k
theorem ow_iinc (C : OwnCtx p s m meth c Z a0 tw y0 bytes ml ret) (A : OwnPos p l e R s m args below meth c h0 ws T h ck sk) {j : Nat} {cst : Int} {v : Int32} (hd : decode bytes pc = .ok (.iinc j cst, 3)) (hl : Ls[j]? = some (.val (.int v))) (hl' : storeLocals Ls j (.int (v + Int32.ofInt cst)) = some Ls') (hp : pc + 3 = pc') (k : OwnWP p e below s h0 ws Q CK SK T (mkF m pc' Ls' (S))) : OwnWP p e below s h0 ws Q CK SK T (mkF m pc Ls (S)) := by
  obtain ⟨locs, X, -⟩ := A; subst hp
  exact ow_st (fun _ k => XS.iinc X.here C.1 rfl (hb C.2.2.2.1 hd) hl hl' k) k
theorem ow_dup (C : OwnCtx p s m meth c Z a0 tw y0 bytes ml ret) (A : OwnPos p l e R s m args below meth c h0 ws T h ck sk) {v : Value} (hd : decode bytes pc = .ok (.dup, 1)) (hc : v.category = 1) (hp : pc + 1 = pc') (k : OwnWP p e below s h0 ws Q CK SK T (mkF m pc' Ls (v :: v :: S))) : OwnWP p e below s h0 ws Q CK SK T (mkF m pc Ls (v :: S)) := by
  obtain ⟨locs, X, -⟩ := A; subst hp
  exact ow_st (fun _ k => XS.dup X.here C.1 rfl (hb C.2.2.2.1 hd) rfl hc k) k
theorem ow_dup_x1 (C : OwnCtx p s m meth c Z a0 tw y0 bytes ml ret) (A : OwnPos p l e R s m args below meth c h0 ws T h ck sk) {v w : Value} (hd : decode bytes pc = .ok (.dup_x1, 1)) (hc : v.category = 1) (hc' : w.category = 1) (hp : pc + 1 = pc') (k : OwnWP p e below s h0 ws Q CK SK T (mkF m pc' Ls (v :: w :: v :: S))) : OwnWP p e below s h0 ws Q CK SK T (mkF m pc Ls (v :: w :: S)) := by
  obtain ⟨locs, X, -⟩ := A; subst hp
  exact ow_st (fun _ k => XS.dupX1 X.here C.1 rfl (hb C.2.2.2.1 hd) rfl hc hc' k) k
theorem ow_dup2 (C : OwnCtx p s m meth c Z a0 tw y0 bytes ml ret) (A : OwnPos p l e R s m args below meth c h0 ws T h ck sk) {v w : Value} (hd : decode bytes pc = .ok (.dup2, 1)) (hc : v.category = 1) (hc' : w.category = 1) (hp : pc + 1 = pc') (k : OwnWP p e below s h0 ws Q CK SK T (mkF m pc' Ls (v :: w :: v :: w :: S))) : OwnWP p e below s h0 ws Q CK SK T (mkF m pc Ls (v :: w :: S)) := by
  obtain ⟨locs, X, -⟩ := A; subst hp
  exact ow_st (fun _ k => XT.dup2 X.here C.1 rfl (hb C.2.2.2.1 hd) rfl hc hc' k) k
theorem ow_pop (C : OwnCtx p s m meth c Z a0 tw y0 bytes ml ret) (A : OwnPos p l e R s m args below meth c h0 ws T h ck sk) {v : Value} (hd : decode bytes pc = .ok (.pop, 1)) (hc : v.category = 1) (hp : pc + 1 = pc') (k : OwnWP p e below s h0 ws Q CK SK T (mkF m pc' Ls (S))) : OwnWP p e below s h0 ws Q CK SK T (mkF m pc Ls (v :: S)) := by
  obtain ⟨locs, X, -⟩ := A; subst hp
  exact ow_st (fun _ k => XS.pop X.here C.1 rfl (hb C.2.2.2.1 hd) rfl hc k) k
theorem ow_goto (C : OwnCtx p s m meth c Z a0 tw y0 bytes ml ret) (A : OwnPos p l e R s m args below meth c h0 ws T h ck sk) {o : Int} (hd : decode bytes pc = .ok (.goto o, 3)) (ho : 0 ≤ (pc : Int) + o) (hp : ((pc : Int) + o).toNat = pc') (k : OwnWP p e below s h0 ws Q CK SK T (mkF m pc' Ls S)) : OwnWP p e below s h0 ws Q CK SK T (mkF m pc Ls S) := by
  obtain ⟨locs, X, -⟩ := A
  exact ow_st (fun _ k => XS.goto X.here C.1 rfl (pc0 := pc) (pc' := pc') rfl (hb C.2.2.2.1 hd) ho hp k) k
theorem ow_icmp_lt (C : OwnCtx p s m meth c Z a0 tw y0 bytes ml ret) (A : OwnPos p l e R s m args below meth c h0 ws T h ck sk) {x y : Int32} {o : Int} {pcY pcN : Nat} (hd : decode bytes pc = .ok (.if_icmp .lt o, 3)) (ho : 0 ≤ (pc : Int) + o) (hpY : ((pc : Int) + o).toNat = pcY) (hpN : pc + 3 = pcN) (kY : x < y → OwnWP p e below s h0 ws Q CK SK T (mkF m pcY Ls S)) (kN : ¬ (x < y) → OwnWP p e below s h0 ws Q CK SK T (mkF m pcN Ls S)) : OwnWP p e below s h0 ws Q CK SK T (mkF m pc Ls (.int y :: .int x :: S)) := by
  obtain ⟨locs, X, -⟩ := A; subst hpN
  by_cases q : x < y
  · exact ow_st (fun _ k => XS.icmpYes X.here C.1 rfl (pc0 := pc) (pc' := pcY) rfl (hb C.2.2.2.1 hd) rfl (tlt q).1 ho hpY k) (kY q)
  · exact ow_st (fun _ k => XS.icmpNo X.here C.1 rfl (hb C.2.2.2.1 hd) rfl (flt q).1 k) (kN q)
theorem ow_if_lt (C : OwnCtx p s m meth c Z a0 tw y0 bytes ml ret) (A : OwnPos p l e R s m args below meth c h0 ws T h ck sk) {x : Int32} {o : Int} {pcY pcN : Nat} (hd : decode bytes pc = .ok (.ifCond .lt o, 3)) (ho : 0 ≤ (pc : Int) + o) (hpY : ((pc : Int) + o).toNat = pcY) (hpN : pc + 3 = pcN) (kY : x < 0 → OwnWP p e below s h0 ws Q CK SK T (mkF m pcY Ls S)) (kN : ¬ (x < 0) → OwnWP p e below s h0 ws Q CK SK T (mkF m pcN Ls S)) : OwnWP p e below s h0 ws Q CK SK T (mkF m pc Ls (.int x :: S)) := by
  obtain ⟨locs, X, -⟩ := A; subst hpN
  by_cases q : x < 0
  · exact ow_st (fun _ k => XS.ifYes X.here C.1 rfl (pc0 := pc) (pc' := pcY) rfl (hb C.2.2.2.1 hd) rfl ((if0 _ _).trans (tlt q).1) ho hpY k) (kY q)
  · exact ow_st (fun _ k => XS.ifNo X.here C.1 rfl (hb C.2.2.2.1 hd) rfl ((if0 _ _).trans (flt q).1) k) (kN q)
theorem ow_lcmp_lt (C : OwnCtx p s m meth c Z a0 tw y0 bytes ml ret) (A : OwnPos p l e R s m args below meth c h0 ws T h ck sk) {x y : Int64} {o : Int} {pc1 pcY pcN : Nat} (hd : decode bytes pc = .ok (.lcmp, 1)) (hp1 : pc + 1 = pc1) (hd1 : decode bytes pc1 = .ok (.ifCond .lt o, 3)) (ho : 0 ≤ (pc1 : Int) + o) (hpY : ((pc1 : Int) + o).toNat = pcY) (hpN : pc1 + 3 = pcN) (kY : x < y → OwnWP p e below s h0 ws Q CK SK T (mkF m pcY Ls S)) (kN : ¬ (x < y) → OwnWP p e below s h0 ws Q CK SK T (mkF m pcN Ls S)) : OwnWP p e below s h0 ws Q CK SK T (mkF m pc Ls (.long y :: .long x :: S)) := by
  have A' := A; obtain ⟨locs, X, -⟩ := A'; subst hp1
  refine ow_st (fun _ k => XS.lcmp X.here C.1 rfl (hb C.2.2.2.1 hd) rfl k) ?_
  show OwnWP p e below s h0 ws Q CK SK T (mkF m (pc + 1) Ls (.int (lcmpW x y) :: S))
  exact ow_if_lt C A hd1 ho hpY hpN (fun q => kY ((lw_lt x y).mp q)) (fun q => kN (fun z => q ((lw_lt x y).mpr z)))
theorem ow_icmp_ge (C : OwnCtx p s m meth c Z a0 tw y0 bytes ml ret) (A : OwnPos p l e R s m args below meth c h0 ws T h ck sk) {x y : Int32} {o : Int} {pcY pcN : Nat} (hd : decode bytes pc = .ok (.if_icmp .ge o, 3)) (ho : 0 ≤ (pc : Int) + o) (hpY : ((pc : Int) + o).toNat = pcY) (hpN : pc + 3 = pcN) (kY : ¬ (x < y) → OwnWP p e below s h0 ws Q CK SK T (mkF m pcY Ls S)) (kN : x < y → OwnWP p e below s h0 ws Q CK SK T (mkF m pcN Ls S)) : OwnWP p e below s h0 ws Q CK SK T (mkF m pc Ls (.int y :: .int x :: S)) := by
  obtain ⟨locs, X, -⟩ := A; subst hpN
  by_cases q : x < y
  · exact ow_st (fun _ k => XS.icmpNo X.here C.1 rfl (hb C.2.2.2.1 hd) rfl (tlt q).2.1 k) (kN q)
  · exact ow_st (fun _ k => XS.icmpYes X.here C.1 rfl (pc0 := pc) (pc' := pcY) rfl (hb C.2.2.2.1 hd) rfl (flt q).2.1 ho hpY k) (kY q)
theorem ow_if_ge (C : OwnCtx p s m meth c Z a0 tw y0 bytes ml ret) (A : OwnPos p l e R s m args below meth c h0 ws T h ck sk) {x : Int32} {o : Int} {pcY pcN : Nat} (hd : decode bytes pc = .ok (.ifCond .ge o, 3)) (ho : 0 ≤ (pc : Int) + o) (hpY : ((pc : Int) + o).toNat = pcY) (hpN : pc + 3 = pcN) (kY : ¬ (x < 0) → OwnWP p e below s h0 ws Q CK SK T (mkF m pcY Ls S)) (kN : x < 0 → OwnWP p e below s h0 ws Q CK SK T (mkF m pcN Ls S)) : OwnWP p e below s h0 ws Q CK SK T (mkF m pc Ls (.int x :: S)) := by
  obtain ⟨locs, X, -⟩ := A; subst hpN
  by_cases q : x < 0
  · exact ow_st (fun _ k => XS.ifNo X.here C.1 rfl (hb C.2.2.2.1 hd) rfl ((if0 _ _).trans (tlt q).2.1) k) (kN q)
  · exact ow_st (fun _ k => XS.ifYes X.here C.1 rfl (pc0 := pc) (pc' := pcY) rfl (hb C.2.2.2.1 hd) rfl ((if0 _ _).trans (flt q).2.1) ho hpY k) (kY q)
theorem ow_lcmp_ge (C : OwnCtx p s m meth c Z a0 tw y0 bytes ml ret) (A : OwnPos p l e R s m args below meth c h0 ws T h ck sk) {x y : Int64} {o : Int} {pc1 pcY pcN : Nat} (hd : decode bytes pc = .ok (.lcmp, 1)) (hp1 : pc + 1 = pc1) (hd1 : decode bytes pc1 = .ok (.ifCond .ge o, 3)) (ho : 0 ≤ (pc1 : Int) + o) (hpY : ((pc1 : Int) + o).toNat = pcY) (hpN : pc1 + 3 = pcN) (kY : ¬ (x < y) → OwnWP p e below s h0 ws Q CK SK T (mkF m pcY Ls S)) (kN : x < y → OwnWP p e below s h0 ws Q CK SK T (mkF m pcN Ls S)) : OwnWP p e below s h0 ws Q CK SK T (mkF m pc Ls (.long y :: .long x :: S)) := by
  have A' := A; obtain ⟨locs, X, -⟩ := A'; subst hp1
  refine ow_st (fun _ k => XS.lcmp X.here C.1 rfl (hb C.2.2.2.1 hd) rfl k) ?_
  show OwnWP p e below s h0 ws Q CK SK T (mkF m (pc + 1) Ls (.int (lcmpW x y) :: S))
  exact ow_if_ge C A hd1 ho hpY hpN (fun q => kY (fun z => q ((lw_lt x y).mpr z))) (fun q => kN ((lw_lt x y).mp q))
theorem ow_icmp_gt (C : OwnCtx p s m meth c Z a0 tw y0 bytes ml ret) (A : OwnPos p l e R s m args below meth c h0 ws T h ck sk) {x y : Int32} {o : Int} {pcY pcN : Nat} (hd : decode bytes pc = .ok (.if_icmp .gt o, 3)) (ho : 0 ≤ (pc : Int) + o) (hpY : ((pc : Int) + o).toNat = pcY) (hpN : pc + 3 = pcN) (kY : y < x → OwnWP p e below s h0 ws Q CK SK T (mkF m pcY Ls S)) (kN : ¬ (y < x) → OwnWP p e below s h0 ws Q CK SK T (mkF m pcN Ls S)) : OwnWP p e below s h0 ws Q CK SK T (mkF m pc Ls (.int y :: .int x :: S)) := by
  obtain ⟨locs, X, -⟩ := A; subst hpN
  by_cases q : y < x
  · exact ow_st (fun _ k => XS.icmpYes X.here C.1 rfl (pc0 := pc) (pc' := pcY) rfl (hb C.2.2.2.1 hd) rfl (tlt q).2.2.1 ho hpY k) (kY q)
  · exact ow_st (fun _ k => XS.icmpNo X.here C.1 rfl (hb C.2.2.2.1 hd) rfl (flt q).2.2.1 k) (kN q)
theorem ow_if_gt (C : OwnCtx p s m meth c Z a0 tw y0 bytes ml ret) (A : OwnPos p l e R s m args below meth c h0 ws T h ck sk) {x : Int32} {o : Int} {pcY pcN : Nat} (hd : decode bytes pc = .ok (.ifCond .gt o, 3)) (ho : 0 ≤ (pc : Int) + o) (hpY : ((pc : Int) + o).toNat = pcY) (hpN : pc + 3 = pcN) (kY : 0 < x → OwnWP p e below s h0 ws Q CK SK T (mkF m pcY Ls S)) (kN : ¬ (0 < x) → OwnWP p e below s h0 ws Q CK SK T (mkF m pcN Ls S)) : OwnWP p e below s h0 ws Q CK SK T (mkF m pc Ls (.int x :: S)) := by
  obtain ⟨locs, X, -⟩ := A; subst hpN
  by_cases q : 0 < x
  · exact ow_st (fun _ k => XS.ifYes X.here C.1 rfl (pc0 := pc) (pc' := pcY) rfl (hb C.2.2.2.1 hd) rfl ((if0 _ _).trans (tlt q).2.2.1) ho hpY k) (kY q)
  · exact ow_st (fun _ k => XS.ifNo X.here C.1 rfl (hb C.2.2.2.1 hd) rfl ((if0 _ _).trans (flt q).2.2.1) k) (kN q)
theorem ow_lcmp_gt (C : OwnCtx p s m meth c Z a0 tw y0 bytes ml ret) (A : OwnPos p l e R s m args below meth c h0 ws T h ck sk) {x y : Int64} {o : Int} {pc1 pcY pcN : Nat} (hd : decode bytes pc = .ok (.lcmp, 1)) (hp1 : pc + 1 = pc1) (hd1 : decode bytes pc1 = .ok (.ifCond .gt o, 3)) (ho : 0 ≤ (pc1 : Int) + o) (hpY : ((pc1 : Int) + o).toNat = pcY) (hpN : pc1 + 3 = pcN) (kY : y < x → OwnWP p e below s h0 ws Q CK SK T (mkF m pcY Ls S)) (kN : ¬ (y < x) → OwnWP p e below s h0 ws Q CK SK T (mkF m pcN Ls S)) : OwnWP p e below s h0 ws Q CK SK T (mkF m pc Ls (.long y :: .long x :: S)) := by
  have A' := A; obtain ⟨locs, X, -⟩ := A'; subst hp1
  refine ow_st (fun _ k => XS.lcmp X.here C.1 rfl (hb C.2.2.2.1 hd) rfl k) ?_
  show OwnWP p e below s h0 ws Q CK SK T (mkF m (pc + 1) Ls (.int (lcmpW x y) :: S))
  exact ow_if_gt C A hd1 ho hpY hpN (fun q => kY ((lw_gt x y).mp q)) (fun q => kN (fun z => q ((lw_gt x y).mpr z)))
theorem ow_icmp_le (C : OwnCtx p s m meth c Z a0 tw y0 bytes ml ret) (A : OwnPos p l e R s m args below meth c h0 ws T h ck sk) {x y : Int32} {o : Int} {pcY pcN : Nat} (hd : decode bytes pc = .ok (.if_icmp .le o, 3)) (ho : 0 ≤ (pc : Int) + o) (hpY : ((pc : Int) + o).toNat = pcY) (hpN : pc + 3 = pcN) (kY : ¬ (y < x) → OwnWP p e below s h0 ws Q CK SK T (mkF m pcY Ls S)) (kN : y < x → OwnWP p e below s h0 ws Q CK SK T (mkF m pcN Ls S)) : OwnWP p e below s h0 ws Q CK SK T (mkF m pc Ls (.int y :: .int x :: S)) := by
  obtain ⟨locs, X, -⟩ := A; subst hpN
  by_cases q : y < x
  · exact ow_st (fun _ k => XS.icmpNo X.here C.1 rfl (hb C.2.2.2.1 hd) rfl (tlt q).2.2.2 k) (kN q)
  · exact ow_st (fun _ k => XS.icmpYes X.here C.1 rfl (pc0 := pc) (pc' := pcY) rfl (hb C.2.2.2.1 hd) rfl (flt q).2.2.2 ho hpY k) (kY q)
theorem ow_if_le (C : OwnCtx p s m meth c Z a0 tw y0 bytes ml ret) (A : OwnPos p l e R s m args below meth c h0 ws T h ck sk) {x : Int32} {o : Int} {pcY pcN : Nat} (hd : decode bytes pc = .ok (.ifCond .le o, 3)) (ho : 0 ≤ (pc : Int) + o) (hpY : ((pc : Int) + o).toNat = pcY) (hpN : pc + 3 = pcN) (kY : ¬ (0 < x) → OwnWP p e below s h0 ws Q CK SK T (mkF m pcY Ls S)) (kN : 0 < x → OwnWP p e below s h0 ws Q CK SK T (mkF m pcN Ls S)) : OwnWP p e below s h0 ws Q CK SK T (mkF m pc Ls (.int x :: S)) := by
  obtain ⟨locs, X, -⟩ := A; subst hpN
  by_cases q : 0 < x
  · exact ow_st (fun _ k => XS.ifNo X.here C.1 rfl (hb C.2.2.2.1 hd) rfl ((if0 _ _).trans (tlt q).2.2.2) k) (kN q)
  · exact ow_st (fun _ k => XS.ifYes X.here C.1 rfl (pc0 := pc) (pc' := pcY) rfl (hb C.2.2.2.1 hd) rfl ((if0 _ _).trans (flt q).2.2.2) ho hpY k) (kY q)
theorem ow_lcmp_le (C : OwnCtx p s m meth c Z a0 tw y0 bytes ml ret) (A : OwnPos p l e R s m args below meth c h0 ws T h ck sk) {x y : Int64} {o : Int} {pc1 pcY pcN : Nat} (hd : decode bytes pc = .ok (.lcmp, 1)) (hp1 : pc + 1 = pc1) (hd1 : decode bytes pc1 = .ok (.ifCond .le o, 3)) (ho : 0 ≤ (pc1 : Int) + o) (hpY : ((pc1 : Int) + o).toNat = pcY) (hpN : pc1 + 3 = pcN) (kY : ¬ (y < x) → OwnWP p e below s h0 ws Q CK SK T (mkF m pcY Ls S)) (kN : y < x → OwnWP p e below s h0 ws Q CK SK T (mkF m pcN Ls S)) : OwnWP p e below s h0 ws Q CK SK T (mkF m pc Ls (.long y :: .long x :: S)) := by
  have A' := A; obtain ⟨locs, X, -⟩ := A'; subst hp1
  refine ow_st (fun _ k => XS.lcmp X.here C.1 rfl (hb C.2.2.2.1 hd) rfl k) ?_
  show OwnWP p e below s h0 ws Q CK SK T (mkF m (pc + 1) Ls (.int (lcmpW x y) :: S))
  exact ow_if_le C A hd1 ho hpY hpN (fun q => kY (fun z => q ((lw_gt x y).mpr z))) (fun q => kN ((lw_gt x y).mp q))
theorem ow_icmp_eq (C : OwnCtx p s m meth c Z a0 tw y0 bytes ml ret) (A : OwnPos p l e R s m args below meth c h0 ws T h ck sk) {x y : Int32} {o : Int} {pcY pcN : Nat} (hd : decode bytes pc = .ok (.if_icmp .eq o, 3)) (ho : 0 ≤ (pc : Int) + o) (hpY : ((pc : Int) + o).toNat = pcY) (hpN : pc + 3 = pcN) (kY : x = y → OwnWP p e below s h0 ws Q CK SK T (mkF m pcY Ls S)) (kN : ¬ (x = y) → OwnWP p e below s h0 ws Q CK SK T (mkF m pcN Ls S)) : OwnWP p e below s h0 ws Q CK SK T (mkF m pc Ls (.int y :: .int x :: S)) := by
  obtain ⟨locs, X, -⟩ := A; subst hpN
  by_cases q : x = y
  · exact ow_st (fun _ k => XS.icmpYes X.here C.1 rfl (pc0 := pc) (pc' := pcY) rfl (hb C.2.2.2.1 hd) rfl (teq q).1 ho hpY k) (kY q)
  · exact ow_st (fun _ k => XS.icmpNo X.here C.1 rfl (hb C.2.2.2.1 hd) rfl (feq q).1 k) (kN q)
theorem ow_if_eq (C : OwnCtx p s m meth c Z a0 tw y0 bytes ml ret) (A : OwnPos p l e R s m args below meth c h0 ws T h ck sk) {x : Int32} {o : Int} {pcY pcN : Nat} (hd : decode bytes pc = .ok (.ifCond .eq o, 3)) (ho : 0 ≤ (pc : Int) + o) (hpY : ((pc : Int) + o).toNat = pcY) (hpN : pc + 3 = pcN) (kY : x = 0 → OwnWP p e below s h0 ws Q CK SK T (mkF m pcY Ls S)) (kN : ¬ (x = 0) → OwnWP p e below s h0 ws Q CK SK T (mkF m pcN Ls S)) : OwnWP p e below s h0 ws Q CK SK T (mkF m pc Ls (.int x :: S)) := by
  obtain ⟨locs, X, -⟩ := A; subst hpN
  by_cases q : x = 0
  · exact ow_st (fun _ k => XS.ifYes X.here C.1 rfl (pc0 := pc) (pc' := pcY) rfl (hb C.2.2.2.1 hd) rfl ((if0 _ _).trans (teq q).1) ho hpY k) (kY q)
  · exact ow_st (fun _ k => XS.ifNo X.here C.1 rfl (hb C.2.2.2.1 hd) rfl ((if0 _ _).trans (feq q).1) k) (kN q)
theorem ow_lcmp_eq (C : OwnCtx p s m meth c Z a0 tw y0 bytes ml ret) (A : OwnPos p l e R s m args below meth c h0 ws T h ck sk) {x y : Int64} {o : Int} {pc1 pcY pcN : Nat} (hd : decode bytes pc = .ok (.lcmp, 1)) (hp1 : pc + 1 = pc1) (hd1 : decode bytes pc1 = .ok (.ifCond .eq o, 3)) (ho : 0 ≤ (pc1 : Int) + o) (hpY : ((pc1 : Int) + o).toNat = pcY) (hpN : pc1 + 3 = pcN) (kY : x = y → OwnWP p e below s h0 ws Q CK SK T (mkF m pcY Ls S)) (kN : ¬ (x = y) → OwnWP p e below s h0 ws Q CK SK T (mkF m pcN Ls S)) : OwnWP p e below s h0 ws Q CK SK T (mkF m pc Ls (.long y :: .long x :: S)) := by
  have A' := A; obtain ⟨locs, X, -⟩ := A'; subst hp1
  refine ow_st (fun _ k => XS.lcmp X.here C.1 rfl (hb C.2.2.2.1 hd) rfl k) ?_
  show OwnWP p e below s h0 ws Q CK SK T (mkF m (pc + 1) Ls (.int (lcmpW x y) :: S))
  exact ow_if_eq C A hd1 ho hpY hpN (fun q => kY ((lw_eq x y).mp q)) (fun q => kN (fun z => q ((lw_eq x y).mpr z)))
theorem ow_icmp_ne (C : OwnCtx p s m meth c Z a0 tw y0 bytes ml ret) (A : OwnPos p l e R s m args below meth c h0 ws T h ck sk) {x y : Int32} {o : Int} {pcY pcN : Nat} (hd : decode bytes pc = .ok (.if_icmp .ne o, 3)) (ho : 0 ≤ (pc : Int) + o) (hpY : ((pc : Int) + o).toNat = pcY) (hpN : pc + 3 = pcN) (kY : ¬ (x = y) → OwnWP p e below s h0 ws Q CK SK T (mkF m pcY Ls S)) (kN : x = y → OwnWP p e below s h0 ws Q CK SK T (mkF m pcN Ls S)) : OwnWP p e below s h0 ws Q CK SK T (mkF m pc Ls (.int y :: .int x :: S)) := by
  obtain ⟨locs, X, -⟩ := A; subst hpN
  by_cases q : x = y
  · exact ow_st (fun _ k => XS.icmpNo X.here C.1 rfl (hb C.2.2.2.1 hd) rfl (teq q).2 k) (kN q)
  · exact ow_st (fun _ k => XS.icmpYes X.here C.1 rfl (pc0 := pc) (pc' := pcY) rfl (hb C.2.2.2.1 hd) rfl (feq q).2 ho hpY k) (kY q)
theorem ow_if_ne (C : OwnCtx p s m meth c Z a0 tw y0 bytes ml ret) (A : OwnPos p l e R s m args below meth c h0 ws T h ck sk) {x : Int32} {o : Int} {pcY pcN : Nat} (hd : decode bytes pc = .ok (.ifCond .ne o, 3)) (ho : 0 ≤ (pc : Int) + o) (hpY : ((pc : Int) + o).toNat = pcY) (hpN : pc + 3 = pcN) (kY : ¬ (x = 0) → OwnWP p e below s h0 ws Q CK SK T (mkF m pcY Ls S)) (kN : x = 0 → OwnWP p e below s h0 ws Q CK SK T (mkF m pcN Ls S)) : OwnWP p e below s h0 ws Q CK SK T (mkF m pc Ls (.int x :: S)) := by
  obtain ⟨locs, X, -⟩ := A; subst hpN
  by_cases q : x = 0
  · exact ow_st (fun _ k => XS.ifNo X.here C.1 rfl (hb C.2.2.2.1 hd) rfl ((if0 _ _).trans (teq q).2) k) (kN q)
  · exact ow_st (fun _ k => XS.ifYes X.here C.1 rfl (pc0 := pc) (pc' := pcY) rfl (hb C.2.2.2.1 hd) rfl ((if0 _ _).trans (feq q).2) ho hpY k) (kY q)
theorem ow_lcmp_ne (C : OwnCtx p s m meth c Z a0 tw y0 bytes ml ret) (A : OwnPos p l e R s m args below meth c h0 ws T h ck sk) {x y : Int64} {o : Int} {pc1 pcY pcN : Nat} (hd : decode bytes pc = .ok (.lcmp, 1)) (hp1 : pc + 1 = pc1) (hd1 : decode bytes pc1 = .ok (.ifCond .ne o, 3)) (ho : 0 ≤ (pc1 : Int) + o) (hpY : ((pc1 : Int) + o).toNat = pcY) (hpN : pc1 + 3 = pcN) (kY : ¬ (x = y) → OwnWP p e below s h0 ws Q CK SK T (mkF m pcY Ls S)) (kN : x = y → OwnWP p e below s h0 ws Q CK SK T (mkF m pcN Ls S)) : OwnWP p e below s h0 ws Q CK SK T (mkF m pc Ls (.long y :: .long x :: S)) := by
  have A' := A; obtain ⟨locs, X, -⟩ := A'; subst hp1
  refine ow_st (fun _ k => XS.lcmp X.here C.1 rfl (hb C.2.2.2.1 hd) rfl k) ?_
  show OwnWP p e below s h0 ws Q CK SK T (mkF m (pc + 1) Ls (.int (lcmpW x y) :: S))
  exact ow_if_ne C A hd1 ho hpY hpN (fun q => kY (fun z => q ((lw_eq x y).mpr z))) (fun q => kN ((lw_eq x y).mp q))
theorem ow_ifnonnullYes (C : OwnCtx p s m meth c Z a0 tw y0 bytes ml ret) (A : OwnPos p l e R s m args below meth c h0 ws T h ck sk) {o : Int} {b : Addr} (hd : decode bytes pc = .ok (.ifnonnull o, 3)) (ho : 0 ≤ (pc : Int) + o) (hp : ((pc : Int) + o).toNat = pc') (k : OwnWP p e below s h0 ws Q CK SK T (mkF m pc' Ls S)) : OwnWP p e below s h0 ws Q CK SK T (mkF m pc Ls (.ref b :: S)) := by
  obtain ⟨locs, X, -⟩ := A
  exact ow_st (fun _ k => XS.ifnonnullYes X.here C.1 rfl (pc0 := pc) (pc' := pc') rfl (hb C.2.2.2.1 hd) rfl ho hp k) k
theorem ow_ifnonnullNo (C : OwnCtx p s m meth c Z a0 tw y0 bytes ml ret) (A : OwnPos p l e R s m args below meth c h0 ws T h ck sk) {o : Int} (hd : decode bytes pc = .ok (.ifnonnull o, 3)) (hp : pc + 3 = pc') (k : OwnWP p e below s h0 ws Q CK SK T (mkF m pc' Ls S)) : OwnWP p e below s h0 ws Q CK SK T (mkF m pc Ls (.null :: S)) := by
  obtain ⟨locs, X, -⟩ := A; subst hp
  exact ow_st (fun _ k => XS.ifnonnullNo X.here C.1 rfl (hb C.2.2.2.1 hd) rfl k) k
theorem ow_ldcInt (C : OwnCtx p s m meth c Z a0 tw y0 bytes ml ret) (A : OwnPos p l e R s m args below meth c h0 ws T h ck sk) {i : Nat} {v : Int32} (w : Jvm.Cond.constant y0.cls i v ∈ tw) (hd : decode bytes pc = .ok (.ldc i, 2)) (hp : pc + 2 = pc') (k : OwnWP p e below s h0 ws Q CK SK T (mkF m pc' Ls (.int v :: S))) : OwnWP p e below s h0 ws Q CK SK T (mkF m pc Ls S) := by
  obtain ⟨locs, X, -⟩ := A; subst hp
  exact ow_st (X.ldcInt C.1 C.2.2.2.2.2.1 (mvT C.2.1 (C.2.2.1 _ w)) (g := mkF m pc Ls S) rfl (hb C.2.2.2.1 hd)) k
theorem ow_ldc2 (C : OwnCtx p s m meth c Z a0 tw y0 bytes ml ret) (A : OwnPos p l e R s m args below meth c h0 ws T h ck sk) {i : Nat} {v : Int64} (w : Jvm.Cond.constantLong y0.cls i v ∈ tw) (hd : decode bytes pc = .ok (.ldc2_w i, 3)) (hp : pc + 3 = pc') (k : OwnWP p e below s h0 ws Q CK SK T (mkF m pc' Ls (.long v :: S))) : OwnWP p e below s h0 ws Q CK SK T (mkF m pc Ls S) := by
  obtain ⟨locs, X, -⟩ := A; subst hp
  exact ow_st (X.ldc2Long C.1 C.2.2.2.2.2.1 (mvT C.2.1 (C.2.2.1 _ w)) (g := mkF m pc Ls S) rfl (hb C.2.2.2.1 hd)) k
theorem ow_getF (C : OwnCtx p s m meth c Z a0 tw y0 bytes ml ret) (A : OwnPos p l e R s m args below meth c h0 ws T h ck sk) {i : Nat} {R0 O n d : String} {a : Addr} {v : Value} (w : Jvm.Cond.fieldLink y0.cls i R0 n d ∈ tw) (via : Via Z R0 O n d) (F : Fld Z h a O n d v) (hd : decode bytes pc = .ok (.getfield i, 3)) (hp : pc + 3 = pc') (k : ∀ T', OwnPos p l e R s m args below meth c h0 ws T' h ck sk → OwnWP p e below s h0 ws Q CK SK T' (mkF m pc' Ls (v :: S))) : OwnWP p e below s h0 ws Q CK SK T (mkF m pc Ls (.ref a :: S)) := by
  obtain ⟨locs, X, e1, N, K⟩ := A; subst hp
  obtain ⟨T', X', e', st⟩ := getF X C.1 C.2.1 C.2.2.2.2.2.1 (host := "") (Or.inl (C.2.2.1 _ w)) via e1 F (g := mkF m pc Ls (.ref a :: S)) rfl rfl (hb C.2.2.2.1 hd)
  exact ow_st st (k T' ⟨locs, X', e', N, K⟩)
theorem ow_putF (C : OwnCtx p s m meth c Z a0 tw y0 bytes ml ret) (A : OwnPos p l e R s m args below meth c h0 ws T h ck sk) {i kk : Nat} {R0 O n d D : String} {a : Addr} {v old : Value} {ty : FieldType} (w : Jvm.Cond.fieldLink y0.cls i R0 n d ∈ tw) (via : Via Z R0 O n d) (F : Fld Z h a O n d old) (E : Exa Z h a D) (wl : Jvm.Cond.lays D O n d ∈ tw) (wi : Jvm.Cond.instantiable D kk ∈ tw) (hty : parseFieldDescriptor d = some ty) (hn : narrow ty v = v) (hf : fits ty v = true) (q : a ∈ ws ∨ h0.size ≤ a) (hd : decode bytes pc = .ok (.putfield i, 3)) (hp : pc + 3 = pc') (k : ∀ T' h', Wr h h' a (slotOf Z O n d) v → OwnPos p l e R s m args below meth c h0 ws T' h' ck sk → OwnWP p e below s h0 ws Q CK SK T' (mkF m pc' Ls S)) : OwnWP p e below s h0 ws Q CK SK T (mkF m pc Ls (v :: .ref a :: S)) := by
  obtain ⟨locs, X, e1, N, K⟩ := A; subst hp
  obtain ⟨T', h', X', e', W', st⟩ := putF X C.1 C.2.1 C.2.2.2.2.2.1 (host := "") (Or.inl (C.2.2.1 _ w)) via e1 F E (Or.inl (C.2.2.1 _ wl)) (C.2.2.1 _ wi) hty hn hf (g := mkF m pc Ls (v :: .ref a :: S)) rfl rfl (hb C.2.2.2.1 hd)
  exact ow_st st (k T' h' W' ⟨_, X', e', fun y hy => (List.mem_append.mp hy).elim (N y) fun z => by cases List.mem_singleton.mp z; exact q, K.wr W' q⟩)
theorem ow_putFin (C : OwnCtx p s m meth c Z a0 tw y0 bytes ml ret) (A : OwnPos p l e R s m args below meth c h0 ws T h ck sk) {i kk : Nat} {R0 O n d D : String} {a : Addr} {v old : Value} {ty : FieldType} (w : Jvm.Cond.fieldLink y0.cls i R0 n d ∈ tw) (via : Via Z R0 O n d) (F : Fld Z h a O n d old) (E : Exa Z h a D) (wl : Jvm.Cond.laysFinal D O n d ∈ tw) (hO : y0.cls = O) (hi : y0.name = "<init>") (wi : Jvm.Cond.instantiable D kk ∈ tw) (hty : parseFieldDescriptor d = some ty) (hn : narrow ty v = v) (hf : fits ty v = true) (q : a ∈ ws ∨ h0.size ≤ a) (hd : decode bytes pc = .ok (.putfield i, 3)) (hp : pc + 3 = pc') (k : ∀ T' h', Wr h h' a (slotOf Z O n d) v → OwnPos p l e R s m args below meth c h0 ws T' h' ck sk → OwnWP p e below s h0 ws Q CK SK T' (mkF m pc' Ls S)) : OwnWP p e below s h0 ws Q CK SK T (mkF m pc Ls (v :: .ref a :: S)) := by
  obtain ⟨locs, X, e1, N, K⟩ := A; subst hp
  obtain ⟨T', h', X', e', W', st⟩ := putF X C.1 C.2.1 C.2.2.2.2.2.1 (host := "") (Or.inl (C.2.2.1 _ w)) via e1 F E (Or.inr ⟨C.2.2.1 _ wl, hO, C.2.2.2.2.2.2.1.trans hi⟩) (C.2.2.1 _ wi) hty hn hf (g := mkF m pc Ls (v :: .ref a :: S)) rfl rfl (hb C.2.2.2.1 hd)
  exact ow_st st (k T' h' W' ⟨_, X', e', fun y hy => (List.mem_append.mp hy).elim (N y) fun z => by cases List.mem_singleton.mp z; exact q, K.wr W' q⟩)
theorem ow_new (C : OwnCtx p s m meth c Z a0 tw y0 bytes ml ret) (A : OwnPos p l e R s m args below meth c h0 ws T h ck sk) {i n ck' sk' : Nat} {D : String} (w : Jvm.Cond.classLink y0.cls i D ∈ tw) (wi : Jvm.Cond.instantiable D n ∈ tw) (wz : Jvm.Cond.initialized D ∈ tw) (hd : decode bytes pc = .ok (.new i, 3)) (hp : pc + 3 = pc') (hck : ck + 1 = ck') (hsk : sk + n = sk') (hc : ck' ≤ R.cells) (hs : sk' ≤ R.slots)
    (k : ∀ T' h' b, b = h.size → Ext h h' → Exa Z h' b D → (∀ {O nm d : String} {ty : FieldType}, Laid Z a0 D O nm d → parseFieldDescriptor d = some ty → Fld Z h' b O nm d (defaultValue ty)) → OwnPos p l e R s m args below meth c h0 ws T' h' ck' sk' → OwnWP p e below s h0 ws Q CK SK T' (mkF m pc' Ls (.ref b :: S))) : OwnWP p e below s h0 ws Q CK SK T (mkF m pc Ls S) := by
  obtain ⟨locs, X, e1, N, K⟩ := A; subst hp hck hsk
  obtain ⟨T', h', X', e', E', A', D', -, st⟩ := newO X C.1 C.2.1 C.2.2.2.2.2.1 (C.2.2.1 _ w) (C.2.2.1 _ wi) (C.2.2.1 _ wz) e1 (g := mkF m pc Ls S) rfl (hb C.2.2.2.1 hd) hc hs
  exact ow_st st (k T' h' h.size rfl E' A' D' ⟨locs, X', e', N, K.ext E'⟩)
theorem ow_newA (C : OwnCtx p s m meth c Z a0 tw y0 bytes ml ret) (A : OwnPos p l e R s m args below meth c h0 ws T h ck sk) {aty : ArrayType} {ty : FieldType} {n : Int32} {cap ck' sk' : Nat} (hty : newarray.typeOf aty = ty) (w : Jvm.Cond.arrayClass ty ∈ tw) (hd : decode bytes pc = .ok (.newarray aty, 2)) (hp : pc + 2 = pc') (hn : ¬ n < 0) (hcap : n.toNatClampNeg ≤ cap) (hb8 : cap * 8 ≤ 536870912) (hck : ck + 1 = ck') (hsk : sk + cap = sk') (hc : ck' ≤ R.cells) (hs : sk' ≤ R.slots)
    (k : ∀ T' h' b kk, b = h.size → Ext h h' → Arv Z h' b kk ty n [] (defaultValue ty) → OwnPos p l e R s m args below meth c h0 ws T' h' ck' sk' → OwnWP p e below s h0 ws Q CK SK T' (mkF m pc' Ls (.ref b :: S))) : OwnWP p e below s h0 ws Q CK SK T (mkF m pc Ls (.int n :: S)) := by
  obtain ⟨locs, X, e1, N, K⟩ := A; subst hp hck hsk hty
  obtain ⟨T', h', kk, X', e', E', A', st⟩ := newP X C.1 C.2.1 (C.2.2.1 _ w) e1 (g := mkF m pc Ls (.int n :: S)) rfl (hb C.2.2.2.1 hd) rfl hn (cap := cap) hcap hb8 hc hs
  exact ow_st st (k T' h' h.size kk rfl E' (Arv.new A' hn) ⟨locs, X', e', N, K.ext E'⟩)
theorem ow_alen (C : OwnCtx p s m meth c Z a0 tw y0 bytes ml ret) (A : OwnPos p l e R s m args below meth c h0 ws T h ck sk) {a : Addr} {kk : ClassId} {ty : FieldType} {n : Int32} {vs : List Value} {dv : Value} (V : Arv Z h a kk ty n vs dv) (hd : decode bytes pc = .ok (.arraylength, 1)) (hp : pc + 1 = pc') (k : OwnWP p e below s h0 ws Q CK SK T (mkF m pc' Ls (.int n :: S))) : OwnWP p e below s h0 ws Q CK SK T (mkF m pc Ls (.ref a :: S)) := by
  obtain ⟨locs, X, rfl, -⟩ := A; subst hp
  obtain ⟨cl, Ar, -, S1, N1, -, -⟩ := V
  refine ow_st (fun t k => X.arraylength C.1 Ar.1 (State.isArrayOf_alike C.2.1.alike Ar.2.1) (g := mkF m pc Ls (.ref a :: S)) rfl rfl (hb C.2.2.2.1 hd) t k) ?_
  rw [len_of S1 N1]; exact k
theorem ow_iaload (C : OwnCtx p s m meth c Z a0 tw y0 bytes ml ret) (A : OwnPos p l e R s m args below meth c h0 ws T h ck sk) {a : Addr} {kk : ClassId} {n j : Int32} {vs : List Value} {dv v : Value} (V : Arv Z h a kk .int n vs dv) (hj : ¬ j < 0 ∧ j < n) (hv : vs.getD j.toNatClampNeg dv = v) (hd : decode bytes pc = .ok (.iaload, 1)) (hp : pc + 1 = pc') (k : OwnWP p e below s h0 ws Q CK SK T (mkF m pc' Ls (v :: S))) : OwnWP p e below s h0 ws Q CK SK T (mkF m pc Ls (.int j :: .ref a :: S)) := by
  obtain ⟨locs, X, rfl, -⟩ := A; subst hp
  obtain ⟨cl, Ar, -, S1, N1, H1, -⟩ := V
  have hin := inb_of S1 hj
  exact ow_st (fun t k => X.iaload C.1 (j := j) (v := v) Ar.1 (State.isArrayOf_alike C.2.1.alike Ar.2.1) Ar.2.2 hin (H1.at hin hv) (g := mkF m pc Ls (.int j :: .ref a :: S)) rfl rfl (hb C.2.2.2.1 hd) t k) k
theorem ow_laload (C : OwnCtx p s m meth c Z a0 tw y0 bytes ml ret) (A : OwnPos p l e R s m args below meth c h0 ws T h ck sk) {a : Addr} {kk : ClassId} {n j : Int32} {vs : List Value} {dv v : Value} (V : Arv Z h a kk .long n vs dv) (hj : ¬ j < 0 ∧ j < n) (hv : vs.getD j.toNatClampNeg dv = v) (hd : decode bytes pc = .ok (.laload, 1)) (hp : pc + 1 = pc') (k : OwnWP p e below s h0 ws Q CK SK T (mkF m pc' Ls (v :: S))) : OwnWP p e below s h0 ws Q CK SK T (mkF m pc Ls (.int j :: .ref a :: S)) := by
  obtain ⟨locs, X, rfl, -⟩ := A; subst hp
  obtain ⟨cl, Ar, -, S1, N1, H1, -⟩ := V
  have hin := inb_of S1 hj
  exact ow_st (fun t k => X.laload C.1 (j := j) (v := v) Ar.1 (State.isArrayOf_alike C.2.1.alike Ar.2.1) Ar.2.2 hin (H1.at hin hv) (g := mkF m pc Ls (.int j :: .ref a :: S)) rfl rfl (hb C.2.2.2.1 hd) t k) k
theorem ow_baload (C : OwnCtx p s m meth c Z a0 tw y0 bytes ml ret) (A : OwnPos p l e R s m args below meth c h0 ws T h ck sk) {a : Addr} {kk : ClassId} {n j : Int32} {vs : List Value} {dv v : Value} (V : Arv Z h a kk .byte n vs dv) (hj : ¬ j < 0 ∧ j < n) (hv : vs.getD j.toNatClampNeg dv = v) (hd : decode bytes pc = .ok (.baload, 1)) (hp : pc + 1 = pc') (k : OwnWP p e below s h0 ws Q CK SK T (mkF m pc' Ls (v :: S))) : OwnWP p e below s h0 ws Q CK SK T (mkF m pc Ls (.int j :: .ref a :: S)) := by
  obtain ⟨locs, X, rfl, -⟩ := A; subst hp
  obtain ⟨cl, Ar, -, S1, N1, H1, -⟩ := V
  have hin := inb_of S1 hj
  exact ow_st (fun t k => X.baloadBytes C.1 (j := j) (v := v) Ar.1 (State.isArrayOf_alike C.2.1.alike Ar.2.1) Ar.2.2 hin (H1.at hin hv) (g := mkF m pc Ls (.int j :: .ref a :: S)) rfl rfl (hb C.2.2.2.1 hd) t k) k
theorem ow_iastore (C : OwnCtx p s m meth c Z a0 tw y0 bytes ml ret) (A : OwnPos p l e R s m args below meth c h0 ws T h ck sk) {a : Addr} {kk : ClassId} {n j : Int32} {x : Int32} {vs : List Value} {dv : Value} {i : Nat} (V : Arv Z h a kk .int n vs dv) (hj : ¬ j < 0 ∧ j < n) (hi : j.toNatClampNeg = i) (hl : i < vs.length) (q : a ∈ ws ∨ h0.size ≤ a) (hd : decode bytes pc = .ok (.iastore, 1)) (hp : pc + 1 = pc')
    (k : ∀ T' h', Wr h h' a j.toNatClampNeg (.int x) → Arv Z h' a kk .int n (vs.set i (.int x)) dv → OwnPos p l e R s m args below meth c h0 ws T' h' ck sk → OwnWP p e below s h0 ws Q CK SK T' (mkF m pc' Ls S)) : OwnWP p e below s h0 ws Q CK SK T (mkF m pc Ls (.int x :: .int j :: .ref a :: S)) := by
  obtain ⟨locs, X, e1, N, K⟩ := A; subst hp
  obtain ⟨cl, Ar, q1, S1, N1, H1, G1⟩ := V
  have hin := inb_of S1 hj
  obtain ⟨T', h', X', e', W', st⟩ := stI X C.1 C.2.1 e1 Ar (j := j) hin (g := mkF m pc Ls (.int x :: .int j :: .ref a :: S)) rfl rfl (hb C.2.2.2.1 hd)
  exact ow_st st (k T' h' W' (Arv.set Ar q1 S1 N1 H1 G1 rfl W' i hi hl) ⟨_, X', e', fun y hy => (List.mem_append.mp hy).elim (N y) fun z => by cases List.mem_singleton.mp z; exact q, K.wr W' q⟩)
theorem ow_lastore (C : OwnCtx p s m meth c Z a0 tw y0 bytes ml ret) (A : OwnPos p l e R s m args below meth c h0 ws T h ck sk) {a : Addr} {kk : ClassId} {n j : Int32} {x : Int64} {vs : List Value} {dv : Value} {i : Nat} (V : Arv Z h a kk .long n vs dv) (hj : ¬ j < 0 ∧ j < n) (hi : j.toNatClampNeg = i) (hl : i < vs.length) (q : a ∈ ws ∨ h0.size ≤ a) (hd : decode bytes pc = .ok (.lastore, 1)) (hp : pc + 1 = pc')
    (k : ∀ T' h', Wr h h' a j.toNatClampNeg (.long x) → Arv Z h' a kk .long n (vs.set i (.long x)) dv → OwnPos p l e R s m args below meth c h0 ws T' h' ck sk → OwnWP p e below s h0 ws Q CK SK T' (mkF m pc' Ls S)) : OwnWP p e below s h0 ws Q CK SK T (mkF m pc Ls (.long x :: .int j :: .ref a :: S)) := by
  obtain ⟨locs, X, e1, N, K⟩ := A; subst hp
  obtain ⟨cl, Ar, q1, S1, N1, H1, G1⟩ := V
  have hin := inb_of S1 hj
  obtain ⟨T', h', X', e', W', st⟩ := stJ X C.1 C.2.1 e1 Ar (j := j) hin (g := mkF m pc Ls (.long x :: .int j :: .ref a :: S)) rfl rfl (hb C.2.2.2.1 hd)
  exact ow_st st (k T' h' W' (Arv.set Ar q1 S1 N1 H1 G1 rfl W' i hi hl) ⟨_, X', e', fun y hy => (List.mem_append.mp hy).elim (N y) fun z => by cases List.mem_singleton.mp z; exact q, K.wr W' q⟩)
theorem ow_bastore (C : OwnCtx p s m meth c Z a0 tw y0 bytes ml ret) (A : OwnPos p l e R s m args below meth c h0 ws T h ck sk) {a : Addr} {kk : ClassId} {n j : Int32} {x : Int32} {vs : List Value} {dv : Value} {i : Nat} (V : Arv Z h a kk .byte n vs dv) (hj : ¬ j < 0 ∧ j < n) (hi : j.toNatClampNeg = i) (hl : i < vs.length) (q : a ∈ ws ∨ h0.size ≤ a) (hd : decode bytes pc = .ok (.bastore, 1)) (hp : pc + 1 = pc')
    (k : ∀ T' h', Wr h h' a j.toNatClampNeg (.int x.toInt8.toInt32) → Arv Z h' a kk .byte n (vs.set i (.int x.toInt8.toInt32)) dv → OwnPos p l e R s m args below meth c h0 ws T' h' ck sk → OwnWP p e below s h0 ws Q CK SK T' (mkF m pc' Ls S)) : OwnWP p e below s h0 ws Q CK SK T (mkF m pc Ls (.int x :: .int j :: .ref a :: S)) := by
  obtain ⟨locs, X, e1, N, K⟩ := A; subst hp
  obtain ⟨cl, Ar, q1, S1, N1, H1, G1⟩ := V
  have hin := inb_of S1 hj
  obtain ⟨T', h', X', e', W', st⟩ := stB X C.1 C.2.1 e1 Ar (j := j) hin (g := mkF m pc Ls (.int x :: .int j :: .ref a :: S)) rfl rfl (hb C.2.2.2.1 hd)
  exact ow_st st (k T' h' W' (Arv.set Ar q1 S1 N1 H1 G1 (fits_nar_byte _) W' i hi hl) ⟨_, X', e', fun y hy => (List.mem_append.mp hy).elim (N y) fun z => by cases List.mem_singleton.mp z; exact q, K.wr W' q⟩)
theorem ow_initO (C : OwnCtx p s m meth c Z a0 tw y0 bytes ml ret) (A : OwnPos p l e R s m args below meth c h0 ws T h ck sk) {i W : Nat} {a : Addr} (w1 : Jvm.Cond.methodLink y0.cls i Lib.objectInit ∈ tw) (w2 : Jvm.Cond.instanceMethod Lib.objectInit ∈ tw) (w3 : Jvm.Cond.code Lib.objectInit ⟨#[0xb1]⟩ 1 none ∈ tw) (hsz : Ls.size = ml) (hd : decode bytes pc = .ok (.invokespecial i, 3)) (hp : pc + 3 = pc') (hf : 1 ≤ R.frames) (hW : 2 * 0 + (S.map fun v => v.category).sum ≤ W) (hl : W + 12 ≤ R.locals) (k : ∀ T', OwnPos p l e R s m args below meth c h0 ws T' h ck sk → OwnWP p e below s h0 ws Q CK SK T' (mkF m pc' Ls S)) : OwnWP p e below s h0 ws Q CK SK T (mkF m pc Ls (.ref a :: S)) := by
  obtain ⟨locs, X, e1, N, K⟩ := A; subst hp
  obtain ⟨T', X', e', st⟩ := initO X C.1 C.2.1 C.2.2.2.2.2.1 (C.2.2.1 _ w1) (C.2.2.1 _ w2) (C.2.2.1 _ w3) e1 (g := mkF m pc Ls (.ref a :: S)) rfl (hsz.trans C.2.2.2.2.1.symm) rfl (hb C.2.2.2.1 hd) hf (W := W) hW hl
  exact ow_st st (k T' ⟨locs, X', e', N, K⟩)
theorem ow_callS (C : OwnCtx p s m meth c Z a0 tw y0 bytes ml ret) (A : OwnPos p l e R s m args below meth c h0 ws T h ck sk) {rm : Room} {cb : ByteArray} {cm : Nat} {cr : Option FieldType} {ws' : List Addr} {Q' : Option Value → Heap → Prop} {y : MethodName} {i W ck' sk' : Nat} {argsL : List Value} (hM : OwnCtr l Z y cb cm cr rm argsL.toArray h ws' Q' []) (w1 : Jvm.Cond.methodLink y0.cls i y ∈ tw) (w2 : Jvm.Cond.static y ∈ tw) (w3 : Jvm.Cond.initialized y.cls ∈ tw) (w4 : Jvm.Cond.code y cb cm cr ∈ tw) (hy : y.cls ≠ "java/lang/invoke/MethodHandle" ∧ y.cls ≠ "java/lang/invoke/VarHandle") (hq : ∀ x ∈ ws', x ∈ ws ∨ h0.size ≤ x) (hfr : rm.frames + 1 ≤ R.frames) (hlo : W + (cm + 11) + rm.locals ≤ R.locals) (hck : ck + rm.cells = ck') (hsk : sk + rm.slots = sk') (hc : ck' ≤ R.cells) (hs : sk' ≤ R.slots) (hsz : Ls.size = ml) (hlen : ∀ sig, parseMethodDescriptor y.desc = some sig → argsL.length = sig.parameters.length) {st0 : List Value} (hst : st0 = argsL.reverse ++ S) (hW : 2 * 0 + (S.map fun v => v.category).sum ≤ W) (hd : decode bytes pc = .ok (.invokestatic i, 3)) (hp : pc + 3 = pc') (k : ∀ T' v, Keep h T'.heap ws' → Q' v T'.heap → OwnPos p l e R s m args below meth c h0 ws T' T'.heap ck' sk' → OwnWP p e below s h0 ws Q CK SK T' (mkF m pc' Ls (v.toList ++ S))) : OwnWP p e below s h0 ws Q CK SK T (mkF m pc Ls st0) := by
  obtain ⟨locs, X, e1, N, K⟩ := A; subst hp hck hsk hst
  obtain ⟨v, _, ⟨T', L', k', n'⟩, -, X', ⟨Lc, ⟨hN, hKe, hQ⟩, hl, hc', hs'⟩, st⟩ := Jvm.LawKit.callS X C.1 (y := y) C.2.2.2.2.2.1 (mvT C.2.1 (C.2.2.1 _ w1)) (mvT C.2.1 (C.2.2.1 _ w2)) (mvT C.2.1 (C.2.2.1 _ w3)) (mvT C.2.1 (C.2.2.1 _ w4)) hy (backOf (W := W) (Q := fun v hh L => ((∀ y ∈ L, y.base ∈ ws' ∨ h.size ≤ y.base) ∧ Keep h hh ws' ∧ Q' v hh)) hM C.2.1 (C.2.2.1 _ w4) (C.2.2.1 _ w3) hfr hlo) (g := mkF m pc Ls (argsL.reverse ++ S)) rfl (hsz.trans C.2.2.2.2.1.symm) (argsL := argsL) (rest := S) hlen rfl hW (hb C.2.2.2.1 hd) (fun _ _ => ⟨rfl, e1, hc, hs⟩)
  dsimp only [Pt.U, Pt.locs, Pt.cells, Pt.slots] at X' hl hc' hs' st hN hKe hQ
  subst hl hc' hs'
  exact ow_st st (k T' v hKe hQ ⟨_, X', rfl, fun y hy => (List.mem_append.mp hy).elim (N y) fun z => (hN y z).elim (fun u => hq _ u) fun u => Or.inr (Nat.le_trans K.1 u), K.trans hKe hq⟩)
theorem ow_callI (C : OwnCtx p s m meth c Z a0 tw y0 bytes ml ret) (A : OwnPos p l e R s m args below meth c h0 ws T h ck sk) {rm : Room} {cb : ByteArray} {cm : Nat} {ws' : List Addr} {Q' : Option Value → Heap → Prop} {y : MethodName} {i W ck' sk' : Nat} {argsL : List Value} {a : Addr} (hM : OwnCtr l Z y cb cm none rm (.ref a :: argsL).toArray h ws' Q' []) (hy1 : y.name = "<init>") (w1 : Jvm.Cond.methodLink y0.cls i y ∈ tw) (w2 : Jvm.Cond.instanceMethod y ∈ tw) (w3 : Jvm.Cond.initialized y.cls ∈ tw) (w4 : Jvm.Cond.code y cb cm none ∈ tw) (hy : y.cls ≠ "java/lang/invoke/MethodHandle" ∧ y.cls ≠ "java/lang/invoke/VarHandle") (hq : ∀ x ∈ ws', x ∈ ws ∨ h0.size ≤ x) (hfr : rm.frames + 1 ≤ R.frames) (hlo : W + (cm + 11) + rm.locals ≤ R.locals) (hck : ck + rm.cells = ck') (hsk : sk + rm.slots = sk') (hc : ck' ≤ R.cells) (hs : sk' ≤ R.slots) (hsz : Ls.size = ml) (hlen : ∀ sig, parseMethodDescriptor y.desc = some sig → argsL.length = sig.parameters.length) {st0 : List Value} (hst : st0 = argsL.reverse ++ .ref a :: S) (hW : 2 * 0 + (S.map fun v => v.category).sum ≤ W) (hd : decode bytes pc = .ok (.invokespecial i, 3)) (hp : pc + 3 = pc') (k : ∀ T' v, Keep h T'.heap ws' → Q' v T'.heap → OwnPos p l e R s m args below meth c h0 ws T' T'.heap ck' sk' → OwnWP p e below s h0 ws Q CK SK T' (mkF m pc' Ls (v.toList ++ S))) : OwnWP p e below s h0 ws Q CK SK T (mkF m pc Ls st0) := by
  obtain ⟨locs, X, e1, N, K⟩ := A; subst hp hck hsk hst
  obtain ⟨v, _, ⟨T', L', k', n'⟩, -, X', ⟨Lc, ⟨hN, hKe, hQ⟩, hl, hc', hs'⟩, st⟩ := X.specialBack C.1 (y := y) hy1 C.2.2.2.2.2.1 (mvT C.2.1 (C.2.2.1 _ w1)) (mvT C.2.1 (C.2.2.1 _ w2)) (mvT C.2.1 (C.2.2.1 _ w4)) hy (backOf (W := W) (Q := fun v hh L => ((∀ y ∈ L, y.base ∈ ws' ∨ h.size ≤ y.base) ∧ Keep h hh ws' ∧ Q' v hh)) hM C.2.1 (C.2.2.1 _ w4) (C.2.2.1 _ w3) hfr hlo) (g := mkF m pc Ls (argsL.reverse ++ .ref a :: S)) rfl (hsz.trans C.2.2.2.2.1.symm) (Steps.refl _) (a := a) (argsL := argsL) (rest := S) hlen rfl hW (hb C.2.2.2.1 hd) (fun _ _ => ⟨rfl, e1, hc, hs⟩)
  dsimp only [Pt.U, Pt.locs, Pt.cells, Pt.slots] at X' hl hc' hs' st hN hKe hQ
  subst hl hc' hs'
  exact ow_stT st (k T' v hKe hQ ⟨_, X', rfl, fun y hy => (List.mem_append.mp hy).elim (N y) fun z => (hN y z).elim (fun u => hq _ u) fun u => Or.inr (Nat.le_trans K.1 u), K.trans hKe hq⟩)
theorem ow_callV (C : OwnCtx p s m meth c Z a0 tw y0 bytes ml ret) (A : OwnPos p l e R s m args below meth c h0 ws T h ck sk) {rm : Room} {cb : ByteArray} {cm : Nat} {cr : Option FieldType} {ws' : List Addr} {Q' : Option Value → Heap → Prop} {y : MethodName} {i W ck' sk' : Nat} {argsL : List Value} {z : MethodName} {D : String} {a : Addr} (E : Exa Z h a D) (hM : OwnCtr l Z z cb cm cr rm (.ref a :: argsL).toArray h ws' Q' []) (w1 : Jvm.Cond.methodLink y0.cls i y ∈ tw) (w5 : Jvm.Cond.declares y ∈ tw) (hnf : ∀ s : State, ∀ args : Array Value, Z.Warmed39 s.vm → NotFace s y) (w6 : Jvm.Cond.selects D y z ∈ tw) (w2 : Jvm.Cond.instanceMethod z ∈ tw) (w3 : Jvm.Cond.initialized z.cls ∈ tw) (w4 : Jvm.Cond.code z cb cm cr ∈ tw) (hy : y.cls ≠ "java/lang/invoke/MethodHandle" ∧ y.cls ≠ "java/lang/invoke/VarHandle") (hq : ∀ x ∈ ws', x ∈ ws ∨ h0.size ≤ x) (hfr : rm.frames + 1 ≤ R.frames) (hlo : W + (cm + 11) + rm.locals ≤ R.locals) (hck : ck + rm.cells = ck') (hsk : sk + rm.slots = sk') (hc : ck' ≤ R.cells) (hs : sk' ≤ R.slots) (hsz : Ls.size = ml) (hlen : ∀ sig, parseMethodDescriptor y.desc = some sig → argsL.length = sig.parameters.length) {st0 : List Value} (hst : st0 = argsL.reverse ++ .ref a :: S) (hW : 2 * 0 + (S.map fun v => v.category).sum ≤ W) (hd : decode bytes pc = .ok (.invokevirtual i, 3)) (hp : pc + 3 = pc') (k : ∀ T' v, Keep h T'.heap ws' → Q' v T'.heap → OwnPos p l e R s m args below meth c h0 ws T' T'.heap ck' sk' → OwnWP p e below s h0 ws Q CK SK T' (mkF m pc' Ls (v.toList ++ S))) : OwnWP p e below s h0 ws Q CK SK T (mkF m pc Ls st0) := by
  obtain ⟨locs, X, e1, N, K⟩ := A; subst hp hck hsk hst
  obtain ⟨cq, kq, qa, qb, qc⟩ := isOf C.2.1 e1 E
  obtain ⟨v, _, ⟨T', L', k', n'⟩, -, X', ⟨Lc, ⟨hN, hKe, hQ⟩, hl, hc', hs'⟩, st⟩ := X.virtualBack C.1 (y := y) (z := z) C.2.2.2.2.2.1 (mvT C.2.1 (C.2.2.1 _ w1)) (mvT C.2.1 (C.2.2.1 _ w5)) (hnf s #[] C.2.1) (mvT C.2.1 (C.2.2.1 _ w6)) (mvT C.2.1 (C.2.2.1 _ w2)) hy (backOf (W := W) (Q := fun v hh L => ((∀ y ∈ L, y.base ∈ ws' ∨ h.size ≤ y.base) ∧ Keep h hh ws' ∧ Q' v hh)) hM C.2.1 (C.2.2.1 _ w4) (C.2.2.1 _ w3) hfr hlo) qa qc (g := mkF m pc Ls (argsL.reverse ++ .ref a :: S)) rfl (hsz.trans C.2.2.2.2.1.symm) (Steps.refl _) (argsL := argsL) (rest := S) hlen rfl hW (hb C.2.2.2.1 hd) (fun _ _ => ⟨rfl, e1, hc, hs⟩)
  dsimp only [Pt.U, Pt.locs, Pt.cells, Pt.slots] at X' hl hc' hs' st hN hKe hQ
  subst hl hc' hs'
  exact ow_stT st (k T' v hKe hQ ⟨_, X', rfl, fun y hy => (List.mem_append.mp hy).elim (N y) fun z => (hN y z).elim (fun u => hq _ u) fun u => Or.inr (Nat.le_trans K.1 u), K.trans hKe hq⟩)
theorem ow_selP {y : MethodName} {n : Nat} (hy : y.cls ≠ "java/lang/invoke/MethodHandle" ∧ y.cls ≠ "java/lang/invoke/VarHandle") (hins : (Jvm.Cond.instantiable y.cls n).before args s = true) (hpriv : (Jvm.Cond.privateMethod y).before args s = true) (hinst : (Jvm.Cond.instanceMethod y).before args s = true) :
    (Jvm.Cond.selects y.cls y y).before args s = true := by
  obtain ⟨c, k, hc, hk, -, hniab, -, -⟩ := Cond.instantiable_spec hins
  have hni : k.isInterface = false := (Bool.or_eq_false_iff.mp hniab).1
  obtain ⟨mk, methM, hnamed, hmethM, -, -⟩ := Cond.instanceMethod_spec hinst
  have hfound : s.methodFound? y.cls y.name y.desc = some mk := State.methodFound?_of_named hnamed hy
  have hcls : mk.cls = c := Option.some.inj ((findClass_of_methodNamed hnamed).symm.trans hc)
  have hsel : selectMethod {} s.vm c mk = .method mk := selectMethod_private hmethM (Cond.privateMethod_at hpriv mk methM hnamed hmethM)
  simp only [Cond.before, Cond.holds, Cond.value, hc, hfound, hnamed, hsel, hcls, hk]
  simp; exact hni
theorem ow_callP (C : OwnCtx p s m meth c Z a0 tw y0 bytes ml ret) (A : OwnPos p l e R s m args below meth c h0 ws T h ck sk) {rm : Room} {cb : ByteArray} {cm : Nat} {cr : Option FieldType} {ws' : List Addr} {Q' : Option Value → Heap → Prop} {y : MethodName} {i W ck' sk' : Nat} {argsL : List Value} {D : String} {a : Addr} (E : Exa Z h a D) (hM : OwnCtr l Z y cb cm cr rm (.ref a :: argsL).toArray h ws' Q' []) (w1 : Jvm.Cond.methodLink y0.cls i y ∈ tw) (w5 : Jvm.Cond.privateMethod y ∈ tw) {ni : Nat} (w6 : Jvm.Cond.instantiable y.cls ni ∈ tw) (w2 : Jvm.Cond.instanceMethod y ∈ tw) (w3 : Jvm.Cond.initialized y.cls ∈ tw) (w4 : Jvm.Cond.code y cb cm cr ∈ tw) (hy : y.cls ≠ "java/lang/invoke/MethodHandle" ∧ y.cls ≠ "java/lang/invoke/VarHandle") (hq : ∀ x ∈ ws', x ∈ ws ∨ h0.size ≤ x) (hfr : rm.frames + 1 ≤ R.frames) (hlo : W + (cm + 11) + rm.locals ≤ R.locals) (hck : ck + rm.cells = ck') (hsk : sk + rm.slots = sk') (hc : ck' ≤ R.cells) (hs : sk' ≤ R.slots) (hsz : Ls.size = ml) (hlen : ∀ sig, parseMethodDescriptor y.desc = some sig → argsL.length = sig.parameters.length) {st0 : List Value} (hst : st0 = argsL.reverse ++ .ref a :: S) (hW : 2 * 0 + (S.map fun v => v.category).sum ≤ W) (hd : decode bytes pc = .ok (.invokevirtual i, 3)) (hp : pc + 3 = pc') (k : ∀ T' v, Keep h T'.heap ws' → Q' v T'.heap → OwnPos p l e R s m args below meth c h0 ws T' T'.heap ck' sk' → OwnWP p e below s h0 ws Q CK SK T' (mkF m pc' Ls (v.toList ++ S))) : OwnWP p e below s h0 ws Q CK SK T (mkF m pc Ls st0) := by
  obtain ⟨locs, X, e1, N, K⟩ := A; subst hp hck hsk hst
  obtain ⟨cq, qa, qb⟩ := E.cell
  obtain ⟨v, _, ⟨T', L', k', n'⟩, -, X', ⟨Lc, ⟨hN, hKe, hQ⟩, hl, hc', hs'⟩, st⟩ := X.privateBack C.1 (y := y) C.2.2.2.2.2.1 (mvT C.2.1 (C.2.2.1 _ w1)) (mvT C.2.1 (C.2.2.1 _ w2)) (ow_selP hy (mvT C.2.1 (C.2.2.1 _ w6)) (mvP C.2.1 (C.2.2.1 _ w5)) (mvT C.2.1 (C.2.2.1 _ w2))) (Cond.privateMethod_at (mvP C.2.1 (C.2.2.1 _ w5) (args := #[]))) (mvT C.2.1 (C.2.2.1 _ w4)) hy (backOf (W := W) (Q := fun v hh L => ((∀ y ∈ L, y.base ∈ ws' ∨ h.size ≤ y.base) ∧ Keep h hh ws' ∧ Q' v hh)) hM C.2.1 (C.2.2.1 _ w4) (C.2.2.1 _ w3) hfr hlo) (g := mkF m pc Ls (argsL.reverse ++ .ref a :: S)) rfl (hsz.trans C.2.2.2.2.1.symm) (Steps.refl _) (a := a) (by rw [e1]; exact qa) qb (argsL := argsL) (rest := S) hlen rfl hW (hb C.2.2.2.1 hd) (fun _ _ => ⟨rfl, e1, hc, hs⟩)
  dsimp only [Pt.U, Pt.locs, Pt.cells, Pt.slots] at X' hl hc' hs' st hN hKe hQ
  subst hl hc' hs'
  exact ow_stT st (k T' v hKe hQ ⟨_, X', rfl, fun y hy => (List.mem_append.mp hy).elim (N y) fun z => (hN y z).elim (fun u => hq _ u) fun u => Or.inr (Nat.le_trans K.1 u), K.trans hKe hq⟩)
theorem ow_nf {y : MethodName} {D : String} (hw : ∀ d ∈ tw, d.before a0 Z = true) (w6 : Jvm.Cond.selects D y y ∈ tw) : ∀ s : State, ∀ args : Array Value, Z.Warmed39 s.vm → NotFace s y := fun s args hZ => notFace_of_selects (args := args) (mvT hZ (hw _ w6))
/-- an array by what each place holds -/
def Arf (Z : State) (h : Heap) (a : Addr) (kk : ClassId) (ty : FieldType) (n : Int32) (f : Nat → Value) : Prop := ∃ c : Cell, Arr Z h a c ty ∧ c.cls = kk ∧ c.slots.size = n.toNatClampNeg ∧ ¬ n < 0 ∧ (∀ i, i < c.slots.size → c.slots[i]? = some (f i)) ∧ ∀ i, i < c.slots.size → fits ty (f i) = true
section Arf
variable {a b : Addr} {kk : ClassId} {ty : FieldType} {n : Int32} {f f' : Nat → Value} {vs : List Value} {dv v : Value} {sl : Nat} {ws1 : List Addr}
theorem Arf.lt (F : Arf Z h a kk ty n f) : a < h.size := by obtain ⟨c, A, -⟩ := F; exact A.lt
theorem Arf.ext (F : Arf Z h a kk ty n f) (E : Ext h h') : Arf Z h' a kk ty n f := by obtain ⟨c, A, r⟩ := F; exact ⟨c, A.ext E, r⟩
theorem Arf.other (F : Arf Z h b kk ty n f) (W : Wr h h' a sl v) (q : b ≠ a) : Arf Z h' b kk ty n f := by obtain ⟨c, A, r⟩ := F; exact ⟨c, A.other W q, r⟩
theorem Arf.keep (F : Arf Z h a kk ty n f) (K : Keep h h' ws1) (q : a ∉ ws1) : Arf Z h' a kk ty n f := by obtain ⟨c, A, r⟩ := F; exact ⟨c, ⟨K.2.1 a c A.1 q, A.2⟩, r⟩
theorem Arf.of (F : Arv Z h a kk ty n vs dv) : Arf Z h a kk ty n (fun i => vs.getD i dv) := F
theorem Arf.re (F : Arf Z h a kk ty n f) (q : ∀ i, i < n.toNatClampNeg → f' i = f i) : Arf Z h a kk ty n f' := by
  obtain ⟨c, A, r1, r2, r3, H, G⟩ := F
  exact ⟨c, A, r1, r2, r3, fun i hi => by rw [q i (r2 ▸ hi)]; exact H i hi, fun i hi => by rw [q i (r2 ▸ hi)]; exact G i hi⟩
theorem Arf.arv (F : Arf Z h a kk ty n f) (q : ∀ i, i < n.toNatClampNeg → f i = vs.getD i dv) : Arv Z h a kk ty n vs dv := by
  have F' := F.re (f' := fun i => vs.getD i dv) (fun i hi => (q i hi).symm); exact F'
theorem Arf.set {c1 : Cell} {j : Int32} (A : Arr Z h a c1 ty) (q1 : c1.cls = kk) (S1 : c1.slots.size = n.toNatClampNeg) (q3 : ¬ n < 0) (H : ∀ i, i < c1.slots.size → c1.slots[i]? = some (f i)) (G : ∀ i, i < c1.slots.size → fits ty (f i) = true) (hv : fits ty v = true) (W : Wr h h' a j.toNatClampNeg v) : Arf Z h' a kk ty n (fun i => if i = j.toNatClampNeg then v else f i) := by
  refine ⟨_, A.same W, q1, by rw [sz_set]; exact S1, q3, fun x hx => ?_, fun x hx => ?_⟩
  · rw [sz_set] at hx
    by_cases u : x = j.toNatClampNeg
    · subst u; simp [Cell.setSlot, hx]
    · simp only [u, if_false, Cell.setSlot]; rw [Array.getElem?_setIfInBounds_ne (Ne.symm u)]; exact H x hx
  · rw [sz_set] at hx
    show fits ty (if x = j.toNatClampNeg then v else f x) = true
    by_cases u : x = j.toNatClampNeg
    · rw [if_pos u]; exact hv
    · rw [if_neg u]; exact G x hx
end Arf
theorem ow_alenF (C : OwnCtx p s m meth c Z a0 tw y0 bytes ml ret) (A : OwnPos p l e R s m args below meth c h0 ws T h ck sk) {a : Addr} {kk : ClassId} {ty : FieldType} {n : Int32} {f : Nat → Value} (V : Arf Z h a kk ty n f) (hd : decode bytes pc = .ok (.arraylength, 1)) (hp : pc + 1 = pc') (k : OwnWP p e below s h0 ws Q CK SK T (mkF m pc' Ls (.int n :: S))) : OwnWP p e below s h0 ws Q CK SK T (mkF m pc Ls (.ref a :: S)) := by
  obtain ⟨locs, X, rfl, -⟩ := A; subst hp
  obtain ⟨cl, Ar, -, S1, N1, -, -⟩ := V
  refine ow_st (fun t k => X.arraylength C.1 Ar.1 (State.isArrayOf_alike C.2.1.alike Ar.2.1) (g := mkF m pc Ls (.ref a :: S)) rfl rfl (hb C.2.2.2.1 hd) t k) ?_
  rw [len_of S1 N1]; exact k
theorem ow_ialoadF (C : OwnCtx p s m meth c Z a0 tw y0 bytes ml ret) (A : OwnPos p l e R s m args below meth c h0 ws T h ck sk) {a : Addr} {kk : ClassId} {n j : Int32} {f : Nat → Value} {v : Value} (V : Arf Z h a kk .int n f) (hj : ¬ j < 0 ∧ j < n) (hv : f j.toNatClampNeg = v) (hd : decode bytes pc = .ok (.iaload, 1)) (hp : pc + 1 = pc') (k : OwnWP p e below s h0 ws Q CK SK T (mkF m pc' Ls (v :: S))) : OwnWP p e below s h0 ws Q CK SK T (mkF m pc Ls (.int j :: .ref a :: S)) := by
  obtain ⟨locs, X, rfl, -⟩ := A; subst hp
  obtain ⟨cl, Ar, -, S1, N1, H1, -⟩ := V
  have hin := inb_of S1 hj
  exact ow_st (fun t k => X.iaload C.1 (j := j) (v := v) Ar.1 (State.isArrayOf_alike C.2.1.alike Ar.2.1) Ar.2.2 hin (hv ▸ H1 _ (Nat.lt_of_not_le fun y => hin (Or.inr y))) (g := mkF m pc Ls (.int j :: .ref a :: S)) rfl rfl (hb C.2.2.2.1 hd) t k) k
theorem ow_laloadF (C : OwnCtx p s m meth c Z a0 tw y0 bytes ml ret) (A : OwnPos p l e R s m args below meth c h0 ws T h ck sk) {a : Addr} {kk : ClassId} {n j : Int32} {f : Nat → Value} {v : Value} (V : Arf Z h a kk .long n f) (hj : ¬ j < 0 ∧ j < n) (hv : f j.toNatClampNeg = v) (hd : decode bytes pc = .ok (.laload, 1)) (hp : pc + 1 = pc') (k : OwnWP p e below s h0 ws Q CK SK T (mkF m pc' Ls (v :: S))) : OwnWP p e below s h0 ws Q CK SK T (mkF m pc Ls (.int j :: .ref a :: S)) := by
  obtain ⟨locs, X, rfl, -⟩ := A; subst hp
  obtain ⟨cl, Ar, -, S1, N1, H1, -⟩ := V
  have hin := inb_of S1 hj
  exact ow_st (fun t k => X.laload C.1 (j := j) (v := v) Ar.1 (State.isArrayOf_alike C.2.1.alike Ar.2.1) Ar.2.2 hin (hv ▸ H1 _ (Nat.lt_of_not_le fun y => hin (Or.inr y))) (g := mkF m pc Ls (.int j :: .ref a :: S)) rfl rfl (hb C.2.2.2.1 hd) t k) k
theorem ow_baloadF (C : OwnCtx p s m meth c Z a0 tw y0 bytes ml ret) (A : OwnPos p l e R s m args below meth c h0 ws T h ck sk) {a : Addr} {kk : ClassId} {n j : Int32} {f : Nat → Value} {v : Value} (V : Arf Z h a kk .byte n f) (hj : ¬ j < 0 ∧ j < n) (hv : f j.toNatClampNeg = v) (hd : decode bytes pc = .ok (.baload, 1)) (hp : pc + 1 = pc') (k : OwnWP p e below s h0 ws Q CK SK T (mkF m pc' Ls (v :: S))) : OwnWP p e below s h0 ws Q CK SK T (mkF m pc Ls (.int j :: .ref a :: S)) := by
  obtain ⟨locs, X, rfl, -⟩ := A; subst hp
  obtain ⟨cl, Ar, -, S1, N1, H1, -⟩ := V
  have hin := inb_of S1 hj
  exact ow_st (fun t k => X.baloadBytes C.1 (j := j) (v := v) Ar.1 (State.isArrayOf_alike C.2.1.alike Ar.2.1) Ar.2.2 hin (hv ▸ H1 _ (Nat.lt_of_not_le fun y => hin (Or.inr y))) (g := mkF m pc Ls (.int j :: .ref a :: S)) rfl rfl (hb C.2.2.2.1 hd) t k) k
theorem ow_iastoreF (C : OwnCtx p s m meth c Z a0 tw y0 bytes ml ret) (A : OwnPos p l e R s m args below meth c h0 ws T h ck sk) {a : Addr} {kk : ClassId} {n j : Int32} {x : Int32} {f : Nat → Value} (V : Arf Z h a kk .int n f) (hj : ¬ j < 0 ∧ j < n) (q : a ∈ ws ∨ h0.size ≤ a) (hd : decode bytes pc = .ok (.iastore, 1)) (hp : pc + 1 = pc')
    (k : ∀ T' h', Wr h h' a j.toNatClampNeg (.int x) → Arf Z h' a kk .int n (fun i => if i = j.toNatClampNeg then (.int x) else f i) → OwnPos p l e R s m args below meth c h0 ws T' h' ck sk → OwnWP p e below s h0 ws Q CK SK T' (mkF m pc' Ls S)) : OwnWP p e below s h0 ws Q CK SK T (mkF m pc Ls (.int x :: .int j :: .ref a :: S)) := by
  obtain ⟨locs, X, e1, N, K⟩ := A; subst hp
  obtain ⟨cl, Ar, q1, S1, N1, H1, G1⟩ := V
  have hin := inb_of S1 hj
  obtain ⟨T', h', X', e', W', st⟩ := stI X C.1 C.2.1 e1 Ar (j := j) hin (g := mkF m pc Ls (.int x :: .int j :: .ref a :: S)) rfl rfl (hb C.2.2.2.1 hd)
  exact ow_st st (k T' h' W' (Arf.set Ar q1 S1 N1 H1 G1 rfl W') ⟨_, X', e', fun y hy => (List.mem_append.mp hy).elim (N y) fun z => by cases List.mem_singleton.mp z; exact q, K.wr W' q⟩)
theorem ow_lastoreF (C : OwnCtx p s m meth c Z a0 tw y0 bytes ml ret) (A : OwnPos p l e R s m args below meth c h0 ws T h ck sk) {a : Addr} {kk : ClassId} {n j : Int32} {x : Int64} {f : Nat → Value} (V : Arf Z h a kk .long n f) (hj : ¬ j < 0 ∧ j < n) (q : a ∈ ws ∨ h0.size ≤ a) (hd : decode bytes pc = .ok (.lastore, 1)) (hp : pc + 1 = pc')
    (k : ∀ T' h', Wr h h' a j.toNatClampNeg (.long x) → Arf Z h' a kk .long n (fun i => if i = j.toNatClampNeg then (.long x) else f i) → OwnPos p l e R s m args below meth c h0 ws T' h' ck sk → OwnWP p e below s h0 ws Q CK SK T' (mkF m pc' Ls S)) : OwnWP p e below s h0 ws Q CK SK T (mkF m pc Ls (.long x :: .int j :: .ref a :: S)) := by
  obtain ⟨locs, X, e1, N, K⟩ := A; subst hp
  obtain ⟨cl, Ar, q1, S1, N1, H1, G1⟩ := V
  have hin := inb_of S1 hj
  obtain ⟨T', h', X', e', W', st⟩ := stJ X C.1 C.2.1 e1 Ar (j := j) hin (g := mkF m pc Ls (.long x :: .int j :: .ref a :: S)) rfl rfl (hb C.2.2.2.1 hd)
  exact ow_st st (k T' h' W' (Arf.set Ar q1 S1 N1 H1 G1 rfl W') ⟨_, X', e', fun y hy => (List.mem_append.mp hy).elim (N y) fun z => by cases List.mem_singleton.mp z; exact q, K.wr W' q⟩)
theorem ow_bastoreF (C : OwnCtx p s m meth c Z a0 tw y0 bytes ml ret) (A : OwnPos p l e R s m args below meth c h0 ws T h ck sk) {a : Addr} {kk : ClassId} {n j : Int32} {x : Int32} {f : Nat → Value} (V : Arf Z h a kk .byte n f) (hj : ¬ j < 0 ∧ j < n) (q : a ∈ ws ∨ h0.size ≤ a) (hd : decode bytes pc = .ok (.bastore, 1)) (hp : pc + 1 = pc')
    (k : ∀ T' h', Wr h h' a j.toNatClampNeg (.int x.toInt8.toInt32) → Arf Z h' a kk .byte n (fun i => if i = j.toNatClampNeg then (.int x.toInt8.toInt32) else f i) → OwnPos p l e R s m args below meth c h0 ws T' h' ck sk → OwnWP p e below s h0 ws Q CK SK T' (mkF m pc' Ls S)) : OwnWP p e below s h0 ws Q CK SK T (mkF m pc Ls (.int x :: .int j :: .ref a :: S)) := by
  obtain ⟨locs, X, e1, N, K⟩ := A; subst hp
  obtain ⟨cl, Ar, q1, S1, N1, H1, G1⟩ := V
  have hin := inb_of S1 hj
  obtain ⟨T', h', X', e', W', st⟩ := stB X C.1 C.2.1 e1 Ar (j := j) hin (g := mkF m pc Ls (.int x :: .int j :: .ref a :: S)) rfl rfl (hb C.2.2.2.1 hd)
  exact ow_st st (k T' h' W' (Arf.set Ar q1 S1 N1 H1 G1 (fits_nar_byte _) W') ⟨_, X', e', fun y hy => (List.mem_append.mp hy).elim (N y) fun z => by cases List.mem_singleton.mp z; exact q, K.wr W' q⟩)
end Own
end Jvm.RoadKit
namespace Jvm.Pilot.@@N@@
open Jvm Jvm.ClassFile Sem Op Lib Jvm.Free Jvm.Stand Jvm.LawKit Jvm.RoadKit Bundle Jvm.Pilot.@@N@@.Jvm.D
theorem tw_0 : (Jvm.Cond.arrayClass Jvm.ClassFile.FieldType.long) ∈ tables_1 := List.mem_of_getElem? (i := 0) rfl
theorem tw_1 : (Jvm.Cond.classLink "com/example/ratebook/ratebook/journal/RecentKeysPairsFromPinLaw" (7 : Nat) "com/example/ratebook/ratebook/journal/RecentKeys") ∈ tables_1 := List.mem_of_getElem? (i := 1) rfl
theorem tw_2 : (Jvm.Cond.instantiable "com/example/ratebook/ratebook/journal/RecentKeys" (4 : Nat)) ∈ tables_1 := List.mem_of_getElem? (i := 2) rfl
theorem tw_3 : (Jvm.Cond.initialized "com/example/ratebook/ratebook/journal/RecentKeys") ∈ tables_1 := List.mem_of_getElem? (i := 3) rfl
theorem tw_4 : (Jvm.Cond.methodLink "com/example/ratebook/ratebook/journal/RecentKeysPairsFromPinLaw" (9 : Nat) ({ cls := "com/example/ratebook/ratebook/journal/RecentKeys", name := "<init>", desc := "()V" } : Jvm.MethodName)) ∈ tables_1 := List.mem_of_getElem? (i := 4) rfl
theorem tw_5 : (Jvm.Cond.instanceMethod ({ cls := "com/example/ratebook/ratebook/journal/RecentKeys", name := "<init>", desc := "()V" } : Jvm.MethodName)) ∈ tables_1 := List.mem_of_getElem? (i := 5) rfl
theorem tw_6 : (Jvm.Cond.code ({ cls := "com/example/ratebook/ratebook/journal/RecentKeys", name := "<init>", desc := "()V" } : Jvm.MethodName) prog_11_method_1_code (1 : Nat) (Option.none : Option Jvm.ClassFile.FieldType)) ∈ tables_1 := List.mem_of_getElem? (i := 6) rfl
theorem tw_7 : (Jvm.Cond.methodLink "com/example/ratebook/ratebook/journal/RecentKeys" (1 : Nat) ({ cls := "java/lang/Object", name := "<init>", desc := "()V" } : Jvm.MethodName)) ∈ tables_1 := List.mem_of_getElem? (i := 7) rfl
theorem tw_8 : (Jvm.Cond.instanceMethod ({ cls := "java/lang/Object", name := "<init>", desc := "()V" } : Jvm.MethodName)) ∈ tables_1 := List.mem_of_getElem? (i := 8) rfl
theorem tw_9 : (Jvm.Cond.code ({ cls := "java/lang/Object", name := "<init>", desc := "()V" } : Jvm.MethodName) object_method_1_code (1 : Nat) (Option.none : Option Jvm.ClassFile.FieldType)) ∈ tables_1 := List.mem_of_getElem? (i := 9) rfl
theorem tw_10 : (Jvm.Cond.fieldLink "com/example/ratebook/ratebook/journal/RecentKeys" (9 : Nat) "com/example/ratebook/ratebook/journal/RecentKeys" "keys" "[J") ∈ tables_1 := List.mem_of_getElem? (i := 10) rfl
theorem tw_11 : (Jvm.Cond.lays "com/example/ratebook/ratebook/journal/RecentKeys" "com/example/ratebook/ratebook/journal/RecentKeys" "keys" "[J") ∈ tables_1 := List.mem_of_getElem? (i := 11) rfl
theorem tw_12 : (Jvm.Cond.fieldLink "com/example/ratebook/ratebook/journal/RecentKeys" (13 : Nat) "com/example/ratebook/ratebook/journal/RecentKeys" "numbers" "[J") ∈ tables_1 := List.mem_of_getElem? (i := 12) rfl
theorem tw_13 : (Jvm.Cond.lays "com/example/ratebook/ratebook/journal/RecentKeys" "com/example/ratebook/ratebook/journal/RecentKeys" "numbers" "[J") ∈ tables_1 := List.mem_of_getElem? (i := 13) rfl
theorem tw_14 : (Jvm.Cond.arrayClass Jvm.ClassFile.FieldType.int) ∈ tables_1 := List.mem_of_getElem? (i := 14) rfl
theorem tw_15 : (Jvm.Cond.fieldLink "com/example/ratebook/ratebook/journal/RecentKeys" (16 : Nat) "com/example/ratebook/ratebook/journal/RecentKeys" "slots" "[I") ∈ tables_1 := List.mem_of_getElem? (i := 15) rfl
theorem tw_16 : (Jvm.Cond.lays "com/example/ratebook/ratebook/journal/RecentKeys" "com/example/ratebook/ratebook/journal/RecentKeys" "slots" "[I") ∈ tables_1 := List.mem_of_getElem? (i := 16) rfl
theorem tw_17 : (Jvm.Cond.methodLink "com/example/ratebook/ratebook/journal/RecentKeysPairsFromPinLaw" (10 : Nat) ({ cls := "com/example/ratebook/ratebook/journal/RecentKeys", name := "add", desc := "(JJ)V" } : Jvm.MethodName)) ∈ tables_1 := List.mem_of_getElem? (i := 17) rfl
theorem tw_18 : (Jvm.Cond.declares ({ cls := "com/example/ratebook/ratebook/journal/RecentKeys", name := "add", desc := "(JJ)V" } : Jvm.MethodName)) ∈ tables_1 := List.mem_of_getElem? (i := 18) rfl
theorem tw_19 : (Jvm.Cond.instanceMethod ({ cls := "com/example/ratebook/ratebook/journal/RecentKeys", name := "add", desc := "(JJ)V" } : Jvm.MethodName)) ∈ tables_1 := List.mem_of_getElem? (i := 19) rfl
theorem tw_20 : (Jvm.Cond.selects "com/example/ratebook/ratebook/journal/RecentKeys" ({ cls := "com/example/ratebook/ratebook/journal/RecentKeys", name := "add", desc := "(JJ)V" } : Jvm.MethodName) ({ cls := "com/example/ratebook/ratebook/journal/RecentKeys", name := "add", desc := "(JJ)V" } : Jvm.MethodName)) ∈ tables_1 := List.mem_of_getElem? (i := 20) rfl
theorem tw_21 : (Jvm.Cond.code ({ cls := "com/example/ratebook/ratebook/journal/RecentKeys", name := "add", desc := "(JJ)V" } : Jvm.MethodName) prog_11_method_4_code (6 : Nat) (Option.none : Option Jvm.ClassFile.FieldType)) ∈ tables_1 := List.mem_of_getElem? (i := 21) rfl
theorem tw_22 : (Jvm.Cond.methodLink "com/example/ratebook/ratebook/journal/RecentKeys" (30 : Nat) ({ cls := "com/example/ratebook/ratebook/journal/RecentKeys", name := "number", desc := "(J)J" } : Jvm.MethodName)) ∈ tables_1 := List.mem_of_getElem? (i := 22) rfl
theorem tw_23 : (Jvm.Cond.declares ({ cls := "com/example/ratebook/ratebook/journal/RecentKeys", name := "number", desc := "(J)J" } : Jvm.MethodName)) ∈ tables_1 := List.mem_of_getElem? (i := 23) rfl
theorem tw_24 : (Jvm.Cond.instanceMethod ({ cls := "com/example/ratebook/ratebook/journal/RecentKeys", name := "number", desc := "(J)J" } : Jvm.MethodName)) ∈ tables_1 := List.mem_of_getElem? (i := 24) rfl
theorem tw_25 : (Jvm.Cond.selects "com/example/ratebook/ratebook/journal/RecentKeys" ({ cls := "com/example/ratebook/ratebook/journal/RecentKeys", name := "number", desc := "(J)J" } : Jvm.MethodName) ({ cls := "com/example/ratebook/ratebook/journal/RecentKeys", name := "number", desc := "(J)J" } : Jvm.MethodName)) ∈ tables_1 := List.mem_of_getElem? (i := 25) rfl
theorem tw_26 : (Jvm.Cond.code ({ cls := "com/example/ratebook/ratebook/journal/RecentKeys", name := "number", desc := "(J)J" } : Jvm.MethodName) prog_11_method_3_code (6 : Nat) (Option.some Jvm.ClassFile.FieldType.long)) ∈ tables_1 := List.mem_of_getElem? (i := 26) rfl
theorem tw_27 : (Jvm.Cond.methodLink "com/example/ratebook/ratebook/journal/RecentKeys" (24 : Nat) ({ cls := "com/example/ratebook/ratebook/journal/RecentKeys", name := "slotOf", desc := "(JI)I" } : Jvm.MethodName)) ∈ tables_1 := List.mem_of_getElem? (i := 27) rfl
theorem tw_28 : (Jvm.Cond.static ({ cls := "com/example/ratebook/ratebook/journal/RecentKeys", name := "slotOf", desc := "(JI)I" } : Jvm.MethodName)) ∈ tables_1 := List.mem_of_getElem? (i := 28) rfl
theorem tw_29 : (Jvm.Cond.code ({ cls := "com/example/ratebook/ratebook/journal/RecentKeys", name := "slotOf", desc := "(JI)I" } : Jvm.MethodName) prog_11_method_8_code (3 : Nat) (Option.some Jvm.ClassFile.FieldType.int)) ∈ tables_1 := List.mem_of_getElem? (i := 29) rfl
theorem tw_30 : (Jvm.Cond.constantLong "com/example/ratebook/ratebook/journal/RecentKeys" (57 : Nat) (-7046029254386353131 : Int64)) ∈ tables_1 := List.mem_of_getElem? (i := 30) rfl
theorem tw_31 : (Jvm.Cond.constantLong "com/example/ratebook/ratebook/journal/RecentKeys" (28 : Nat) (-1 : Int64)) ∈ tables_1 := List.mem_of_getElem? (i := 31) rfl
theorem tw_32 : (Jvm.Cond.fieldLink "com/example/ratebook/ratebook/journal/RecentKeys" (20 : Nat) "com/example/ratebook/ratebook/journal/RecentKeys" "size" "I") ∈ tables_1 := List.mem_of_getElem? (i := 32) rfl
theorem tw_33 : (Jvm.Cond.lays "com/example/ratebook/ratebook/journal/RecentKeys" "com/example/ratebook/ratebook/journal/RecentKeys" "size" "I") ∈ tables_1 := List.mem_of_getElem? (i := 33) rfl
theorem tw_34 : (Jvm.Cond.methodLink "com/example/ratebook/ratebook/journal/RecentKeys" (49 : Nat) ({ cls := "com/example/ratebook/ratebook/journal/RecentKeys", name := "place", desc := "(I)V" } : Jvm.MethodName)) ∈ tables_1 := List.mem_of_getElem? (i := 34) rfl
theorem tw_35 : (Jvm.Cond.instanceMethod ({ cls := "com/example/ratebook/ratebook/journal/RecentKeys", name := "place", desc := "(I)V" } : Jvm.MethodName)) ∈ tables_1 := List.mem_of_getElem? (i := 35) rfl
theorem tw_36 : (Jvm.Cond.privateMethod ({ cls := "com/example/ratebook/ratebook/journal/RecentKeys", name := "place", desc := "(I)V" } : Jvm.MethodName)) ∈ tables_1 := List.mem_of_getElem? (i := 36) rfl
theorem tw_37 : (Jvm.Cond.code ({ cls := "com/example/ratebook/ratebook/journal/RecentKeys", name := "place", desc := "(I)V" } : Jvm.MethodName) prog_11_method_7_code (4 : Nat) (Option.none : Option Jvm.ClassFile.FieldType)) ∈ tables_1 := List.mem_of_getElem? (i := 37) rfl
theorem tw_38 : (Jvm.Cond.methodLink "com/example/ratebook/ratebook/journal/RecentKeysPairsFromPinLaw" (14 : Nat) ({ cls := "com/example/ratebook/ratebook/journal/RecentKeys", name := "pairsFrom", desc := "(I)[J" } : Jvm.MethodName)) ∈ tables_1 := List.mem_of_getElem? (i := 38) rfl
theorem tw_39 : (Jvm.Cond.declares ({ cls := "com/example/ratebook/ratebook/journal/RecentKeys", name := "pairsFrom", desc := "(I)[J" } : Jvm.MethodName)) ∈ tables_1 := List.mem_of_getElem? (i := 39) rfl
theorem tw_40 : (Jvm.Cond.instanceMethod ({ cls := "com/example/ratebook/ratebook/journal/RecentKeys", name := "pairsFrom", desc := "(I)[J" } : Jvm.MethodName)) ∈ tables_1 := List.mem_of_getElem? (i := 40) rfl
theorem tw_41 : (Jvm.Cond.selects "com/example/ratebook/ratebook/journal/RecentKeys" ({ cls := "com/example/ratebook/ratebook/journal/RecentKeys", name := "pairsFrom", desc := "(I)[J" } : Jvm.MethodName) ({ cls := "com/example/ratebook/ratebook/journal/RecentKeys", name := "pairsFrom", desc := "(I)[J" } : Jvm.MethodName)) ∈ tables_1 := List.mem_of_getElem? (i := 41) rfl
theorem tw_42 : (Jvm.Cond.code ({ cls := "com/example/ratebook/ratebook/journal/RecentKeys", name := "pairsFrom", desc := "(I)[J" } : Jvm.MethodName) prog_11_method_5_code (4 : Nat) (Option.some (Jvm.ClassFile.FieldType.array Jvm.ClassFile.FieldType.long))) ∈ tables_1 := List.mem_of_getElem? (i := 42) rfl
theorem tw_43 : (Jvm.Cond.methodLink "com/example/ratebook/ratebook/journal/RecentKeysPairsFromPinLaw" (18 : Nat) ({ cls := "com/example/ratebook/ratebook/journal/RecentKeysPairsFromPinLaw", name := "at", desc := "([J[J[JIII)Z" } : Jvm.MethodName)) ∈ tables_1 := List.mem_of_getElem? (i := 43) rfl
theorem tw_44 : (Jvm.Cond.static ({ cls := "com/example/ratebook/ratebook/journal/RecentKeysPairsFromPinLaw", name := "at", desc := "([J[J[JIII)Z" } : Jvm.MethodName)) ∈ tables_1 := List.mem_of_getElem? (i := 44) rfl
theorem tw_45 : (Jvm.Cond.initialized "com/example/ratebook/ratebook/journal/RecentKeysPairsFromPinLaw") ∈ tables_1 := List.mem_of_getElem? (i := 45) rfl
theorem tw_46 : (Jvm.Cond.code ({ cls := "com/example/ratebook/ratebook/journal/RecentKeysPairsFromPinLaw", name := "at", desc := "([J[J[JIII)Z" } : Jvm.MethodName) method_3_code (7 : Nat) (Option.some Jvm.ClassFile.FieldType.boolean)) ∈ tables_1 := List.mem_of_getElem? (i := 46) rfl
theorem tw_47 : (Jvm.Cond.methodLink "com/example/ratebook/ratebook/journal/RecentKeysPairsFromPinLaw" (24 : Nat) ({ cls := "com/example/ratebook/ratebook/journal/RecentKeys", name := "size", desc := "()I" } : Jvm.MethodName)) ∈ tables_1 := List.mem_of_getElem? (i := 47) rfl
theorem tw_48 : (Jvm.Cond.declares ({ cls := "com/example/ratebook/ratebook/journal/RecentKeys", name := "size", desc := "()I" } : Jvm.MethodName)) ∈ tables_1 := List.mem_of_getElem? (i := 48) rfl
theorem tw_49 : (Jvm.Cond.instanceMethod ({ cls := "com/example/ratebook/ratebook/journal/RecentKeys", name := "size", desc := "()I" } : Jvm.MethodName)) ∈ tables_1 := List.mem_of_getElem? (i := 49) rfl
theorem tw_50 : (Jvm.Cond.selects "com/example/ratebook/ratebook/journal/RecentKeys" ({ cls := "com/example/ratebook/ratebook/journal/RecentKeys", name := "size", desc := "()I" } : Jvm.MethodName) ({ cls := "com/example/ratebook/ratebook/journal/RecentKeys", name := "size", desc := "()I" } : Jvm.MethodName)) ∈ tables_1 := List.mem_of_getElem? (i := 50) rfl
theorem tw_51 : (Jvm.Cond.code ({ cls := "com/example/ratebook/ratebook/journal/RecentKeys", name := "size", desc := "()I" } : Jvm.MethodName) prog_11_method_2_code (1 : Nat) (Option.some Jvm.ClassFile.FieldType.int)) ∈ tables_1 := List.mem_of_getElem? (i := 51) rfl
theorem sn_0 {Z : State} {a0 : Array Value} (hw : ∀ d ∈ tables_1, d.before a0 Z = true) : Jvm.RoadKit.slotOf Z "com/example/ratebook/ratebook/journal/RecentKeys" "numbers" "[J" ≠ Jvm.RoadKit.slotOf Z "com/example/ratebook/ratebook/journal/RecentKeys" "keys" "[J" := Jvm.RoadKit.slot_ne (Or.inl (hw _ tw_13)) (Or.inl (hw _ tw_11)) (by decide) (t := (.array .long)) (t' := (.array .long)) (by decide) (by decide)
theorem sn_1 {Z : State} {a0 : Array Value} (hw : ∀ d ∈ tables_1, d.before a0 Z = true) : Jvm.RoadKit.slotOf Z "com/example/ratebook/ratebook/journal/RecentKeys" "slots" "[I" ≠ Jvm.RoadKit.slotOf Z "com/example/ratebook/ratebook/journal/RecentKeys" "keys" "[J" := Jvm.RoadKit.slot_ne (Or.inl (hw _ tw_16)) (Or.inl (hw _ tw_11)) (by decide) (t := (.array .int)) (t' := (.array .long)) (by decide) (by decide)
theorem sn_2 {Z : State} {a0 : Array Value} (hw : ∀ d ∈ tables_1, d.before a0 Z = true) : Jvm.RoadKit.slotOf Z "com/example/ratebook/ratebook/journal/RecentKeys" "slots" "[I" ≠ Jvm.RoadKit.slotOf Z "com/example/ratebook/ratebook/journal/RecentKeys" "numbers" "[J" := Jvm.RoadKit.slot_ne (Or.inl (hw _ tw_16)) (Or.inl (hw _ tw_13)) (by decide) (t := (.array .int)) (t' := (.array .long)) (by decide) (by decide)
theorem sn_3 {Z : State} {a0 : Array Value} (hw : ∀ d ∈ tables_1, d.before a0 Z = true) : Jvm.RoadKit.slotOf Z "com/example/ratebook/ratebook/journal/RecentKeys" "keys" "[J" ≠ Jvm.RoadKit.slotOf Z "com/example/ratebook/ratebook/journal/RecentKeys" "numbers" "[J" := Jvm.RoadKit.slot_ne (Or.inl (hw _ tw_11)) (Or.inl (hw _ tw_13)) (by decide) (t := (.array .long)) (t' := (.array .long)) (by decide) (by decide)
theorem sn_4 {Z : State} {a0 : Array Value} (hw : ∀ d ∈ tables_1, d.before a0 Z = true) : Jvm.RoadKit.slotOf Z "com/example/ratebook/ratebook/journal/RecentKeys" "keys" "[J" ≠ Jvm.RoadKit.slotOf Z "com/example/ratebook/ratebook/journal/RecentKeys" "slots" "[I" := Jvm.RoadKit.slot_ne (Or.inl (hw _ tw_11)) (Or.inl (hw _ tw_16)) (by decide) (t := (.array .long)) (t' := (.array .int)) (by decide) (by decide)
theorem sn_5 {Z : State} {a0 : Array Value} (hw : ∀ d ∈ tables_1, d.before a0 Z = true) : Jvm.RoadKit.slotOf Z "com/example/ratebook/ratebook/journal/RecentKeys" "numbers" "[J" ≠ Jvm.RoadKit.slotOf Z "com/example/ratebook/ratebook/journal/RecentKeys" "slots" "[I" := Jvm.RoadKit.slot_ne (Or.inl (hw _ tw_13)) (Or.inl (hw _ tw_16)) (by decide) (t := (.array .long)) (t' := (.array .int)) (by decide) (by decide)
theorem sn_6 {Z : State} {a0 : Array Value} (hw : ∀ d ∈ tables_1, d.before a0 Z = true) : Jvm.RoadKit.slotOf Z "com/example/ratebook/ratebook/journal/RecentKeys" "size" "I" ≠ Jvm.RoadKit.slotOf Z "com/example/ratebook/ratebook/journal/RecentKeys" "keys" "[J" := Jvm.RoadKit.slot_ne (Or.inl (hw _ tw_33)) (Or.inl (hw _ tw_11)) (by decide) (t := .int) (t' := (.array .long)) (by decide) (by decide)
theorem sn_7 {Z : State} {a0 : Array Value} (hw : ∀ d ∈ tables_1, d.before a0 Z = true) : Jvm.RoadKit.slotOf Z "com/example/ratebook/ratebook/journal/RecentKeys" "size" "I" ≠ Jvm.RoadKit.slotOf Z "com/example/ratebook/ratebook/journal/RecentKeys" "numbers" "[J" := Jvm.RoadKit.slot_ne (Or.inl (hw _ tw_33)) (Or.inl (hw _ tw_13)) (by decide) (t := .int) (t' := (.array .long)) (by decide) (by decide)
theorem sn_8 {Z : State} {a0 : Array Value} (hw : ∀ d ∈ tables_1, d.before a0 Z = true) : Jvm.RoadKit.slotOf Z "com/example/ratebook/ratebook/journal/RecentKeys" "size" "I" ≠ Jvm.RoadKit.slotOf Z "com/example/ratebook/ratebook/journal/RecentKeys" "slots" "[I" := Jvm.RoadKit.slot_ne (Or.inl (hw _ tw_33)) (Or.inl (hw _ tw_16)) (by decide) (t := .int) (t' := (.array .int)) (by decide) (by decide)
theorem sn_9 {Z : State} {a0 : Array Value} (hw : ∀ d ∈ tables_1, d.before a0 Z = true) : Jvm.RoadKit.slotOf Z "com/example/ratebook/ratebook/journal/RecentKeys" "keys" "[J" ≠ Jvm.RoadKit.slotOf Z "com/example/ratebook/ratebook/journal/RecentKeys" "size" "I" := Jvm.RoadKit.slot_ne (Or.inl (hw _ tw_11)) (Or.inl (hw _ tw_33)) (by decide) (t := (.array .long)) (t' := .int) (by decide) (by decide)
theorem sn_10 {Z : State} {a0 : Array Value} (hw : ∀ d ∈ tables_1, d.before a0 Z = true) : Jvm.RoadKit.slotOf Z "com/example/ratebook/ratebook/journal/RecentKeys" "numbers" "[J" ≠ Jvm.RoadKit.slotOf Z "com/example/ratebook/ratebook/journal/RecentKeys" "size" "I" := Jvm.RoadKit.slot_ne (Or.inl (hw _ tw_13)) (Or.inl (hw _ tw_33)) (by decide) (t := (.array .long)) (t' := .int) (by decide) (by decide)
theorem sn_11 {Z : State} {a0 : Array Value} (hw : ∀ d ∈ tables_1, d.before a0 Z = true) : Jvm.RoadKit.slotOf Z "com/example/ratebook/ratebook/journal/RecentKeys" "slots" "[I" ≠ Jvm.RoadKit.slotOf Z "com/example/ratebook/ratebook/journal/RecentKeys" "size" "I" := Jvm.RoadKit.slot_ne (Or.inl (hw _ tw_16)) (Or.inl (hw _ tw_33)) (by decide) (t := (.array .int)) (t' := .int) (by decide) (by decide)
theorem pd_0 : parseMethodDescriptor "(JI)I" = some ⟨[.long, .int], some .int⟩ := by decide +kernel
theorem pd_1 : parseMethodDescriptor "(J)J" = some ⟨[.long], some .long⟩ := by decide +kernel
theorem pd_2 : parseMethodDescriptor "(I)V" = some ⟨[.int], none⟩ := by decide +kernel
theorem pd_3 : parseMethodDescriptor "()V" = some ⟨[], none⟩ := by decide +kernel
theorem pd_4 : parseMethodDescriptor "(I)[J" = some ⟨[.int], some (.array .long)⟩ := by decide +kernel
theorem pd_5 : parseMethodDescriptor "([J[J[JIII)Z" = some ⟨[(.array .long), (.array .long), (.array .long), .int, .int, .int], some .boolean⟩ := by decide +kernel
theorem pd_6 : parseMethodDescriptor "()I" = some ⟨[], some .int⟩ := by decide +kernel
theorem pd_7 : parseMethodDescriptor "(JJ)V" = some ⟨[.long, .long], none⟩ := by decide +kernel
theorem d1_0 : decode prog_11_method_1_code 0 = .ok (.aload_n 0, 1) := by decide +kernel
theorem d1_1 : decode prog_11_method_1_code 1 = .ok (.invokespecial 1, 3) := by decide +kernel
theorem d1_4 : decode prog_11_method_1_code 4 = .ok (.aload_n 0, 1) := by decide +kernel
theorem d1_5 : decode prog_11_method_1_code 5 = .ok (.sipush 512, 3) := by decide +kernel
theorem d1_8 : decode prog_11_method_1_code 8 = .ok (.newarray .long, 2) := by decide +kernel
theorem d1_10 : decode prog_11_method_1_code 10 = .ok (.putfield 9, 3) := by decide +kernel
theorem d1_13 : decode prog_11_method_1_code 13 = .ok (.aload_n 0, 1) := by decide +kernel
theorem d1_14 : decode prog_11_method_1_code 14 = .ok (.sipush 512, 3) := by decide +kernel
theorem d1_17 : decode prog_11_method_1_code 17 = .ok (.newarray .long, 2) := by decide +kernel
theorem d1_19 : decode prog_11_method_1_code 19 = .ok (.putfield 13, 3) := by decide +kernel
theorem d1_22 : decode prog_11_method_1_code 22 = .ok (.aload_n 0, 1) := by decide +kernel
theorem d1_23 : decode prog_11_method_1_code 23 = .ok (.sipush 1024, 3) := by decide +kernel
theorem d1_26 : decode prog_11_method_1_code 26 = .ok (.newarray .int, 2) := by decide +kernel
theorem d1_28 : decode prog_11_method_1_code 28 = .ok (.putfield 16, 3) := by decide +kernel
theorem d1_31 : decode prog_11_method_1_code 31 = .ok (.return_, 1) := by decide +kernel
theorem d3_0 : decode prog_11_method_4_code 0 = .ok (.aload_n 0, 1) := by decide +kernel
theorem d3_1 : decode prog_11_method_4_code 1 = .ok (.lload_n 1, 1) := by decide +kernel
theorem d3_2 : decode prog_11_method_4_code 2 = .ok (.invokevirtual 30, 3) := by decide +kernel
theorem d3_5 : decode prog_11_method_4_code 5 = .ok (.lconst 0, 1) := by decide +kernel
theorem d3_6 : decode prog_11_method_4_code 6 = .ok (.lcmp, 1) := by decide +kernel
theorem d3_7 : decode prog_11_method_4_code 7 = .ok (.ifCond .lt 17, 3) := by decide +kernel
theorem d3_24 : decode prog_11_method_4_code 24 = .ok (.aload_n 0, 1) := by decide +kernel
theorem d3_25 : decode prog_11_method_4_code 25 = .ok (.getfield 20, 3) := by decide +kernel
theorem d3_28 : decode prog_11_method_4_code 28 = .ok (.aload_n 0, 1) := by decide +kernel
theorem d3_29 : decode prog_11_method_4_code 29 = .ok (.getfield 9, 3) := by decide +kernel
theorem d3_32 : decode prog_11_method_4_code 32 = .ok (.arraylength, 1) := by decide +kernel
theorem d3_33 : decode prog_11_method_4_code 33 = .ok (.if_icmp .ne 74, 3) := by decide +kernel
theorem d3_107 : decode prog_11_method_4_code 107 = .ok (.aload_n 0, 1) := by decide +kernel
theorem d3_108 : decode prog_11_method_4_code 108 = .ok (.getfield 9, 3) := by decide +kernel
theorem d3_111 : decode prog_11_method_4_code 111 = .ok (.aload_n 0, 1) := by decide +kernel
theorem d3_112 : decode prog_11_method_4_code 112 = .ok (.getfield 20, 3) := by decide +kernel
theorem d3_115 : decode prog_11_method_4_code 115 = .ok (.lload_n 1, 1) := by decide +kernel
theorem d3_116 : decode prog_11_method_4_code 116 = .ok (.lastore, 1) := by decide +kernel
theorem d3_117 : decode prog_11_method_4_code 117 = .ok (.aload_n 0, 1) := by decide +kernel
theorem d3_118 : decode prog_11_method_4_code 118 = .ok (.getfield 13, 3) := by decide +kernel
theorem d3_121 : decode prog_11_method_4_code 121 = .ok (.aload_n 0, 1) := by decide +kernel
theorem d3_122 : decode prog_11_method_4_code 122 = .ok (.getfield 20, 3) := by decide +kernel
theorem d3_125 : decode prog_11_method_4_code 125 = .ok (.lload_n 3, 1) := by decide +kernel
theorem d3_126 : decode prog_11_method_4_code 126 = .ok (.lastore, 1) := by decide +kernel
theorem d3_127 : decode prog_11_method_4_code 127 = .ok (.aload_n 0, 1) := by decide +kernel
theorem d3_128 : decode prog_11_method_4_code 128 = .ok (.aload_n 0, 1) := by decide +kernel
theorem d3_129 : decode prog_11_method_4_code 129 = .ok (.dup, 1) := by decide +kernel
theorem d3_130 : decode prog_11_method_4_code 130 = .ok (.getfield 20, 3) := by decide +kernel
theorem d3_133 : decode prog_11_method_4_code 133 = .ok (.dup_x1, 1) := by decide +kernel
theorem d3_134 : decode prog_11_method_4_code 134 = .ok (.iconst 1, 1) := by decide +kernel
theorem d3_135 : decode prog_11_method_4_code 135 = .ok (.iadd, 1) := by decide +kernel
theorem d3_136 : decode prog_11_method_4_code 136 = .ok (.putfield 20, 3) := by decide +kernel
theorem d3_139 : decode prog_11_method_4_code 139 = .ok (.invokevirtual 49, 3) := by decide +kernel
theorem d3_142 : decode prog_11_method_4_code 142 = .ok (.return_, 1) := by decide +kernel
theorem d4_0 : decode prog_11_method_3_code 0 = .ok (.aload_n 0, 1) := by decide +kernel
theorem d4_1 : decode prog_11_method_3_code 1 = .ok (.getfield 16, 3) := by decide +kernel
theorem d4_4 : decode prog_11_method_3_code 4 = .ok (.arraylength, 1) := by decide +kernel
theorem d4_5 : decode prog_11_method_3_code 5 = .ok (.iconst 1, 1) := by decide +kernel
theorem d4_6 : decode prog_11_method_3_code 6 = .ok (.isub, 1) := by decide +kernel
theorem d4_7 : decode prog_11_method_3_code 7 = .ok (.istore_n 3, 1) := by decide +kernel
theorem d4_8 : decode prog_11_method_3_code 8 = .ok (.lload_n 1, 1) := by decide +kernel
theorem d4_9 : decode prog_11_method_3_code 9 = .ok (.iload_n 3, 1) := by decide +kernel
theorem d4_10 : decode prog_11_method_3_code 10 = .ok (.invokestatic 24, 3) := by decide +kernel
theorem d4_13 : decode prog_11_method_3_code 13 = .ok (.istore 4, 2) := by decide +kernel
theorem d4_15 : decode prog_11_method_3_code 15 = .ok (.aload_n 0, 1) := by decide +kernel
theorem d4_16 : decode prog_11_method_3_code 16 = .ok (.getfield 16, 3) := by decide +kernel
theorem d4_19 : decode prog_11_method_3_code 19 = .ok (.iload 4, 2) := by decide +kernel
theorem d4_21 : decode prog_11_method_3_code 21 = .ok (.iaload, 1) := by decide +kernel
theorem d4_22 : decode prog_11_method_3_code 22 = .ok (.ifCond .eq 45, 3) := by decide +kernel
theorem d4_25 : decode prog_11_method_3_code 25 = .ok (.aload_n 0, 1) := by decide +kernel
theorem d4_26 : decode prog_11_method_3_code 26 = .ok (.getfield 16, 3) := by decide +kernel
theorem d4_29 : decode prog_11_method_3_code 29 = .ok (.iload 4, 2) := by decide +kernel
theorem d4_31 : decode prog_11_method_3_code 31 = .ok (.iaload, 1) := by decide +kernel
theorem d4_32 : decode prog_11_method_3_code 32 = .ok (.iconst 1, 1) := by decide +kernel
theorem d4_33 : decode prog_11_method_3_code 33 = .ok (.isub, 1) := by decide +kernel
theorem d4_34 : decode prog_11_method_3_code 34 = .ok (.istore 5, 2) := by decide +kernel
theorem d4_36 : decode prog_11_method_3_code 36 = .ok (.aload_n 0, 1) := by decide +kernel
theorem d4_37 : decode prog_11_method_3_code 37 = .ok (.getfield 9, 3) := by decide +kernel
theorem d4_40 : decode prog_11_method_3_code 40 = .ok (.iload 5, 2) := by decide +kernel
theorem d4_42 : decode prog_11_method_3_code 42 = .ok (.laload, 1) := by decide +kernel
theorem d4_43 : decode prog_11_method_3_code 43 = .ok (.lload_n 1, 1) := by decide +kernel
theorem d4_44 : decode prog_11_method_3_code 44 = .ok (.lcmp, 1) := by decide +kernel
theorem d4_45 : decode prog_11_method_3_code 45 = .ok (.ifCond .ne 11, 3) := by decide +kernel
theorem d4_56 : decode prog_11_method_3_code 56 = .ok (.iload 4, 2) := by decide +kernel
theorem d4_58 : decode prog_11_method_3_code 58 = .ok (.iconst 1, 1) := by decide +kernel
theorem d4_59 : decode prog_11_method_3_code 59 = .ok (.iadd, 1) := by decide +kernel
theorem d4_60 : decode prog_11_method_3_code 60 = .ok (.iload_n 3, 1) := by decide +kernel
theorem d4_61 : decode prog_11_method_3_code 61 = .ok (.iand, 1) := by decide +kernel
theorem d4_62 : decode prog_11_method_3_code 62 = .ok (.istore 4, 2) := by decide +kernel
theorem d4_64 : decode prog_11_method_3_code 64 = .ok (.goto (-49), 3) := by decide +kernel
theorem d4_67 : decode prog_11_method_3_code 67 = .ok (.ldc2_w 28, 3) := by decide +kernel
theorem d4_70 : decode prog_11_method_3_code 70 = .ok (.lreturn, 1) := by decide +kernel
theorem d5_0 : decode prog_11_method_8_code 0 = .ok (.lload_n 0, 1) := by decide +kernel
theorem d5_1 : decode prog_11_method_8_code 1 = .ok (.ldc2_w 57, 3) := by decide +kernel
theorem d5_4 : decode prog_11_method_8_code 4 = .ok (.lmul, 1) := by decide +kernel
theorem d5_5 : decode prog_11_method_8_code 5 = .ok (.bipush 32, 2) := by decide +kernel
theorem d5_7 : decode prog_11_method_8_code 7 = .ok (.lushr, 1) := by decide +kernel
theorem d5_8 : decode prog_11_method_8_code 8 = .ok (.l2i, 1) := by decide +kernel
theorem d5_9 : decode prog_11_method_8_code 9 = .ok (.iload_n 2, 1) := by decide +kernel
theorem d5_10 : decode prog_11_method_8_code 10 = .ok (.iand, 1) := by decide +kernel
theorem d5_11 : decode prog_11_method_8_code 11 = .ok (.ireturn, 1) := by decide +kernel
theorem d6_0 : decode prog_11_method_7_code 0 = .ok (.aload_n 0, 1) := by decide +kernel
theorem d6_1 : decode prog_11_method_7_code 1 = .ok (.getfield 16, 3) := by decide +kernel
theorem d6_4 : decode prog_11_method_7_code 4 = .ok (.arraylength, 1) := by decide +kernel
theorem d6_5 : decode prog_11_method_7_code 5 = .ok (.iconst 1, 1) := by decide +kernel
theorem d6_6 : decode prog_11_method_7_code 6 = .ok (.isub, 1) := by decide +kernel
theorem d6_7 : decode prog_11_method_7_code 7 = .ok (.istore_n 2, 1) := by decide +kernel
theorem d6_8 : decode prog_11_method_7_code 8 = .ok (.aload_n 0, 1) := by decide +kernel
theorem d6_9 : decode prog_11_method_7_code 9 = .ok (.getfield 9, 3) := by decide +kernel
theorem d6_12 : decode prog_11_method_7_code 12 = .ok (.iload_n 1, 1) := by decide +kernel
theorem d6_13 : decode prog_11_method_7_code 13 = .ok (.laload, 1) := by decide +kernel
theorem d6_14 : decode prog_11_method_7_code 14 = .ok (.iload_n 2, 1) := by decide +kernel
theorem d6_15 : decode prog_11_method_7_code 15 = .ok (.invokestatic 24, 3) := by decide +kernel
theorem d6_18 : decode prog_11_method_7_code 18 = .ok (.istore_n 3, 1) := by decide +kernel
theorem d6_19 : decode prog_11_method_7_code 19 = .ok (.aload_n 0, 1) := by decide +kernel
theorem d6_20 : decode prog_11_method_7_code 20 = .ok (.getfield 16, 3) := by decide +kernel
theorem d6_23 : decode prog_11_method_7_code 23 = .ok (.iload_n 3, 1) := by decide +kernel
theorem d6_24 : decode prog_11_method_7_code 24 = .ok (.iaload, 1) := by decide +kernel
theorem d6_25 : decode prog_11_method_7_code 25 = .ok (.ifCond .eq 12, 3) := by decide +kernel
theorem d6_28 : decode prog_11_method_7_code 28 = .ok (.iload_n 3, 1) := by decide +kernel
theorem d6_29 : decode prog_11_method_7_code 29 = .ok (.iconst 1, 1) := by decide +kernel
theorem d6_30 : decode prog_11_method_7_code 30 = .ok (.iadd, 1) := by decide +kernel
theorem d6_31 : decode prog_11_method_7_code 31 = .ok (.iload_n 2, 1) := by decide +kernel
theorem d6_32 : decode prog_11_method_7_code 32 = .ok (.iand, 1) := by decide +kernel
theorem d6_33 : decode prog_11_method_7_code 33 = .ok (.istore_n 3, 1) := by decide +kernel
theorem d6_34 : decode prog_11_method_7_code 34 = .ok (.goto (-15), 3) := by decide +kernel
theorem d6_37 : decode prog_11_method_7_code 37 = .ok (.aload_n 0, 1) := by decide +kernel
theorem d6_38 : decode prog_11_method_7_code 38 = .ok (.getfield 16, 3) := by decide +kernel
theorem d6_41 : decode prog_11_method_7_code 41 = .ok (.iload_n 3, 1) := by decide +kernel
theorem d6_42 : decode prog_11_method_7_code 42 = .ok (.iload_n 1, 1) := by decide +kernel
theorem d6_43 : decode prog_11_method_7_code 43 = .ok (.iconst 1, 1) := by decide +kernel
theorem d6_44 : decode prog_11_method_7_code 44 = .ok (.iadd, 1) := by decide +kernel
theorem d6_45 : decode prog_11_method_7_code 45 = .ok (.iastore, 1) := by decide +kernel
theorem d6_46 : decode prog_11_method_7_code 46 = .ok (.return_, 1) := by decide +kernel
theorem d7_0 : decode prog_11_method_5_code 0 = .ok (.iconst 2, 1) := by decide +kernel
theorem d7_1 : decode prog_11_method_5_code 1 = .ok (.aload_n 0, 1) := by decide +kernel
theorem d7_2 : decode prog_11_method_5_code 2 = .ok (.getfield 20, 3) := by decide +kernel
theorem d7_5 : decode prog_11_method_5_code 5 = .ok (.iload_n 1, 1) := by decide +kernel
theorem d7_6 : decode prog_11_method_5_code 6 = .ok (.isub, 1) := by decide +kernel
theorem d7_7 : decode prog_11_method_5_code 7 = .ok (.imul, 1) := by decide +kernel
theorem d7_8 : decode prog_11_method_5_code 8 = .ok (.newarray .long, 2) := by decide +kernel
theorem d7_10 : decode prog_11_method_5_code 10 = .ok (.astore_n 2, 1) := by decide +kernel
theorem d7_11 : decode prog_11_method_5_code 11 = .ok (.iload_n 1, 1) := by decide +kernel
theorem d7_12 : decode prog_11_method_5_code 12 = .ok (.istore_n 3, 1) := by decide +kernel
theorem d7_13 : decode prog_11_method_5_code 13 = .ok (.iload_n 3, 1) := by decide +kernel
theorem d7_14 : decode prog_11_method_5_code 14 = .ok (.aload_n 0, 1) := by decide +kernel
theorem d7_15 : decode prog_11_method_5_code 15 = .ok (.getfield 20, 3) := by decide +kernel
theorem d7_18 : decode prog_11_method_5_code 18 = .ok (.if_icmp .ge 37, 3) := by decide +kernel
theorem d7_21 : decode prog_11_method_5_code 21 = .ok (.aload_n 2, 1) := by decide +kernel
theorem d7_22 : decode prog_11_method_5_code 22 = .ok (.iconst 2, 1) := by decide +kernel
theorem d7_23 : decode prog_11_method_5_code 23 = .ok (.iload_n 3, 1) := by decide +kernel
theorem d7_24 : decode prog_11_method_5_code 24 = .ok (.iload_n 1, 1) := by decide +kernel
theorem d7_25 : decode prog_11_method_5_code 25 = .ok (.isub, 1) := by decide +kernel
theorem d7_26 : decode prog_11_method_5_code 26 = .ok (.imul, 1) := by decide +kernel
theorem d7_27 : decode prog_11_method_5_code 27 = .ok (.aload_n 0, 1) := by decide +kernel
theorem d7_28 : decode prog_11_method_5_code 28 = .ok (.getfield 9, 3) := by decide +kernel
theorem d7_31 : decode prog_11_method_5_code 31 = .ok (.iload_n 3, 1) := by decide +kernel
theorem d7_32 : decode prog_11_method_5_code 32 = .ok (.laload, 1) := by decide +kernel
theorem d7_33 : decode prog_11_method_5_code 33 = .ok (.lastore, 1) := by decide +kernel
theorem d7_34 : decode prog_11_method_5_code 34 = .ok (.aload_n 2, 1) := by decide +kernel
theorem d7_35 : decode prog_11_method_5_code 35 = .ok (.iconst 2, 1) := by decide +kernel
theorem d7_36 : decode prog_11_method_5_code 36 = .ok (.iload_n 3, 1) := by decide +kernel
theorem d7_37 : decode prog_11_method_5_code 37 = .ok (.iload_n 1, 1) := by decide +kernel
theorem d7_38 : decode prog_11_method_5_code 38 = .ok (.isub, 1) := by decide +kernel
theorem d7_39 : decode prog_11_method_5_code 39 = .ok (.imul, 1) := by decide +kernel
theorem d7_40 : decode prog_11_method_5_code 40 = .ok (.iconst 1, 1) := by decide +kernel
theorem d7_41 : decode prog_11_method_5_code 41 = .ok (.iadd, 1) := by decide +kernel
theorem d7_42 : decode prog_11_method_5_code 42 = .ok (.aload_n 0, 1) := by decide +kernel
theorem d7_43 : decode prog_11_method_5_code 43 = .ok (.getfield 13, 3) := by decide +kernel
theorem d7_46 : decode prog_11_method_5_code 46 = .ok (.iload_n 3, 1) := by decide +kernel
theorem d7_47 : decode prog_11_method_5_code 47 = .ok (.laload, 1) := by decide +kernel
theorem d7_48 : decode prog_11_method_5_code 48 = .ok (.lastore, 1) := by decide +kernel
theorem d7_49 : decode prog_11_method_5_code 49 = .ok (.iinc 3 1, 3) := by decide +kernel
theorem d7_52 : decode prog_11_method_5_code 52 = .ok (.goto (-39), 3) := by decide +kernel
theorem d7_55 : decode prog_11_method_5_code 55 = .ok (.aload_n 2, 1) := by decide +kernel
theorem d7_56 : decode prog_11_method_5_code 56 = .ok (.areturn, 1) := by decide +kernel
theorem d8_0 : decode method_3_code 0 = .ok (.iload_n 3, 1) := by decide +kernel
theorem d8_1 : decode method_3_code 1 = .ok (.iload 5, 2) := by decide +kernel
theorem d8_3 : decode method_3_code 3 = .ok (.iadd, 1) := by decide +kernel
theorem d8_4 : decode method_3_code 4 = .ok (.istore 6, 2) := by decide +kernel
theorem d8_6 : decode method_3_code 6 = .ok (.iload 6, 2) := by decide +kernel
theorem d8_8 : decode method_3_code 8 = .ok (.iload 4, 2) := by decide +kernel
theorem d8_10 : decode method_3_code 10 = .ok (.if_icmp .lt 5, 3) := by decide +kernel
theorem d8_13 : decode method_3_code 13 = .ok (.iconst 1, 1) := by decide +kernel
theorem d8_14 : decode method_3_code 14 = .ok (.ireturn, 1) := by decide +kernel
theorem d8_15 : decode method_3_code 15 = .ok (.aload_n 0, 1) := by decide +kernel
theorem d8_16 : decode method_3_code 16 = .ok (.iconst 2, 1) := by decide +kernel
theorem d8_17 : decode method_3_code 17 = .ok (.iload 5, 2) := by decide +kernel
theorem d8_19 : decode method_3_code 19 = .ok (.imul, 1) := by decide +kernel
theorem d8_20 : decode method_3_code 20 = .ok (.laload, 1) := by decide +kernel
theorem d8_21 : decode method_3_code 21 = .ok (.aload_n 1, 1) := by decide +kernel
theorem d8_22 : decode method_3_code 22 = .ok (.iload 6, 2) := by decide +kernel
theorem d8_24 : decode method_3_code 24 = .ok (.laload, 1) := by decide +kernel
theorem d8_25 : decode method_3_code 25 = .ok (.lcmp, 1) := by decide +kernel
theorem d8_26 : decode method_3_code 26 = .ok (.ifCond .ne 23, 3) := by decide +kernel
theorem d8_29 : decode method_3_code 29 = .ok (.aload_n 0, 1) := by decide +kernel
theorem d8_30 : decode method_3_code 30 = .ok (.iconst 2, 1) := by decide +kernel
theorem d8_31 : decode method_3_code 31 = .ok (.iload 5, 2) := by decide +kernel
theorem d8_33 : decode method_3_code 33 = .ok (.imul, 1) := by decide +kernel
theorem d8_34 : decode method_3_code 34 = .ok (.iconst 1, 1) := by decide +kernel
theorem d8_35 : decode method_3_code 35 = .ok (.iadd, 1) := by decide +kernel
theorem d8_36 : decode method_3_code 36 = .ok (.laload, 1) := by decide +kernel
theorem d8_37 : decode method_3_code 37 = .ok (.aload_n 2, 1) := by decide +kernel
theorem d8_38 : decode method_3_code 38 = .ok (.iload 6, 2) := by decide +kernel
theorem d8_40 : decode method_3_code 40 = .ok (.laload, 1) := by decide +kernel
theorem d8_41 : decode method_3_code 41 = .ok (.lcmp, 1) := by decide +kernel
theorem d8_42 : decode method_3_code 42 = .ok (.ifCond .ne 7, 3) := by decide +kernel
theorem d8_45 : decode method_3_code 45 = .ok (.iconst 1, 1) := by decide +kernel
theorem d8_46 : decode method_3_code 46 = .ok (.goto 4, 3) := by decide +kernel
theorem d8_50 : decode method_3_code 50 = .ok (.ireturn, 1) := by decide +kernel
theorem d9_0 : decode prog_11_method_2_code 0 = .ok (.aload_n 0, 1) := by decide +kernel
theorem d9_1 : decode prog_11_method_2_code 1 = .ok (.getfield 20, 3) := by decide +kernel
theorem d9_4 : decode prog_11_method_2_code 4 = .ok (.ireturn, 1) := by decide +kernel
theorem pn_0 : plainFor x = true := plainFor_of_name (by first | (simp [plainName, overriddenIn]; done) | decide +kernel)
theorem pn_1 : plainFor (⟨"com/example/ratebook/ratebook/journal/RecentKeys", "<init>", "()V"⟩ : MethodName) = true := plainFor_of_name (by first | (simp [plainName, overriddenIn]; done) | decide +kernel)
theorem pn_3 : plainFor (⟨"com/example/ratebook/ratebook/journal/RecentKeys", "add", "(JJ)V"⟩ : MethodName) = true := plainFor_of_name (by first | (simp [plainName, overriddenIn]; done) | decide +kernel)
theorem pn_4 : plainFor (⟨"com/example/ratebook/ratebook/journal/RecentKeys", "number", "(J)J"⟩ : MethodName) = true := plainFor_of_name (by first | (simp [plainName, overriddenIn]; done) | decide +kernel)
theorem pn_5 : plainFor (⟨"com/example/ratebook/ratebook/journal/RecentKeys", "slotOf", "(JI)I"⟩ : MethodName) = true := plainFor_of_name (by first | (simp [plainName, overriddenIn]; done) | decide +kernel)
theorem pn_6 : plainFor (⟨"com/example/ratebook/ratebook/journal/RecentKeys", "place", "(I)V"⟩ : MethodName) = true := plainFor_of_name (by first | (simp [plainName, overriddenIn]; done) | decide +kernel)
theorem pn_7 : plainFor (⟨"com/example/ratebook/ratebook/journal/RecentKeys", "pairsFrom", "(I)[J"⟩ : MethodName) = true := plainFor_of_name (by first | (simp [plainName, overriddenIn]; done) | decide +kernel)
theorem pn_8 : plainFor (⟨"com/example/ratebook/ratebook/journal/RecentKeysPairsFromPinLaw", "at", "([J[J[JIII)Z"⟩ : MethodName) = true := plainFor_of_name (by first | (simp [plainName, overriddenIn]; done) | decide +kernel)
theorem pn_9 : plainFor (⟨"com/example/ratebook/ratebook/journal/RecentKeys", "size", "()I"⟩ : MethodName) = true := plainFor_of_name (by first | (simp [plainName, overriddenIn]; done) | decide +kernel)
theorem own_lt32 {a b : Int32} (h : a.toInt < b.toInt) : a < b := Int32.lt_iff_toInt_lt.mpr h
theorem own_nlt32 {a b : Int32} (h : ¬ a.toInt < b.toInt) : ¬ a < b := fun z => h (Int32.lt_iff_toInt_lt.mp z)
theorem own_eq32 {a b : Int32} (h : a.toInt = b.toInt) : a = b := Int32.toInt_inj.mp h
theorem own_ne32 {a b : Int32} (h : ¬ a.toInt = b.toInt) : ¬ a = b := fun z => h (congrArg Int32.toInt z)
theorem own_lt32' {a b : Int32} (h : a < b) : a.toInt < b.toInt := Int32.lt_iff_toInt_lt.mp h
theorem own_nlt32' {a b : Int32} (h : ¬ a < b) : ¬ a.toInt < b.toInt := fun z => h (Int32.lt_iff_toInt_lt.mpr z)
theorem own_eq32' {a b : Int32} (h : a = b) : a.toInt = b.toInt := congrArg Int32.toInt h
theorem own_ne32' {a b : Int32} (h : ¬ a = b) : ¬ a.toInt = b.toInt := fun z => h (Int32.toInt_inj.mp z)
theorem own_lt64 {a b : Int64} (h : a.toInt < b.toInt) : a < b := Int64.lt_iff_toInt_lt.mpr h
theorem own_nlt64 {a b : Int64} (h : ¬ a.toInt < b.toInt) : ¬ a < b := fun z => h (Int64.lt_iff_toInt_lt.mp z)
theorem own_eq64 {a b : Int64} (h : a.toInt = b.toInt) : a = b := Int64.toInt_inj.mp h
theorem own_ne64 {a b : Int64} (h : ¬ a.toInt = b.toInt) : ¬ a = b := fun z => h (congrArg Int64.toInt z)
theorem own_lt64' {a b : Int64} (h : a < b) : a.toInt < b.toInt := Int64.lt_iff_toInt_lt.mp h
theorem own_nlt64' {a b : Int64} (h : ¬ a < b) : ¬ a.toInt < b.toInt := fun z => h (Int64.lt_iff_toInt_lt.mpr z)
theorem own_eq64' {a b : Int64} (h : a = b) : a.toInt = b.toInt := congrArg Int64.toInt h
theorem own_ne64' {a b : Int64} (h : ¬ a = b) : ¬ a.toInt = b.toInt := fun z => h (Int64.toInt_inj.mp z)
def rmz : Room := { frames := 0, cells := 0, slots := 0, locals := 0 }
def rmi : Room := { frames := 1, cells := 3, slots := 2048, locals := 12 }
def rms : Room := { frames := 1, cells := 0, slots := 0, locals := 20 }
def rma : Room := { frames := 2, cells := 0, slots := 0, locals := 48 }
def rmp : Room := { frames := 0, cells := 1, slots := 6, locals := 0 }
def Arrs (Z : State) (h : Heap) (kA nA sA : Addr) (c1 c2 c3 : ClassId) (ks ns : List Value) (f : Nat → Int32) : Prop := Arv Z h kA c1 .long (512 : Int32) ks (.long (0 : Int64)) ∧ Arv Z h nA c2 .long (512 : Int32) ns (.long (0 : Int64)) ∧ Arf Z h sA c3 .int (1024 : Int32) (fun i => .int (f i))
def Flds (Z : State) (h : Heap) (a kA nA sA : Addr) (m : Int32) : Prop := Exa Z h a "com/example/ratebook/ratebook/journal/RecentKeys" ∧ Fld Z h a "com/example/ratebook/ratebook/journal/RecentKeys" "keys" "[J" (.ref kA) ∧ Fld Z h a "com/example/ratebook/ratebook/journal/RecentKeys" "numbers" "[J" (.ref nA) ∧ Fld Z h a "com/example/ratebook/ratebook/journal/RecentKeys" "slots" "[I" (.ref sA) ∧ Fld Z h a "com/example/ratebook/ratebook/journal/RecentKeys" "size" "I" (.int m)
def Unl (a kA nA sA : Addr) : Prop := a ≠ kA ∧ a ≠ nA ∧ a ≠ sA ∧ kA ≠ nA ∧ kA ≠ sA ∧ nA ≠ sA
def own_slot (q : Int64) (p : Int32) : Int32 := (own_ushrL (q * (-7046029254386353131)) 32).toInt32 &&& p
def own_f0 : Nat → Int32 := fun _ => 0
def own_f1 (p0 : Nat) : Nat → Int32 := fun i => if i = p0 then 1 else 0
def own_f2 (p0 p1 : Nat) : Nat → Int32 := fun i => if i = p1 then 2 else if i = p0 then 1 else 0
def own_f3 (p0 p1 p2 : Nat) : Nat → Int32 := fun i => if i = p2 then 3 else if i = p1 then 2 else if i = p0 then 1 else 0
def QI (x : Int32) (h0 : Heap) (v : Option Value) (h : Heap) : Prop := v = some (.int x) ∧ h = h0
def QJ (x : Int64) (h0 : Heap) (v : Option Value) (h : Heap) : Prop := v = some (.long x) ∧ h = h0
def QC (Z : State) (h0 : Heap) (a : Addr) (v : Option Value) (h : Heap) : Prop := v = none ∧ ∃ kA nA sA c1 c2 c3, Flds Z h a kA nA sA 0 ∧ Arrs Z h kA nA sA c1 c2 c3 [] [] own_f0 ∧ Unl a kA nA sA ∧ h0.size ≤ kA ∧ h0.size ≤ nA ∧ h0.size ≤ sA
def QP0 (Z : State) (sA : Addr) (c3 : ClassId) (v : Option Value) (h : Heap) : Prop := v = none ∧ ∃ p0 : Nat, Arf Z h sA c3 .int (1024 : Int32) (fun i => .int (own_f1 p0 i))
def QP1 (Z : State) (sA : Addr) (c3 : ClassId) (p0 : Nat) (v : Option Value) (h : Heap) : Prop := v = none ∧ ∃ p1 : Nat, ¬ (p0 = p1) ∧ Arf Z h sA c3 .int (1024 : Int32) (fun i => .int (own_f2 p0 p1 i))
def QP2 (Z : State) (sA : Addr) (c3 : ClassId) (p0 p1 : Nat) (v : Option Value) (h : Heap) : Prop := v = none ∧ ∃ p2 : Nat, Arf Z h sA c3 .int (1024 : Int32) (fun i => .int (own_f3 p0 p1 p2 i))
def QA0 (Z : State) (a kA nA sA : Addr) (c1 c2 c3 : ClassId) (ks ns : List Value) (v : Option Value) (h : Heap) : Prop := v = none ∧ ∃ p0 : Nat, Flds Z h a kA nA sA 1 ∧ Arrs Z h kA nA sA c1 c2 c3 ks ns (own_f1 p0)
def QA1 (Z : State) (a kA nA sA : Addr) (c1 c2 c3 : ClassId) (ks ns : List Value) (p0 : Nat) (v : Option Value) (h : Heap) : Prop := v = none ∧ ∃ p1 : Nat, ¬ (p0 = p1) ∧ Flds Z h a kA nA sA 2 ∧ Arrs Z h kA nA sA c1 c2 c3 ks ns (own_f2 p0 p1)
def QA2 (Z : State) (a kA nA sA : Addr) (c1 c2 c3 : ClassId) (ks ns : List Value) (p0 p1 : Nat) (v : Option Value) (h : Heap) : Prop := v = none ∧ ∃ p2 : Nat, Flds Z h a kA nA sA 3 ∧ Arrs Z h kA nA sA c1 c2 c3 ks ns (own_f3 p0 p1 p2)
def QR (Z : State) (n : Int32) (vs : List Value) (v : Option Value) (h : Heap) : Prop := ∃ (r : Addr) (k : ClassId), v = some (.ref r) ∧ Arv Z h r k .long n vs (.long (0 : Int64))
def Q0 (v : Option Value) (h : Heap) : Prop := v = some (.int 1)
theorem own_and3 (x : Int32) : x &&& 3 = 0 ∨ x &&& 3 = 1 ∨ x &&& 3 = 2 ∨ x &&& 3 = 3 := by
  have e : (x &&& 3).toInt = x.toInt % 4 := c_mask x 3 2 (by decide) (by decide)
  have k : ∀ d : Int32, x &&& 3 = d ↔ (x &&& 3).toInt = d.toInt := fun d => Int32.toInt_inj.symm
  have k0 : (0 : Int32).toInt = 0 := rfl
  have k1 : (1 : Int32).toInt = 1 := rfl
  have k2 : (2 : Int32).toInt = 2 := rfl
  have k3 : (3 : Int32).toInt = 3 := rfl
  simp only [k, k0, k1, k2, k3]
  omega
theorem own_from1 (x : Int32) : (x &&& 3) % 1 = 0 := by rcases own_and3 x with h | h | h | h <;> rw [h] <;> decide
theorem own_from2 (x : Int32) : (x &&& 3) % 2 = 0 ∨ (x &&& 3) % 2 = 1 := by rcases own_and3 x with h | h | h | h <;> rw [h] <;> decide
theorem own_from3 (x : Int32) : (x &&& 3) % 3 = 0 ∨ (x &&& 3) % 3 = 1 ∨ (x &&& 3) % 3 = 2 := by rcases own_and3 x with h | h | h | h <;> rw [h] <;> decide
theorem own_from4 (x : Int32) : (x &&& 3) % 4 = 0 ∨ (x &&& 3) % 4 = 1 ∨ (x &&& 3) % 4 = 2 ∨ (x &&& 3) % 4 = 3 := by rcases own_and3 x with h | h | h | h <;> rw [h] <;> decide
theorem own_p10 : ((2 ^ 10 : Nat) : Int) = 1024 := rfl
theorem own_m (x : Int32) : (x &&& 1023).toInt = x.toInt % 1024 := (c_mask x 1023 10 (by decide) (by decide)).trans (by rw [own_p10])
theorem own_sb (q : Int64) : 0 ≤ (own_slot q 1023).toInt ∧ (own_slot q 1023).toInt ≤ 1023 := by
  unfold own_slot; have := own_m (own_ushrL (q * (-7046029254386353131)) 32).toInt32; omega
theorem own_nx (i : Int32) (h : 0 ≤ i.toInt ∧ i.toInt ≤ 1023) : ((i + 1) &&& 1023).toInt = (i.toInt + 1) % 1024 := by
  have e := own_m (i + 1)
  have e1 := c_iadd i 1
  have k1 : (1 : Int32).toInt = 1 := rfl
  rw [k1] at e1
  have r := rng32 (i + 1)
  omega
theorem own_tn (i : Int32) : i.toNatClampNeg = i.toInt.toNat := rfl
set_option maxRecDepth 65536 in
set_option maxHeartbeats 40000000 in
theorem rm_so (l : Launch) (Z : State) (a0 : Array Value) (hw : ∀ d ∈ tables_1, d.before a0 Z = true) (q1 : Int64) (p1 : Int32) (h0 : Heap)  (cs : List Jvm.Cond) :
    OwnCtr l Z (⟨"com/example/ratebook/ratebook/journal/RecentKeys", "slotOf", "(JI)I"⟩ : MethodName) prog_11_method_8_code 3 (some .int) rmz #[(.long q1), (.int p1)] h0 [] (QI (own_slot q1 p1) h0) cs := by
  refine ow_ctr pn_5 hw (Ls := #[.val (.long q1), .second, .val (.int p1)]) (fun m => by first | (simp [entryFrame, mkF, argsToLocals, Value.category]; done) | rfl) ?_
  intro p e s m below meth c T0 C A0
  refine ow_lloadN C A0 d5_0 rfl rfl ?_
  refine ow_ldc2 C A0 tw_30 d5_1 rfl ?_
  refine ow_lmul C A0 d5_4 rfl ?_
  refine ow_bipush C A0 d5_5 (v := 32) rfl rfl ?_
  refine ow_lushr C A0 d5_7 rfl ?_
  refine ow_l2i C A0 d5_8 rfl ?_
  refine ow_iloadN C A0 d5_9 rfl rfl ?_
  refine ow_iand C A0 d5_10 rfl ?_
  refine ow_ireturn C A0 (t := .int) rfl rfl (by simp) d5_11 (by decide) (by decide) ?_
  exact ⟨rfl, rfl⟩
set_option maxRecDepth 65536 in
set_option maxHeartbeats 40000000 in
theorem rm_init (l : Launch) (Z : State) (a0 : Array Value) (hw : ∀ d ∈ tables_1, d.before a0 Z = true) (a : Addr) (h0 : Heap) (E : Exa Z h0 a "com/example/ratebook/ratebook/journal/RecentKeys") (F_keys : Fld Z h0 a "com/example/ratebook/ratebook/journal/RecentKeys" "keys" "[J" .null) (F_numbers : Fld Z h0 a "com/example/ratebook/ratebook/journal/RecentKeys" "numbers" "[J" .null) (F_slots : Fld Z h0 a "com/example/ratebook/ratebook/journal/RecentKeys" "slots" "[I" .null) (Fz : Fld Z h0 a "com/example/ratebook/ratebook/journal/RecentKeys" "size" "I" (.int (0 : Int32))) (cs : List Jvm.Cond) :
    OwnCtr l Z (⟨"com/example/ratebook/ratebook/journal/RecentKeys", "<init>", "()V"⟩ : MethodName) prog_11_method_1_code 1 none rmi #[(.ref a)] h0 [a] (QC Z h0 a) cs := by
  refine ow_ctr pn_1 hw (Ls := #[.val (.ref a)]) (fun m => by first | (simp [entryFrame, mkF, argsToLocals, Value.category]; done) | rfl) ?_
  intro p e s m below meth c T0 C A0
  refine ow_aloadN C A0 d1_0 rfl rfl rfl ?_
  refine ow_initO C A0 tw_7 tw_8 tw_9 rfl d1_1 rfl (by decide) (W := 0) (Nat.le_of_eq rfl) (by decide) ?_
  intro T1 A2
  refine ow_aloadN C A2 d1_4 rfl rfl rfl ?_
  refine ow_sipush C A2 d1_5 (v := 512) rfl rfl ?_
  refine ow_newA C A2 (ty := .long) rfl tw_0 d1_8 rfl (by decide) (cap := 512) (by decide) (by decide) (ck' := 1) (sk' := 512) rfl rfl (by decide) (by decide) ?_
  intro T3 h5 b6 kk7 g8 E9 V10 A4
  have ne11 : a ≠ b6 := Nat.ne_of_lt (Nat.lt_of_lt_of_le E.lt (Nat.le_of_eq g8.symm))
  have ows_b6 : b6 ∈ ([a] : List Addr) ∨ h0.size ≤ b6 := Or.inr (Nat.le_trans (ow_le A2) (Nat.le_of_eq g8.symm))
  have f12 := (F_keys.ext E9)
  have f13 := (E.ext E9)
  refine ow_putF C A4 tw_10 Via.refl f12 f13 tw_11 tw_2 (ty := (.array .long)) (by decide) rfl rfl (Or.inl (List.mem_of_getElem? (i := 0) rfl)) d1_10 rfl ?_
  intro T14 h16 W17 A15
  have f18 := f12.same W17
  refine ow_aloadN C A15 d1_13 rfl rfl rfl ?_
  refine ow_sipush C A15 d1_14 (v := 512) rfl rfl ?_
  refine ow_newA C A15 (ty := .long) rfl tw_0 d1_17 rfl (by decide) (cap := 512) (by decide) (by decide) (ck' := 2) (sk' := 1024) rfl rfl (by decide) (by decide) ?_
  intro T19 h21 b22 kk23 g24 E25 V26 A20
  have f27 := (f13.wr W17)
  have ne28 : a ≠ b22 := Nat.ne_of_lt (Nat.lt_of_lt_of_le f27.lt (Nat.le_of_eq g24.symm))
  have f29 := (V10.other W17 (Ne.symm ne11))
  have ne30 : b6 ≠ b22 := Nat.ne_of_lt (Nat.lt_of_lt_of_le f29.lt (Nat.le_of_eq g24.symm))
  have ows_b22 : b22 ∈ ([a] : List Addr) ∨ h0.size ≤ b22 := Or.inr (Nat.le_trans (ow_le A15) (Nat.le_of_eq g24.symm))
  have f31 := (((F_numbers.ext E9).other W17 (Or.inr (sn_0 hw))).ext E25)
  have f32 := (f27.ext E25)
  refine ow_putF C A20 tw_12 Via.refl f31 f32 tw_13 tw_2 (ty := (.array .long)) (by decide) rfl rfl (Or.inl (List.mem_of_getElem? (i := 0) rfl)) d1_19 rfl ?_
  intro T33 h35 W36 A34
  have f37 := f31.same W36
  refine ow_aloadN C A34 d1_22 rfl rfl rfl ?_
  refine ow_sipush C A34 d1_23 (v := 1024) rfl rfl ?_
  refine ow_newA C A34 (ty := .int) rfl tw_14 d1_26 rfl (by decide) (cap := 1024) (by decide) (by decide) (ck' := 3) (sk' := 2048) rfl rfl (by decide) (by decide) ?_
  intro T38 h40 b41 kk42 g43 E44 V45 A39
  have f46 := (f32.wr W36)
  have ne47 : a ≠ b41 := Nat.ne_of_lt (Nat.lt_of_lt_of_le f46.lt (Nat.le_of_eq g43.symm))
  have f48 := ((f29.ext E25).other W36 (Ne.symm ne11))
  have ne49 : b6 ≠ b41 := Nat.ne_of_lt (Nat.lt_of_lt_of_le f48.lt (Nat.le_of_eq g43.symm))
  have f50 := (V26.other W36 (Ne.symm ne28))
  have ne51 : b22 ≠ b41 := Nat.ne_of_lt (Nat.lt_of_lt_of_le f50.lt (Nat.le_of_eq g43.symm))
  have ows_b41 : b41 ∈ ([a] : List Addr) ∨ h0.size ≤ b41 := Or.inr (Nat.le_trans (ow_le A34) (Nat.le_of_eq g43.symm))
  have f52 := (((((F_slots.ext E9).other W17 (Or.inr (sn_1 hw))).ext E25).other W36 (Or.inr (sn_2 hw))).ext E44)
  have f53 := (f46.ext E44)
  refine ow_putF C A39 tw_15 Via.refl f52 f53 tw_16 tw_2 (ty := (.array .int)) (by decide) rfl rfl (Or.inl (List.mem_of_getElem? (i := 0) rfl)) d1_28 rfl ?_
  intro T54 h56 W57 A55
  have f58 := f52.same W57
  have f59 := (V45.other W57 (Ne.symm ne47))
  have f60 := (f53.wr W57)
  have f61 := ((((f18.ext E25).other W36 (Or.inr (sn_3 hw))).ext E44).other W57 (Or.inr (sn_4 hw)))
  have f62 := ((f37.ext E44).other W57 (Or.inr (sn_5 hw)))
  have f63 := ((((((Fz.ext E9).other W17 (Or.inr (sn_6 hw))).ext E25).other W36 (Or.inr (sn_7 hw))).ext E44).other W57 (Or.inr (sn_8 hw)))
  have f64 := ((f48.ext E44).other W57 (Ne.symm ne11))
  have f65 := ((f50.ext E44).other W57 (Ne.symm ne28))
  refine ow_return C A55 rfl d1_31 (by decide) (by decide) ?_
  exact ⟨rfl, b6, b22, b41, kk7, kk23, kk42, ⟨f60, f61, f62, f58, f63⟩, ⟨f64, f65, (Arf.of f59).re (fun i _ => rfl)⟩, ⟨ne11, ne28, ne47, ne30, ne49, ne51⟩, (ows_b6.elim (fun q => absurd (List.mem_singleton.mp q) (Ne.symm ne11)) id), (ows_b22.elim (fun q => absurd (List.mem_singleton.mp q) (Ne.symm ne28)) id), (ows_b41.elim (fun q => absurd (List.mem_singleton.mp q) (Ne.symm ne47)) id)⟩
set_option maxRecDepth 65536 in
set_option maxHeartbeats 40000000 in
theorem rm_size (l : Launch) (Z : State) (a0 : Array Value) (hw : ∀ d ∈ tables_1, d.before a0 Z = true) (a : Addr) (m : Int32) (h0 : Heap) (Fz : Fld Z h0 a "com/example/ratebook/ratebook/journal/RecentKeys" "size" "I" (.int m)) (cs : List Jvm.Cond) :
    OwnCtr l Z (⟨"com/example/ratebook/ratebook/journal/RecentKeys", "size", "()I"⟩ : MethodName) prog_11_method_2_code 1 (some .int) rmz #[(.ref a)] h0 [] (QI m h0) cs := by
  refine ow_ctr pn_9 hw (Ls := #[.val (.ref a)]) (fun m => by first | (simp [entryFrame, mkF, argsToLocals, Value.category]; done) | rfl) ?_
  intro p e s m below meth c T0 C A0
  refine ow_aloadN C A0 d9_0 rfl rfl rfl ?_
  refine ow_getF C A0 tw_32 Via.refl Fz d9_1 rfl ?_
  intro T1 A2
  refine ow_ireturn C A2 (t := .int) rfl rfl (by simp) d9_4 (by decide) (by decide) ?_
  exact ⟨rfl, rfl⟩
set_option maxRecDepth 65536 in
set_option maxHeartbeats 40000000 in
theorem rm_num0 (l : Launch) (Z : State) (a0 : Array Value) (hw : ∀ d ∈ tables_1, d.before a0 Z = true) (a kA nA sA : Addr) (c1 c2 c3 : ClassId) (q : Int64) (h0 : Heap) (O : Flds Z h0 a kA nA sA 0) (O2 : Arrs Z h0 kA nA sA c1 c2 c3 [] [] own_f0) (cs : List Jvm.Cond) :
    OwnCtr l Z (⟨"com/example/ratebook/ratebook/journal/RecentKeys", "number", "(J)J"⟩ : MethodName) prog_11_method_3_code 6 (some .long) rms #[(.ref a), (.long q)] h0 [] (QJ (-1) h0) cs := by
  refine ow_ctr pn_4 hw (Ls := #[.val (.ref a), .val (.long q), .second, .unset, .unset, .unset]) (fun m => by first | (simp [entryFrame, mkF, argsToLocals, Value.category]; done) | rfl) ?_
  intro p e s m below meth c T0 C A0
  obtain ⟨xE1, xK1, xN1, xS1, xZ1⟩ := O
  obtain ⟨yK2, yN2, yS2⟩ := O2
  refine ow_aloadN C A0 d4_0 rfl rfl rfl ?_
  refine ow_getF C A0 tw_15 Via.refl xS1 d4_1 rfl ?_
  intro T3 A4
  refine ow_alenF C A4 yS2 d4_4 rfl ?_
  refine ow_iconst C A4 d4_5 (v := 1) rfl rfl ?_
  refine ow_isub C A4 d4_6 rfl ?_
  show OwnWP _ _ _ _ _ _ _ _ _ T3 (mkF m 7 #[.val (.ref a), .val (.long q), .second, .unset, .unset, .unset] [(.int (1023 : Int32))])
  refine ow_istoreN C A4 d4_7 (Ls' := #[.val (.ref a), .val (.long q), .second, .val (.int (1023 : Int32)), .unset, .unset]) rfl rfl ?_
  refine ow_lloadN C A4 d4_8 rfl rfl ?_
  refine ow_iloadN C A4 d4_9 rfl rfl ?_
  refine ow_callS C A4 (argsL := [(.long q), (.int (1023 : Int32))]) (rm_so l Z a0 hw q (1023 : Int32) h0 []) tw_27 tw_28 tw_3 tw_29 (by decide) all0 (by decide) (by decide) (ck' := 0) (sk' := 0) rfl rfl (by decide) (by decide) rfl (lenOf pd_0 rfl) (S := []) rfl (W := 0) (Nat.le_of_eq rfl) d4_10 rfl ?_
  intro T5 v5 K5 hQ5 A5
  obtain ⟨rfl, ee5⟩ := hQ5
  rw [ee5] at A5 K5
  show OwnWP _ _ _ _ _ _ _ _ _ T5 (mkF m 13 #[.val (.ref a), .val (.long q), .second, .val (.int (1023 : Int32)), .unset, .unset] [(.int (own_slot q (1023 : Int32)))])
  have bi5 := own_sb q
  obtain ⟨i5, hi5⟩ : ∃ z, z = own_slot q (1023 : Int32) := ⟨_, rfl⟩
  rw [← hi5] at bi5 ⊢
  have li5 := bi5.1
  have ri5 := bi5.2
  refine ow_istore C A5 d4_13 (Ls' := #[.val (.ref a), .val (.long q), .second, .val (.int (1023 : Int32)), .val (.int i5), .unset]) rfl rfl ?_
  have ti5 := own_tn i5
  have hs6 : (fun i => Value.int (own_f0 i)) i5.toNatClampNeg = .int (0 : Int32) := by show Value.int (own_f0 i5.toNatClampNeg) = .int (0 : Int32); simp [own_f0]
  refine ow_aloadN C A5 d4_15 rfl rfl rfl ?_
  refine ow_getF C A5 tw_15 Via.refl xS1 d4_16 rfl ?_
  intro T7 A8
  refine ow_iload C A8 d4_19 rfl rfl ?_
  refine ow_ialoadF C A8 yS2 ⟨own_nlt32 (by show ¬ (i5.toInt < 0); omega), own_lt32 (by show i5.toInt < 1024; omega)⟩ (v := (.int (0 : Int32))) hs6 d4_21 rfl ?_
  refine ow_if_eq C A8 d4_22 (by decide) (pcY := 67) (by decide) (pcN := 25) rfl (fun _ => ?_) (fun zq => absurd (by decide) zq)
  refine ow_ldc2 C A8 tw_31 d4_67 rfl ?_
  refine ow_lreturn C A8 rfl d4_70 (by decide) (by decide) ?_
  exact ⟨rfl, rfl⟩
set_option maxRecDepth 65536 in
set_option maxHeartbeats 40000000 in
theorem rm_num1 (l : Launch) (Z : State) (a0 : Array Value) (hw : ∀ d ∈ tables_1, d.before a0 Z = true) (a kA nA sA : Addr) (c1 c2 c3 : ClassId) (k0 n0 : Int64) (p0 : Nat) (q : Int64) (h0 : Heap) (O : Flds Z h0 a kA nA sA 1) (O2 : Arrs Z h0 kA nA sA c1 c2 c3 [(.long k0)] [(.long n0)] (own_f1 p0)) (hk_0 : ¬ (k0 = q)) (cs : List Jvm.Cond) :
    OwnCtr l Z (⟨"com/example/ratebook/ratebook/journal/RecentKeys", "number", "(J)J"⟩ : MethodName) prog_11_method_3_code 6 (some .long) rms #[(.ref a), (.long q)] h0 [] (QJ (-1) h0) cs := by
  refine ow_ctr pn_4 hw (Ls := #[.val (.ref a), .val (.long q), .second, .unset, .unset, .unset]) (fun m => by first | (simp [entryFrame, mkF, argsToLocals, Value.category]; done) | rfl) ?_
  intro p e s m below meth c T0 C A0
  obtain ⟨xE1, xK1, xN1, xS1, xZ1⟩ := O
  obtain ⟨yK2, yN2, yS2⟩ := O2
  refine ow_aloadN C A0 d4_0 rfl rfl rfl ?_
  refine ow_getF C A0 tw_15 Via.refl xS1 d4_1 rfl ?_
  intro T3 A4
  refine ow_alenF C A4 yS2 d4_4 rfl ?_
  refine ow_iconst C A4 d4_5 (v := 1) rfl rfl ?_
  refine ow_isub C A4 d4_6 rfl ?_
  show OwnWP _ _ _ _ _ _ _ _ _ T3 (mkF m 7 #[.val (.ref a), .val (.long q), .second, .unset, .unset, .unset] [(.int (1023 : Int32))])
  refine ow_istoreN C A4 d4_7 (Ls' := #[.val (.ref a), .val (.long q), .second, .val (.int (1023 : Int32)), .unset, .unset]) rfl rfl ?_
  refine ow_lloadN C A4 d4_8 rfl rfl ?_
  refine ow_iloadN C A4 d4_9 rfl rfl ?_
  refine ow_callS C A4 (argsL := [(.long q), (.int (1023 : Int32))]) (rm_so l Z a0 hw q (1023 : Int32) h0 []) tw_27 tw_28 tw_3 tw_29 (by decide) all0 (by decide) (by decide) (ck' := 0) (sk' := 0) rfl rfl (by decide) (by decide) rfl (lenOf pd_0 rfl) (S := []) rfl (W := 0) (Nat.le_of_eq rfl) d4_10 rfl ?_
  intro T5 v5 K5 hQ5 A5
  obtain ⟨rfl, ee5⟩ := hQ5
  rw [ee5] at A5 K5
  show OwnWP _ _ _ _ _ _ _ _ _ T5 (mkF m 13 #[.val (.ref a), .val (.long q), .second, .val (.int (1023 : Int32)), .unset, .unset] [(.int (own_slot q (1023 : Int32)))])
  have bi5 := own_sb q
  obtain ⟨i5, hi5⟩ : ∃ z, z = own_slot q (1023 : Int32) := ⟨_, rfl⟩
  rw [← hi5] at bi5 ⊢
  have li5 := bi5.1
  have ri5 := bi5.2
  refine ow_istore C A5 d4_13 (Ls' := #[.val (.ref a), .val (.long q), .second, .val (.int (1023 : Int32)), .val (.int i5), .unset]) rfl rfl ?_
  have ti5 := own_tn i5
  by_cases hp6 : i5.toNatClampNeg = p0
  · have hp_i5 := hp6
    have hs7 : (fun i => Value.int (own_f1 p0 i)) i5.toNatClampNeg = .int (1 : Int32) := by show Value.int (own_f1 p0 i5.toNatClampNeg) = .int (1 : Int32); rw [hp6]; simp [own_f1]
    refine ow_aloadN C A5 d4_15 rfl rfl rfl ?_
    refine ow_getF C A5 tw_15 Via.refl xS1 d4_16 rfl ?_
    intro T8 A9
    refine ow_iload C A9 d4_19 rfl rfl ?_
    refine ow_ialoadF C A9 yS2 ⟨own_nlt32 (by show ¬ (i5.toInt < 0); omega), own_lt32 (by show i5.toInt < 1024; omega)⟩ (v := (.int (1 : Int32))) hs7 d4_21 rfl ?_
    refine ow_if_eq C A9 d4_22 (by decide) (pcY := 67) (by decide) (pcN := 25) rfl (fun zq => absurd zq (by decide)) (fun _ => ?_)
    refine ow_aloadN C A9 d4_25 rfl rfl rfl ?_
    refine ow_getF C A9 tw_15 Via.refl xS1 d4_26 rfl ?_
    intro T10 A11
    refine ow_iload C A11 d4_29 rfl rfl ?_
    refine ow_ialoadF C A11 yS2 ⟨own_nlt32 (by show ¬ (i5.toInt < 0); omega), own_lt32 (by show i5.toInt < 1024; omega)⟩ (v := (.int (1 : Int32))) hs7 d4_31 rfl ?_
    refine ow_iconst C A11 d4_32 (v := 1) rfl rfl ?_
    refine ow_isub C A11 d4_33 rfl ?_
    show OwnWP _ _ _ _ _ _ _ _ _ T10 (mkF m 34 #[.val (.ref a), .val (.long q), .second, .val (.int (1023 : Int32)), .val (.int i5), .unset] [(.int (0 : Int32))])
    refine ow_istore C A11 d4_34 (Ls' := #[.val (.ref a), .val (.long q), .second, .val (.int (1023 : Int32)), .val (.int i5), .val (.int (0 : Int32))]) rfl rfl ?_
    refine ow_aloadN C A11 d4_36 rfl rfl rfl ?_
    refine ow_getF C A11 tw_10 Via.refl xK1 d4_37 rfl ?_
    intro T12 A13
    refine ow_iload C A13 d4_40 rfl rfl ?_
    refine ow_laload C A13 yK2 ⟨by decide, by decide⟩ (v := (.long k0)) rfl d4_42 rfl ?_
    refine ow_lloadN C A13 d4_43 rfl rfl ?_
    refine ow_lcmp_ne C A13 d4_44 rfl d4_45 (by decide) (pcY := 56) (by decide) (pcN := 48) rfl (fun _ => ?_) (fun zq => absurd zq (hk_0))
    refine ow_iload C A13 d4_56 rfl rfl ?_
    refine ow_iconst C A13 d4_58 (v := 1) rfl rfl ?_
    refine ow_iadd C A13 d4_59 rfl ?_
    refine ow_iloadN C A13 d4_60 rfl rfl ?_
    refine ow_iand C A13 d4_61 rfl ?_
    refine ow_istore C A13 d4_62 (Ls' := #[.val (.ref a), .val (.long q), .second, .val (.int (1023 : Int32)), .val (.int ((i5 + (1 : Int32)) &&& (1023 : Int32))), .val (.int (0 : Int32))]) rfl rfl ?_
    refine ow_goto C A13 d4_64 (by decide) (pc' := 15) (by decide) ?_
    have ei14 := own_nx i5 ⟨by omega, by omega⟩
    obtain ⟨i14, hi14⟩ : ∃ z, z = ((i5 + (1 : Int32)) &&& (1023 : Int32)) := ⟨_, rfl⟩
    rw [← hi14] at ei14 ⊢
    have ti14 := own_tn i14
    have hv15 : ¬ (i14.toNatClampNeg = p0) := by have z1 := hp_i5; have z2 := own_tn i5; omega
    have hs16 : (fun i => Value.int (own_f1 p0 i)) i14.toNatClampNeg = .int (0 : Int32) := by show Value.int (own_f1 p0 i14.toNatClampNeg) = .int (0 : Int32); simp [own_f1, hv15]
    refine ow_aloadN C A13 d4_15 rfl rfl rfl ?_
    refine ow_getF C A13 tw_15 Via.refl xS1 d4_16 rfl ?_
    intro T17 A18
    refine ow_iload C A18 d4_19 rfl rfl ?_
    refine ow_ialoadF C A18 yS2 ⟨own_nlt32 (by show ¬ (i14.toInt < 0); omega), own_lt32 (by show i14.toInt < 1024; omega)⟩ (v := (.int (0 : Int32))) hs16 d4_21 rfl ?_
    refine ow_if_eq C A18 d4_22 (by decide) (pcY := 67) (by decide) (pcN := 25) rfl (fun _ => ?_) (fun zq => absurd (by decide) zq)
    refine ow_ldc2 C A18 tw_31 d4_67 rfl ?_
    refine ow_lreturn C A18 rfl d4_70 (by decide) (by decide) ?_
    exact ⟨rfl, rfl⟩
  · skip
    have hs19 : (fun i => Value.int (own_f1 p0 i)) i5.toNatClampNeg = .int (0 : Int32) := by show Value.int (own_f1 p0 i5.toNatClampNeg) = .int (0 : Int32); simp [own_f1, hp6]
    refine ow_aloadN C A5 d4_15 rfl rfl rfl ?_
    refine ow_getF C A5 tw_15 Via.refl xS1 d4_16 rfl ?_
    intro T20 A21
    refine ow_iload C A21 d4_19 rfl rfl ?_
    refine ow_ialoadF C A21 yS2 ⟨own_nlt32 (by show ¬ (i5.toInt < 0); omega), own_lt32 (by show i5.toInt < 1024; omega)⟩ (v := (.int (0 : Int32))) hs19 d4_21 rfl ?_
    refine ow_if_eq C A21 d4_22 (by decide) (pcY := 67) (by decide) (pcN := 25) rfl (fun _ => ?_) (fun zq => absurd (by decide) zq)
    refine ow_ldc2 C A21 tw_31 d4_67 rfl ?_
    refine ow_lreturn C A21 rfl d4_70 (by decide) (by decide) ?_
    exact ⟨rfl, rfl⟩
set_option maxRecDepth 65536 in
set_option maxHeartbeats 40000000 in
theorem rm_num2 (l : Launch) (Z : State) (a0 : Array Value) (hw : ∀ d ∈ tables_1, d.before a0 Z = true) (a kA nA sA : Addr) (c1 c2 c3 : ClassId) (k0 n0 : Int64) (k1 n1 : Int64) (p0 : Nat) (p1 : Nat) (q : Int64) (h0 : Heap) (O : Flds Z h0 a kA nA sA 2) (O2 : Arrs Z h0 kA nA sA c1 c2 c3 [(.long k0), (.long k1)] [(.long n0), (.long n1)] (own_f2 p0 p1)) (hd_0_1 : ¬ (p0 = p1)) (hk_0 : ¬ (k0 = q)) (hk_1 : ¬ (k1 = q)) (cs : List Jvm.Cond) :
    OwnCtr l Z (⟨"com/example/ratebook/ratebook/journal/RecentKeys", "number", "(J)J"⟩ : MethodName) prog_11_method_3_code 6 (some .long) rms #[(.ref a), (.long q)] h0 [] (QJ (-1) h0) cs := by
  refine ow_ctr pn_4 hw (Ls := #[.val (.ref a), .val (.long q), .second, .unset, .unset, .unset]) (fun m => by first | (simp [entryFrame, mkF, argsToLocals, Value.category]; done) | rfl) ?_
  intro p e s m below meth c T0 C A0
  obtain ⟨xE1, xK1, xN1, xS1, xZ1⟩ := O
  obtain ⟨yK2, yN2, yS2⟩ := O2
  refine ow_aloadN C A0 d4_0 rfl rfl rfl ?_
  refine ow_getF C A0 tw_15 Via.refl xS1 d4_1 rfl ?_
  intro T3 A4
  refine ow_alenF C A4 yS2 d4_4 rfl ?_
  refine ow_iconst C A4 d4_5 (v := 1) rfl rfl ?_
  refine ow_isub C A4 d4_6 rfl ?_
  show OwnWP _ _ _ _ _ _ _ _ _ T3 (mkF m 7 #[.val (.ref a), .val (.long q), .second, .unset, .unset, .unset] [(.int (1023 : Int32))])
  refine ow_istoreN C A4 d4_7 (Ls' := #[.val (.ref a), .val (.long q), .second, .val (.int (1023 : Int32)), .unset, .unset]) rfl rfl ?_
  refine ow_lloadN C A4 d4_8 rfl rfl ?_
  refine ow_iloadN C A4 d4_9 rfl rfl ?_
  refine ow_callS C A4 (argsL := [(.long q), (.int (1023 : Int32))]) (rm_so l Z a0 hw q (1023 : Int32) h0 []) tw_27 tw_28 tw_3 tw_29 (by decide) all0 (by decide) (by decide) (ck' := 0) (sk' := 0) rfl rfl (by decide) (by decide) rfl (lenOf pd_0 rfl) (S := []) rfl (W := 0) (Nat.le_of_eq rfl) d4_10 rfl ?_
  intro T5 v5 K5 hQ5 A5
  obtain ⟨rfl, ee5⟩ := hQ5
  rw [ee5] at A5 K5
  show OwnWP _ _ _ _ _ _ _ _ _ T5 (mkF m 13 #[.val (.ref a), .val (.long q), .second, .val (.int (1023 : Int32)), .unset, .unset] [(.int (own_slot q (1023 : Int32)))])
  have bi5 := own_sb q
  obtain ⟨i5, hi5⟩ : ∃ z, z = own_slot q (1023 : Int32) := ⟨_, rfl⟩
  rw [← hi5] at bi5 ⊢
  have li5 := bi5.1
  have ri5 := bi5.2
  refine ow_istore C A5 d4_13 (Ls' := #[.val (.ref a), .val (.long q), .second, .val (.int (1023 : Int32)), .val (.int i5), .unset]) rfl rfl ?_
  have ti5 := own_tn i5
  by_cases hp6 : i5.toNatClampNeg = p0
  · have hp_i5 := hp6
    have hs7 : (fun i => Value.int (own_f2 p0 p1 i)) i5.toNatClampNeg = .int (1 : Int32) := by show Value.int (own_f2 p0 p1 i5.toNatClampNeg) = .int (1 : Int32); rw [hp6]; simp [own_f2, hd_0_1]
    refine ow_aloadN C A5 d4_15 rfl rfl rfl ?_
    refine ow_getF C A5 tw_15 Via.refl xS1 d4_16 rfl ?_
    intro T8 A9
    refine ow_iload C A9 d4_19 rfl rfl ?_
    refine ow_ialoadF C A9 yS2 ⟨own_nlt32 (by show ¬ (i5.toInt < 0); omega), own_lt32 (by show i5.toInt < 1024; omega)⟩ (v := (.int (1 : Int32))) hs7 d4_21 rfl ?_
    refine ow_if_eq C A9 d4_22 (by decide) (pcY := 67) (by decide) (pcN := 25) rfl (fun zq => absurd zq (by decide)) (fun _ => ?_)
    refine ow_aloadN C A9 d4_25 rfl rfl rfl ?_
    refine ow_getF C A9 tw_15 Via.refl xS1 d4_26 rfl ?_
    intro T10 A11
    refine ow_iload C A11 d4_29 rfl rfl ?_
    refine ow_ialoadF C A11 yS2 ⟨own_nlt32 (by show ¬ (i5.toInt < 0); omega), own_lt32 (by show i5.toInt < 1024; omega)⟩ (v := (.int (1 : Int32))) hs7 d4_31 rfl ?_
    refine ow_iconst C A11 d4_32 (v := 1) rfl rfl ?_
    refine ow_isub C A11 d4_33 rfl ?_
    show OwnWP _ _ _ _ _ _ _ _ _ T10 (mkF m 34 #[.val (.ref a), .val (.long q), .second, .val (.int (1023 : Int32)), .val (.int i5), .unset] [(.int (0 : Int32))])
    refine ow_istore C A11 d4_34 (Ls' := #[.val (.ref a), .val (.long q), .second, .val (.int (1023 : Int32)), .val (.int i5), .val (.int (0 : Int32))]) rfl rfl ?_
    refine ow_aloadN C A11 d4_36 rfl rfl rfl ?_
    refine ow_getF C A11 tw_10 Via.refl xK1 d4_37 rfl ?_
    intro T12 A13
    refine ow_iload C A13 d4_40 rfl rfl ?_
    refine ow_laload C A13 yK2 ⟨by decide, by decide⟩ (v := (.long k0)) rfl d4_42 rfl ?_
    refine ow_lloadN C A13 d4_43 rfl rfl ?_
    refine ow_lcmp_ne C A13 d4_44 rfl d4_45 (by decide) (pcY := 56) (by decide) (pcN := 48) rfl (fun _ => ?_) (fun zq => absurd zq (hk_0))
    refine ow_iload C A13 d4_56 rfl rfl ?_
    refine ow_iconst C A13 d4_58 (v := 1) rfl rfl ?_
    refine ow_iadd C A13 d4_59 rfl ?_
    refine ow_iloadN C A13 d4_60 rfl rfl ?_
    refine ow_iand C A13 d4_61 rfl ?_
    refine ow_istore C A13 d4_62 (Ls' := #[.val (.ref a), .val (.long q), .second, .val (.int (1023 : Int32)), .val (.int ((i5 + (1 : Int32)) &&& (1023 : Int32))), .val (.int (0 : Int32))]) rfl rfl ?_
    refine ow_goto C A13 d4_64 (by decide) (pc' := 15) (by decide) ?_
    have ei14 := own_nx i5 ⟨by omega, by omega⟩
    obtain ⟨i14, hi14⟩ : ∃ z, z = ((i5 + (1 : Int32)) &&& (1023 : Int32)) := ⟨_, rfl⟩
    rw [← hi14] at ei14 ⊢
    have ti14 := own_tn i14
    have hv15 : ¬ (i14.toNatClampNeg = p0) := by have z1 := hp_i5; have z2 := own_tn i5; omega
    by_cases hp16 : i14.toNatClampNeg = p1
    · have hp_i14 := hp16
      have hs17 : (fun i => Value.int (own_f2 p0 p1 i)) i14.toNatClampNeg = .int (2 : Int32) := by show Value.int (own_f2 p0 p1 i14.toNatClampNeg) = .int (2 : Int32); rw [hp16]; simp [own_f2]
      refine ow_aloadN C A13 d4_15 rfl rfl rfl ?_
      refine ow_getF C A13 tw_15 Via.refl xS1 d4_16 rfl ?_
      intro T18 A19
      refine ow_iload C A19 d4_19 rfl rfl ?_
      refine ow_ialoadF C A19 yS2 ⟨own_nlt32 (by show ¬ (i14.toInt < 0); omega), own_lt32 (by show i14.toInt < 1024; omega)⟩ (v := (.int (2 : Int32))) hs17 d4_21 rfl ?_
      refine ow_if_eq C A19 d4_22 (by decide) (pcY := 67) (by decide) (pcN := 25) rfl (fun zq => absurd zq (by decide)) (fun _ => ?_)
      refine ow_aloadN C A19 d4_25 rfl rfl rfl ?_
      refine ow_getF C A19 tw_15 Via.refl xS1 d4_26 rfl ?_
      intro T20 A21
      refine ow_iload C A21 d4_29 rfl rfl ?_
      refine ow_ialoadF C A21 yS2 ⟨own_nlt32 (by show ¬ (i14.toInt < 0); omega), own_lt32 (by show i14.toInt < 1024; omega)⟩ (v := (.int (2 : Int32))) hs17 d4_31 rfl ?_
      refine ow_iconst C A21 d4_32 (v := 1) rfl rfl ?_
      refine ow_isub C A21 d4_33 rfl ?_
      show OwnWP _ _ _ _ _ _ _ _ _ T20 (mkF m 34 #[.val (.ref a), .val (.long q), .second, .val (.int (1023 : Int32)), .val (.int i14), .val (.int (0 : Int32))] [(.int (1 : Int32))])
      refine ow_istore C A21 d4_34 (Ls' := #[.val (.ref a), .val (.long q), .second, .val (.int (1023 : Int32)), .val (.int i14), .val (.int (1 : Int32))]) rfl rfl ?_
      refine ow_aloadN C A21 d4_36 rfl rfl rfl ?_
      refine ow_getF C A21 tw_10 Via.refl xK1 d4_37 rfl ?_
      intro T22 A23
      refine ow_iload C A23 d4_40 rfl rfl ?_
      refine ow_laload C A23 yK2 ⟨by decide, by decide⟩ (v := (.long k1)) rfl d4_42 rfl ?_
      refine ow_lloadN C A23 d4_43 rfl rfl ?_
      refine ow_lcmp_ne C A23 d4_44 rfl d4_45 (by decide) (pcY := 56) (by decide) (pcN := 48) rfl (fun _ => ?_) (fun zq => absurd zq (hk_1))
      refine ow_iload C A23 d4_56 rfl rfl ?_
      refine ow_iconst C A23 d4_58 (v := 1) rfl rfl ?_
      refine ow_iadd C A23 d4_59 rfl ?_
      refine ow_iloadN C A23 d4_60 rfl rfl ?_
      refine ow_iand C A23 d4_61 rfl ?_
      refine ow_istore C A23 d4_62 (Ls' := #[.val (.ref a), .val (.long q), .second, .val (.int (1023 : Int32)), .val (.int ((i14 + (1 : Int32)) &&& (1023 : Int32))), .val (.int (1 : Int32))]) rfl rfl ?_
      refine ow_goto C A23 d4_64 (by decide) (pc' := 15) (by decide) ?_
      have ei24 := own_nx i14 ⟨by omega, by omega⟩
      obtain ⟨i24, hi24⟩ : ∃ z, z = ((i14 + (1 : Int32)) &&& (1023 : Int32)) := ⟨_, rfl⟩
      rw [← hi24] at ei24 ⊢
      have ti24 := own_tn i24
      have hv25 : ¬ (i24.toNatClampNeg = p0) := by have z1 := hp_i5; have z2 := own_tn i5; omega
      have hv26 : ¬ (i24.toNatClampNeg = p1) := by have z1 := hp_i14; have z2 := own_tn i14; omega
      have hs27 : (fun i => Value.int (own_f2 p0 p1 i)) i24.toNatClampNeg = .int (0 : Int32) := by show Value.int (own_f2 p0 p1 i24.toNatClampNeg) = .int (0 : Int32); simp [own_f2, hv25, hv26]
      refine ow_aloadN C A23 d4_15 rfl rfl rfl ?_
      refine ow_getF C A23 tw_15 Via.refl xS1 d4_16 rfl ?_
      intro T28 A29
      refine ow_iload C A29 d4_19 rfl rfl ?_
      refine ow_ialoadF C A29 yS2 ⟨own_nlt32 (by show ¬ (i24.toInt < 0); omega), own_lt32 (by show i24.toInt < 1024; omega)⟩ (v := (.int (0 : Int32))) hs27 d4_21 rfl ?_
      refine ow_if_eq C A29 d4_22 (by decide) (pcY := 67) (by decide) (pcN := 25) rfl (fun _ => ?_) (fun zq => absurd (by decide) zq)
      refine ow_ldc2 C A29 tw_31 d4_67 rfl ?_
      refine ow_lreturn C A29 rfl d4_70 (by decide) (by decide) ?_
      exact ⟨rfl, rfl⟩
    · skip
      have hs30 : (fun i => Value.int (own_f2 p0 p1 i)) i14.toNatClampNeg = .int (0 : Int32) := by show Value.int (own_f2 p0 p1 i14.toNatClampNeg) = .int (0 : Int32); simp [own_f2, hv15, hp16]
      refine ow_aloadN C A13 d4_15 rfl rfl rfl ?_
      refine ow_getF C A13 tw_15 Via.refl xS1 d4_16 rfl ?_
      intro T31 A32
      refine ow_iload C A32 d4_19 rfl rfl ?_
      refine ow_ialoadF C A32 yS2 ⟨own_nlt32 (by show ¬ (i14.toInt < 0); omega), own_lt32 (by show i14.toInt < 1024; omega)⟩ (v := (.int (0 : Int32))) hs30 d4_21 rfl ?_
      refine ow_if_eq C A32 d4_22 (by decide) (pcY := 67) (by decide) (pcN := 25) rfl (fun _ => ?_) (fun zq => absurd (by decide) zq)
      refine ow_ldc2 C A32 tw_31 d4_67 rfl ?_
      refine ow_lreturn C A32 rfl d4_70 (by decide) (by decide) ?_
      exact ⟨rfl, rfl⟩
  · skip
    by_cases hp33 : i5.toNatClampNeg = p1
    · have hp_i5 := hp33
      have hs34 : (fun i => Value.int (own_f2 p0 p1 i)) i5.toNatClampNeg = .int (2 : Int32) := by show Value.int (own_f2 p0 p1 i5.toNatClampNeg) = .int (2 : Int32); rw [hp33]; simp [own_f2]
      refine ow_aloadN C A5 d4_15 rfl rfl rfl ?_
      refine ow_getF C A5 tw_15 Via.refl xS1 d4_16 rfl ?_
      intro T35 A36
      refine ow_iload C A36 d4_19 rfl rfl ?_
      refine ow_ialoadF C A36 yS2 ⟨own_nlt32 (by show ¬ (i5.toInt < 0); omega), own_lt32 (by show i5.toInt < 1024; omega)⟩ (v := (.int (2 : Int32))) hs34 d4_21 rfl ?_
      refine ow_if_eq C A36 d4_22 (by decide) (pcY := 67) (by decide) (pcN := 25) rfl (fun zq => absurd zq (by decide)) (fun _ => ?_)
      refine ow_aloadN C A36 d4_25 rfl rfl rfl ?_
      refine ow_getF C A36 tw_15 Via.refl xS1 d4_26 rfl ?_
      intro T37 A38
      refine ow_iload C A38 d4_29 rfl rfl ?_
      refine ow_ialoadF C A38 yS2 ⟨own_nlt32 (by show ¬ (i5.toInt < 0); omega), own_lt32 (by show i5.toInt < 1024; omega)⟩ (v := (.int (2 : Int32))) hs34 d4_31 rfl ?_
      refine ow_iconst C A38 d4_32 (v := 1) rfl rfl ?_
      refine ow_isub C A38 d4_33 rfl ?_
      show OwnWP _ _ _ _ _ _ _ _ _ T37 (mkF m 34 #[.val (.ref a), .val (.long q), .second, .val (.int (1023 : Int32)), .val (.int i5), .unset] [(.int (1 : Int32))])
      refine ow_istore C A38 d4_34 (Ls' := #[.val (.ref a), .val (.long q), .second, .val (.int (1023 : Int32)), .val (.int i5), .val (.int (1 : Int32))]) rfl rfl ?_
      refine ow_aloadN C A38 d4_36 rfl rfl rfl ?_
      refine ow_getF C A38 tw_10 Via.refl xK1 d4_37 rfl ?_
      intro T39 A40
      refine ow_iload C A40 d4_40 rfl rfl ?_
      refine ow_laload C A40 yK2 ⟨by decide, by decide⟩ (v := (.long k1)) rfl d4_42 rfl ?_
      refine ow_lloadN C A40 d4_43 rfl rfl ?_
      refine ow_lcmp_ne C A40 d4_44 rfl d4_45 (by decide) (pcY := 56) (by decide) (pcN := 48) rfl (fun _ => ?_) (fun zq => absurd zq (hk_1))
      refine ow_iload C A40 d4_56 rfl rfl ?_
      refine ow_iconst C A40 d4_58 (v := 1) rfl rfl ?_
      refine ow_iadd C A40 d4_59 rfl ?_
      refine ow_iloadN C A40 d4_60 rfl rfl ?_
      refine ow_iand C A40 d4_61 rfl ?_
      refine ow_istore C A40 d4_62 (Ls' := #[.val (.ref a), .val (.long q), .second, .val (.int (1023 : Int32)), .val (.int ((i5 + (1 : Int32)) &&& (1023 : Int32))), .val (.int (1 : Int32))]) rfl rfl ?_
      refine ow_goto C A40 d4_64 (by decide) (pc' := 15) (by decide) ?_
      have ei41 := own_nx i5 ⟨by omega, by omega⟩
      obtain ⟨i41, hi41⟩ : ∃ z, z = ((i5 + (1 : Int32)) &&& (1023 : Int32)) := ⟨_, rfl⟩
      rw [← hi41] at ei41 ⊢
      have ti41 := own_tn i41
      have hv42 : ¬ (i41.toNatClampNeg = p1) := by have z1 := hp_i5; have z2 := own_tn i5; omega
      by_cases hp43 : i41.toNatClampNeg = p0
      · have hp_i41 := hp43
        have hs44 : (fun i => Value.int (own_f2 p0 p1 i)) i41.toNatClampNeg = .int (1 : Int32) := by show Value.int (own_f2 p0 p1 i41.toNatClampNeg) = .int (1 : Int32); rw [hp43]; simp [own_f2, hd_0_1]
        refine ow_aloadN C A40 d4_15 rfl rfl rfl ?_
        refine ow_getF C A40 tw_15 Via.refl xS1 d4_16 rfl ?_
        intro T45 A46
        refine ow_iload C A46 d4_19 rfl rfl ?_
        refine ow_ialoadF C A46 yS2 ⟨own_nlt32 (by show ¬ (i41.toInt < 0); omega), own_lt32 (by show i41.toInt < 1024; omega)⟩ (v := (.int (1 : Int32))) hs44 d4_21 rfl ?_
        refine ow_if_eq C A46 d4_22 (by decide) (pcY := 67) (by decide) (pcN := 25) rfl (fun zq => absurd zq (by decide)) (fun _ => ?_)
        refine ow_aloadN C A46 d4_25 rfl rfl rfl ?_
        refine ow_getF C A46 tw_15 Via.refl xS1 d4_26 rfl ?_
        intro T47 A48
        refine ow_iload C A48 d4_29 rfl rfl ?_
        refine ow_ialoadF C A48 yS2 ⟨own_nlt32 (by show ¬ (i41.toInt < 0); omega), own_lt32 (by show i41.toInt < 1024; omega)⟩ (v := (.int (1 : Int32))) hs44 d4_31 rfl ?_
        refine ow_iconst C A48 d4_32 (v := 1) rfl rfl ?_
        refine ow_isub C A48 d4_33 rfl ?_
        show OwnWP _ _ _ _ _ _ _ _ _ T47 (mkF m 34 #[.val (.ref a), .val (.long q), .second, .val (.int (1023 : Int32)), .val (.int i41), .val (.int (1 : Int32))] [(.int (0 : Int32))])
        refine ow_istore C A48 d4_34 (Ls' := #[.val (.ref a), .val (.long q), .second, .val (.int (1023 : Int32)), .val (.int i41), .val (.int (0 : Int32))]) rfl rfl ?_
        refine ow_aloadN C A48 d4_36 rfl rfl rfl ?_
        refine ow_getF C A48 tw_10 Via.refl xK1 d4_37 rfl ?_
        intro T49 A50
        refine ow_iload C A50 d4_40 rfl rfl ?_
        refine ow_laload C A50 yK2 ⟨by decide, by decide⟩ (v := (.long k0)) rfl d4_42 rfl ?_
        refine ow_lloadN C A50 d4_43 rfl rfl ?_
        refine ow_lcmp_ne C A50 d4_44 rfl d4_45 (by decide) (pcY := 56) (by decide) (pcN := 48) rfl (fun _ => ?_) (fun zq => absurd zq (hk_0))
        refine ow_iload C A50 d4_56 rfl rfl ?_
        refine ow_iconst C A50 d4_58 (v := 1) rfl rfl ?_
        refine ow_iadd C A50 d4_59 rfl ?_
        refine ow_iloadN C A50 d4_60 rfl rfl ?_
        refine ow_iand C A50 d4_61 rfl ?_
        refine ow_istore C A50 d4_62 (Ls' := #[.val (.ref a), .val (.long q), .second, .val (.int (1023 : Int32)), .val (.int ((i41 + (1 : Int32)) &&& (1023 : Int32))), .val (.int (0 : Int32))]) rfl rfl ?_
        refine ow_goto C A50 d4_64 (by decide) (pc' := 15) (by decide) ?_
        have ei51 := own_nx i41 ⟨by omega, by omega⟩
        obtain ⟨i51, hi51⟩ : ∃ z, z = ((i41 + (1 : Int32)) &&& (1023 : Int32)) := ⟨_, rfl⟩
        rw [← hi51] at ei51 ⊢
        have ti51 := own_tn i51
        have hv52 : ¬ (i51.toNatClampNeg = p0) := by have z1 := hp_i41; have z2 := own_tn i41; omega
        have hv53 : ¬ (i51.toNatClampNeg = p1) := by have z1 := hp_i5; have z2 := own_tn i5; omega
        have hs54 : (fun i => Value.int (own_f2 p0 p1 i)) i51.toNatClampNeg = .int (0 : Int32) := by show Value.int (own_f2 p0 p1 i51.toNatClampNeg) = .int (0 : Int32); simp [own_f2, hv52, hv53]
        refine ow_aloadN C A50 d4_15 rfl rfl rfl ?_
        refine ow_getF C A50 tw_15 Via.refl xS1 d4_16 rfl ?_
        intro T55 A56
        refine ow_iload C A56 d4_19 rfl rfl ?_
        refine ow_ialoadF C A56 yS2 ⟨own_nlt32 (by show ¬ (i51.toInt < 0); omega), own_lt32 (by show i51.toInt < 1024; omega)⟩ (v := (.int (0 : Int32))) hs54 d4_21 rfl ?_
        refine ow_if_eq C A56 d4_22 (by decide) (pcY := 67) (by decide) (pcN := 25) rfl (fun _ => ?_) (fun zq => absurd (by decide) zq)
        refine ow_ldc2 C A56 tw_31 d4_67 rfl ?_
        refine ow_lreturn C A56 rfl d4_70 (by decide) (by decide) ?_
        exact ⟨rfl, rfl⟩
      · skip
        have hs57 : (fun i => Value.int (own_f2 p0 p1 i)) i41.toNatClampNeg = .int (0 : Int32) := by show Value.int (own_f2 p0 p1 i41.toNatClampNeg) = .int (0 : Int32); simp [own_f2, hp43, hv42]
        refine ow_aloadN C A40 d4_15 rfl rfl rfl ?_
        refine ow_getF C A40 tw_15 Via.refl xS1 d4_16 rfl ?_
        intro T58 A59
        refine ow_iload C A59 d4_19 rfl rfl ?_
        refine ow_ialoadF C A59 yS2 ⟨own_nlt32 (by show ¬ (i41.toInt < 0); omega), own_lt32 (by show i41.toInt < 1024; omega)⟩ (v := (.int (0 : Int32))) hs57 d4_21 rfl ?_
        refine ow_if_eq C A59 d4_22 (by decide) (pcY := 67) (by decide) (pcN := 25) rfl (fun _ => ?_) (fun zq => absurd (by decide) zq)
        refine ow_ldc2 C A59 tw_31 d4_67 rfl ?_
        refine ow_lreturn C A59 rfl d4_70 (by decide) (by decide) ?_
        exact ⟨rfl, rfl⟩
    · skip
      have hs60 : (fun i => Value.int (own_f2 p0 p1 i)) i5.toNatClampNeg = .int (0 : Int32) := by show Value.int (own_f2 p0 p1 i5.toNatClampNeg) = .int (0 : Int32); simp [own_f2, hp6, hp33]
      refine ow_aloadN C A5 d4_15 rfl rfl rfl ?_
      refine ow_getF C A5 tw_15 Via.refl xS1 d4_16 rfl ?_
      intro T61 A62
      refine ow_iload C A62 d4_19 rfl rfl ?_
      refine ow_ialoadF C A62 yS2 ⟨own_nlt32 (by show ¬ (i5.toInt < 0); omega), own_lt32 (by show i5.toInt < 1024; omega)⟩ (v := (.int (0 : Int32))) hs60 d4_21 rfl ?_
      refine ow_if_eq C A62 d4_22 (by decide) (pcY := 67) (by decide) (pcN := 25) rfl (fun _ => ?_) (fun zq => absurd (by decide) zq)
      refine ow_ldc2 C A62 tw_31 d4_67 rfl ?_
      refine ow_lreturn C A62 rfl d4_70 (by decide) (by decide) ?_
      exact ⟨rfl, rfl⟩
set_option maxRecDepth 65536 in
set_option maxHeartbeats 40000000 in
theorem rm_pl0 (l : Launch) (Z : State) (a0 : Array Value) (hw : ∀ d ∈ tables_1, d.before a0 Z = true) (a kA nA sA : Addr) (c1 c2 c3 : ClassId) (k0 n0 : Int64) (h0 : Heap) (O : Flds Z h0 a kA nA sA 1) (O2 : Arrs Z h0 kA nA sA c1 c2 c3 [(.long k0)] [(.long n0)] own_f0) (cs : List Jvm.Cond) :
    OwnCtr l Z (⟨"com/example/ratebook/ratebook/journal/RecentKeys", "place", "(I)V"⟩ : MethodName) prog_11_method_7_code 4 none rms #[(.ref a), (.int (0 : Int32))] h0 [sA] (QP0 Z sA c3) cs := by
  refine ow_ctr pn_6 hw (Ls := #[.val (.ref a), .val (.int (0 : Int32)), .unset, .unset]) (fun m => by first | (simp [entryFrame, mkF, argsToLocals, Value.category]; done) | rfl) ?_
  intro p e s m below meth c T0 C A0
  obtain ⟨xE1, xK1, xN1, xS1, xZ1⟩ := O
  obtain ⟨yK2, yN2, yS2⟩ := O2
  refine ow_aloadN C A0 d6_0 rfl rfl rfl ?_
  refine ow_getF C A0 tw_15 Via.refl xS1 d6_1 rfl ?_
  intro T3 A4
  refine ow_alenF C A4 yS2 d6_4 rfl ?_
  refine ow_iconst C A4 d6_5 (v := 1) rfl rfl ?_
  refine ow_isub C A4 d6_6 rfl ?_
  show OwnWP _ _ _ _ _ _ _ _ _ T3 (mkF m 7 #[.val (.ref a), .val (.int (0 : Int32)), .unset, .unset] [(.int (1023 : Int32))])
  refine ow_istoreN C A4 d6_7 (Ls' := #[.val (.ref a), .val (.int (0 : Int32)), .val (.int (1023 : Int32)), .unset]) rfl rfl ?_
  refine ow_aloadN C A4 d6_8 rfl rfl rfl ?_
  refine ow_getF C A4 tw_10 Via.refl xK1 d6_9 rfl ?_
  intro T5 A6
  refine ow_iloadN C A6 d6_12 rfl rfl ?_
  refine ow_laload C A6 yK2 ⟨by decide, by decide⟩ (v := (.long k0)) rfl d6_13 rfl ?_
  refine ow_iloadN C A6 d6_14 rfl rfl ?_
  refine ow_callS C A6 (argsL := [(.long k0), (.int (1023 : Int32))]) (rm_so l Z a0 hw k0 (1023 : Int32) h0 []) tw_27 tw_28 tw_3 tw_29 (by decide) all0 (by decide) (by decide) (ck' := 0) (sk' := 0) rfl rfl (by decide) (by decide) rfl (lenOf pd_0 rfl) (S := []) rfl (W := 0) (Nat.le_of_eq rfl) d6_15 rfl ?_
  intro T7 v7 K7 hQ7 A7
  obtain ⟨rfl, ee7⟩ := hQ7
  rw [ee7] at A7 K7
  show OwnWP _ _ _ _ _ _ _ _ _ T7 (mkF m 18 #[.val (.ref a), .val (.int (0 : Int32)), .val (.int (1023 : Int32)), .unset] [(.int (own_slot k0 (1023 : Int32)))])
  have bi7 := own_sb k0
  obtain ⟨i7, hi7⟩ : ∃ z, z = own_slot k0 (1023 : Int32) := ⟨_, rfl⟩
  rw [← hi7] at bi7 ⊢
  have li7 := bi7.1
  have ri7 := bi7.2
  refine ow_istoreN C A7 d6_18 (Ls' := #[.val (.ref a), .val (.int (0 : Int32)), .val (.int (1023 : Int32)), .val (.int i7)]) rfl rfl ?_
  have ti7 := own_tn i7
  have hs8 : (fun i => Value.int (own_f0 i)) i7.toNatClampNeg = .int (0 : Int32) := by show Value.int (own_f0 i7.toNatClampNeg) = .int (0 : Int32); simp [own_f0]
  refine ow_aloadN C A7 d6_19 rfl rfl rfl ?_
  refine ow_getF C A7 tw_15 Via.refl xS1 d6_20 rfl ?_
  intro T9 A10
  refine ow_iloadN C A10 d6_23 rfl rfl ?_
  refine ow_ialoadF C A10 yS2 ⟨own_nlt32 (by show ¬ (i7.toInt < 0); omega), own_lt32 (by show i7.toInt < 1024; omega)⟩ (v := (.int (0 : Int32))) hs8 d6_24 rfl ?_
  refine ow_if_eq C A10 d6_25 (by decide) (pcY := 37) (by decide) (pcN := 28) rfl (fun _ => ?_) (fun zq => absurd (by decide) zq)
  refine ow_aloadN C A10 d6_37 rfl rfl rfl ?_
  refine ow_getF C A10 tw_15 Via.refl xS1 d6_38 rfl ?_
  intro T11 A12
  refine ow_iloadN C A12 d6_41 rfl rfl ?_
  refine ow_iloadN C A12 d6_42 rfl rfl ?_
  refine ow_iconst C A12 d6_43 (v := 1) rfl rfl ?_
  refine ow_iadd C A12 d6_44 rfl ?_
  show OwnWP _ _ _ _ _ _ _ _ _ T11 (mkF m 45 #[.val (.ref a), .val (.int (0 : Int32)), .val (.int (1023 : Int32)), .val (.int i7)] [(.int (1 : Int32)), (.int i7), (.ref sA)])
  refine ow_iastoreF C A12 yS2 ⟨own_nlt32 (by show ¬ (i7.toInt < 0); omega), own_lt32 (by show i7.toInt < 1024; omega)⟩ (Or.inl (List.mem_of_getElem? (i := 0) rfl)) d6_45 rfl ?_
  intro T13 h15 W16 V17 A14
  have V18 : Arf Z h15 sA c3 .int (1024 : Int32) (fun i => .int (own_f1 i7.toNatClampNeg i)) := V17.re (fun i _ => by show Value.int (own_f1 i7.toNatClampNeg i) = if i = i7.toNatClampNeg then Value.int 1 else Value.int (own_f0 i); by_cases u : i = i7.toNatClampNeg <;> simp [own_f1, own_f0, u])
  refine ow_return C A14 rfl d6_46 (by decide) (by decide) ?_
  exact ⟨rfl, i7.toNatClampNeg, V18⟩
set_option maxRecDepth 65536 in
set_option maxHeartbeats 40000000 in
theorem rm_pl1 (l : Launch) (Z : State) (a0 : Array Value) (hw : ∀ d ∈ tables_1, d.before a0 Z = true) (a kA nA sA : Addr) (c1 c2 c3 : ClassId) (k0 n0 : Int64) (k1 n1 : Int64) (p0 : Nat) (h0 : Heap) (O : Flds Z h0 a kA nA sA 2) (O2 : Arrs Z h0 kA nA sA c1 c2 c3 [(.long k0), (.long k1)] [(.long n0), (.long n1)] (own_f1 p0)) (cs : List Jvm.Cond) :
    OwnCtr l Z (⟨"com/example/ratebook/ratebook/journal/RecentKeys", "place", "(I)V"⟩ : MethodName) prog_11_method_7_code 4 none rms #[(.ref a), (.int (1 : Int32))] h0 [sA] (QP1 Z sA c3 p0) cs := by
  refine ow_ctr pn_6 hw (Ls := #[.val (.ref a), .val (.int (1 : Int32)), .unset, .unset]) (fun m => by first | (simp [entryFrame, mkF, argsToLocals, Value.category]; done) | rfl) ?_
  intro p e s m below meth c T0 C A0
  obtain ⟨xE1, xK1, xN1, xS1, xZ1⟩ := O
  obtain ⟨yK2, yN2, yS2⟩ := O2
  refine ow_aloadN C A0 d6_0 rfl rfl rfl ?_
  refine ow_getF C A0 tw_15 Via.refl xS1 d6_1 rfl ?_
  intro T3 A4
  refine ow_alenF C A4 yS2 d6_4 rfl ?_
  refine ow_iconst C A4 d6_5 (v := 1) rfl rfl ?_
  refine ow_isub C A4 d6_6 rfl ?_
  show OwnWP _ _ _ _ _ _ _ _ _ T3 (mkF m 7 #[.val (.ref a), .val (.int (1 : Int32)), .unset, .unset] [(.int (1023 : Int32))])
  refine ow_istoreN C A4 d6_7 (Ls' := #[.val (.ref a), .val (.int (1 : Int32)), .val (.int (1023 : Int32)), .unset]) rfl rfl ?_
  refine ow_aloadN C A4 d6_8 rfl rfl rfl ?_
  refine ow_getF C A4 tw_10 Via.refl xK1 d6_9 rfl ?_
  intro T5 A6
  refine ow_iloadN C A6 d6_12 rfl rfl ?_
  refine ow_laload C A6 yK2 ⟨by decide, by decide⟩ (v := (.long k1)) rfl d6_13 rfl ?_
  refine ow_iloadN C A6 d6_14 rfl rfl ?_
  refine ow_callS C A6 (argsL := [(.long k1), (.int (1023 : Int32))]) (rm_so l Z a0 hw k1 (1023 : Int32) h0 []) tw_27 tw_28 tw_3 tw_29 (by decide) all0 (by decide) (by decide) (ck' := 0) (sk' := 0) rfl rfl (by decide) (by decide) rfl (lenOf pd_0 rfl) (S := []) rfl (W := 0) (Nat.le_of_eq rfl) d6_15 rfl ?_
  intro T7 v7 K7 hQ7 A7
  obtain ⟨rfl, ee7⟩ := hQ7
  rw [ee7] at A7 K7
  show OwnWP _ _ _ _ _ _ _ _ _ T7 (mkF m 18 #[.val (.ref a), .val (.int (1 : Int32)), .val (.int (1023 : Int32)), .unset] [(.int (own_slot k1 (1023 : Int32)))])
  have bi7 := own_sb k1
  obtain ⟨i7, hi7⟩ : ∃ z, z = own_slot k1 (1023 : Int32) := ⟨_, rfl⟩
  rw [← hi7] at bi7 ⊢
  have li7 := bi7.1
  have ri7 := bi7.2
  refine ow_istoreN C A7 d6_18 (Ls' := #[.val (.ref a), .val (.int (1 : Int32)), .val (.int (1023 : Int32)), .val (.int i7)]) rfl rfl ?_
  have ti7 := own_tn i7
  by_cases hp8 : i7.toNatClampNeg = p0
  · have hp_i7 := hp8
    have hs9 : (fun i => Value.int (own_f1 p0 i)) i7.toNatClampNeg = .int (1 : Int32) := by show Value.int (own_f1 p0 i7.toNatClampNeg) = .int (1 : Int32); rw [hp8]; simp [own_f1]
    refine ow_aloadN C A7 d6_19 rfl rfl rfl ?_
    refine ow_getF C A7 tw_15 Via.refl xS1 d6_20 rfl ?_
    intro T10 A11
    refine ow_iloadN C A11 d6_23 rfl rfl ?_
    refine ow_ialoadF C A11 yS2 ⟨own_nlt32 (by show ¬ (i7.toInt < 0); omega), own_lt32 (by show i7.toInt < 1024; omega)⟩ (v := (.int (1 : Int32))) hs9 d6_24 rfl ?_
    refine ow_if_eq C A11 d6_25 (by decide) (pcY := 37) (by decide) (pcN := 28) rfl (fun zq => absurd zq (by decide)) (fun _ => ?_)
    refine ow_iloadN C A11 d6_28 rfl rfl ?_
    refine ow_iconst C A11 d6_29 (v := 1) rfl rfl ?_
    refine ow_iadd C A11 d6_30 rfl ?_
    refine ow_iloadN C A11 d6_31 rfl rfl ?_
    refine ow_iand C A11 d6_32 rfl ?_
    refine ow_istoreN C A11 d6_33 (Ls' := #[.val (.ref a), .val (.int (1 : Int32)), .val (.int (1023 : Int32)), .val (.int ((i7 + (1 : Int32)) &&& (1023 : Int32)))]) rfl rfl ?_
    refine ow_goto C A11 d6_34 (by decide) (pc' := 19) (by decide) ?_
    have ei12 := own_nx i7 ⟨by omega, by omega⟩
    obtain ⟨i12, hi12⟩ : ∃ z, z = ((i7 + (1 : Int32)) &&& (1023 : Int32)) := ⟨_, rfl⟩
    rw [← hi12] at ei12 ⊢
    have ti12 := own_tn i12
    have hv13 : ¬ (i12.toNatClampNeg = p0) := by have z1 := hp_i7; have z2 := own_tn i7; omega
    have hs14 : (fun i => Value.int (own_f1 p0 i)) i12.toNatClampNeg = .int (0 : Int32) := by show Value.int (own_f1 p0 i12.toNatClampNeg) = .int (0 : Int32); simp [own_f1, hv13]
    refine ow_aloadN C A11 d6_19 rfl rfl rfl ?_
    refine ow_getF C A11 tw_15 Via.refl xS1 d6_20 rfl ?_
    intro T15 A16
    refine ow_iloadN C A16 d6_23 rfl rfl ?_
    refine ow_ialoadF C A16 yS2 ⟨own_nlt32 (by show ¬ (i12.toInt < 0); omega), own_lt32 (by show i12.toInt < 1024; omega)⟩ (v := (.int (0 : Int32))) hs14 d6_24 rfl ?_
    refine ow_if_eq C A16 d6_25 (by decide) (pcY := 37) (by decide) (pcN := 28) rfl (fun _ => ?_) (fun zq => absurd (by decide) zq)
    refine ow_aloadN C A16 d6_37 rfl rfl rfl ?_
    refine ow_getF C A16 tw_15 Via.refl xS1 d6_38 rfl ?_
    intro T17 A18
    refine ow_iloadN C A18 d6_41 rfl rfl ?_
    refine ow_iloadN C A18 d6_42 rfl rfl ?_
    refine ow_iconst C A18 d6_43 (v := 1) rfl rfl ?_
    refine ow_iadd C A18 d6_44 rfl ?_
    show OwnWP _ _ _ _ _ _ _ _ _ T17 (mkF m 45 #[.val (.ref a), .val (.int (1 : Int32)), .val (.int (1023 : Int32)), .val (.int i12)] [(.int (2 : Int32)), (.int i12), (.ref sA)])
    refine ow_iastoreF C A18 yS2 ⟨own_nlt32 (by show ¬ (i12.toInt < 0); omega), own_lt32 (by show i12.toInt < 1024; omega)⟩ (Or.inl (List.mem_of_getElem? (i := 0) rfl)) d6_45 rfl ?_
    intro T19 h21 W22 V23 A20
    have V24 : Arf Z h21 sA c3 .int (1024 : Int32) (fun i => .int (own_f2 p0 i12.toNatClampNeg i)) := V23.re (fun i _ => by show Value.int (own_f2 p0 i12.toNatClampNeg i) = if i = i12.toNatClampNeg then Value.int 2 else Value.int (own_f1 p0 i); by_cases u : i = i12.toNatClampNeg <;> simp [own_f2, own_f1, u])
    refine ow_return C A20 rfl d6_46 (by decide) (by decide) ?_
    exact ⟨rfl, i12.toNatClampNeg, fun z => hv13 z.symm, V24⟩
  · skip
    have hs25 : (fun i => Value.int (own_f1 p0 i)) i7.toNatClampNeg = .int (0 : Int32) := by show Value.int (own_f1 p0 i7.toNatClampNeg) = .int (0 : Int32); simp [own_f1, hp8]
    refine ow_aloadN C A7 d6_19 rfl rfl rfl ?_
    refine ow_getF C A7 tw_15 Via.refl xS1 d6_20 rfl ?_
    intro T26 A27
    refine ow_iloadN C A27 d6_23 rfl rfl ?_
    refine ow_ialoadF C A27 yS2 ⟨own_nlt32 (by show ¬ (i7.toInt < 0); omega), own_lt32 (by show i7.toInt < 1024; omega)⟩ (v := (.int (0 : Int32))) hs25 d6_24 rfl ?_
    refine ow_if_eq C A27 d6_25 (by decide) (pcY := 37) (by decide) (pcN := 28) rfl (fun _ => ?_) (fun zq => absurd (by decide) zq)
    refine ow_aloadN C A27 d6_37 rfl rfl rfl ?_
    refine ow_getF C A27 tw_15 Via.refl xS1 d6_38 rfl ?_
    intro T28 A29
    refine ow_iloadN C A29 d6_41 rfl rfl ?_
    refine ow_iloadN C A29 d6_42 rfl rfl ?_
    refine ow_iconst C A29 d6_43 (v := 1) rfl rfl ?_
    refine ow_iadd C A29 d6_44 rfl ?_
    show OwnWP _ _ _ _ _ _ _ _ _ T28 (mkF m 45 #[.val (.ref a), .val (.int (1 : Int32)), .val (.int (1023 : Int32)), .val (.int i7)] [(.int (2 : Int32)), (.int i7), (.ref sA)])
    refine ow_iastoreF C A29 yS2 ⟨own_nlt32 (by show ¬ (i7.toInt < 0); omega), own_lt32 (by show i7.toInt < 1024; omega)⟩ (Or.inl (List.mem_of_getElem? (i := 0) rfl)) d6_45 rfl ?_
    intro T30 h32 W33 V34 A31
    have V35 : Arf Z h32 sA c3 .int (1024 : Int32) (fun i => .int (own_f2 p0 i7.toNatClampNeg i)) := V34.re (fun i _ => by show Value.int (own_f2 p0 i7.toNatClampNeg i) = if i = i7.toNatClampNeg then Value.int 2 else Value.int (own_f1 p0 i); by_cases u : i = i7.toNatClampNeg <;> simp [own_f2, own_f1, u])
    refine ow_return C A31 rfl d6_46 (by decide) (by decide) ?_
    exact ⟨rfl, i7.toNatClampNeg, fun z => hp8 z.symm, V35⟩
set_option maxRecDepth 65536 in
set_option maxHeartbeats 40000000 in
theorem rm_pl2 (l : Launch) (Z : State) (a0 : Array Value) (hw : ∀ d ∈ tables_1, d.before a0 Z = true) (a kA nA sA : Addr) (c1 c2 c3 : ClassId) (k0 n0 : Int64) (k1 n1 : Int64) (k2 n2 : Int64) (p0 : Nat) (p1 : Nat) (h0 : Heap) (O : Flds Z h0 a kA nA sA 3) (O2 : Arrs Z h0 kA nA sA c1 c2 c3 [(.long k0), (.long k1), (.long k2)] [(.long n0), (.long n1), (.long n2)] (own_f2 p0 p1)) (hd_0_1 : ¬ (p0 = p1)) (cs : List Jvm.Cond) :
    OwnCtr l Z (⟨"com/example/ratebook/ratebook/journal/RecentKeys", "place", "(I)V"⟩ : MethodName) prog_11_method_7_code 4 none rms #[(.ref a), (.int (2 : Int32))] h0 [sA] (QP2 Z sA c3 p0 p1) cs := by
  refine ow_ctr pn_6 hw (Ls := #[.val (.ref a), .val (.int (2 : Int32)), .unset, .unset]) (fun m => by first | (simp [entryFrame, mkF, argsToLocals, Value.category]; done) | rfl) ?_
  intro p e s m below meth c T0 C A0
  obtain ⟨xE1, xK1, xN1, xS1, xZ1⟩ := O
  obtain ⟨yK2, yN2, yS2⟩ := O2
  refine ow_aloadN C A0 d6_0 rfl rfl rfl ?_
  refine ow_getF C A0 tw_15 Via.refl xS1 d6_1 rfl ?_
  intro T3 A4
  refine ow_alenF C A4 yS2 d6_4 rfl ?_
  refine ow_iconst C A4 d6_5 (v := 1) rfl rfl ?_
  refine ow_isub C A4 d6_6 rfl ?_
  show OwnWP _ _ _ _ _ _ _ _ _ T3 (mkF m 7 #[.val (.ref a), .val (.int (2 : Int32)), .unset, .unset] [(.int (1023 : Int32))])
  refine ow_istoreN C A4 d6_7 (Ls' := #[.val (.ref a), .val (.int (2 : Int32)), .val (.int (1023 : Int32)), .unset]) rfl rfl ?_
  refine ow_aloadN C A4 d6_8 rfl rfl rfl ?_
  refine ow_getF C A4 tw_10 Via.refl xK1 d6_9 rfl ?_
  intro T5 A6
  refine ow_iloadN C A6 d6_12 rfl rfl ?_
  refine ow_laload C A6 yK2 ⟨by decide, by decide⟩ (v := (.long k2)) rfl d6_13 rfl ?_
  refine ow_iloadN C A6 d6_14 rfl rfl ?_
  refine ow_callS C A6 (argsL := [(.long k2), (.int (1023 : Int32))]) (rm_so l Z a0 hw k2 (1023 : Int32) h0 []) tw_27 tw_28 tw_3 tw_29 (by decide) all0 (by decide) (by decide) (ck' := 0) (sk' := 0) rfl rfl (by decide) (by decide) rfl (lenOf pd_0 rfl) (S := []) rfl (W := 0) (Nat.le_of_eq rfl) d6_15 rfl ?_
  intro T7 v7 K7 hQ7 A7
  obtain ⟨rfl, ee7⟩ := hQ7
  rw [ee7] at A7 K7
  show OwnWP _ _ _ _ _ _ _ _ _ T7 (mkF m 18 #[.val (.ref a), .val (.int (2 : Int32)), .val (.int (1023 : Int32)), .unset] [(.int (own_slot k2 (1023 : Int32)))])
  have bi7 := own_sb k2
  obtain ⟨i7, hi7⟩ : ∃ z, z = own_slot k2 (1023 : Int32) := ⟨_, rfl⟩
  rw [← hi7] at bi7 ⊢
  have li7 := bi7.1
  have ri7 := bi7.2
  refine ow_istoreN C A7 d6_18 (Ls' := #[.val (.ref a), .val (.int (2 : Int32)), .val (.int (1023 : Int32)), .val (.int i7)]) rfl rfl ?_
  have ti7 := own_tn i7
  by_cases hp8 : i7.toNatClampNeg = p0
  · have hp_i7 := hp8
    have hs9 : (fun i => Value.int (own_f2 p0 p1 i)) i7.toNatClampNeg = .int (1 : Int32) := by show Value.int (own_f2 p0 p1 i7.toNatClampNeg) = .int (1 : Int32); rw [hp8]; simp [own_f2, hd_0_1]
    refine ow_aloadN C A7 d6_19 rfl rfl rfl ?_
    refine ow_getF C A7 tw_15 Via.refl xS1 d6_20 rfl ?_
    intro T10 A11
    refine ow_iloadN C A11 d6_23 rfl rfl ?_
    refine ow_ialoadF C A11 yS2 ⟨own_nlt32 (by show ¬ (i7.toInt < 0); omega), own_lt32 (by show i7.toInt < 1024; omega)⟩ (v := (.int (1 : Int32))) hs9 d6_24 rfl ?_
    refine ow_if_eq C A11 d6_25 (by decide) (pcY := 37) (by decide) (pcN := 28) rfl (fun zq => absurd zq (by decide)) (fun _ => ?_)
    refine ow_iloadN C A11 d6_28 rfl rfl ?_
    refine ow_iconst C A11 d6_29 (v := 1) rfl rfl ?_
    refine ow_iadd C A11 d6_30 rfl ?_
    refine ow_iloadN C A11 d6_31 rfl rfl ?_
    refine ow_iand C A11 d6_32 rfl ?_
    refine ow_istoreN C A11 d6_33 (Ls' := #[.val (.ref a), .val (.int (2 : Int32)), .val (.int (1023 : Int32)), .val (.int ((i7 + (1 : Int32)) &&& (1023 : Int32)))]) rfl rfl ?_
    refine ow_goto C A11 d6_34 (by decide) (pc' := 19) (by decide) ?_
    have ei12 := own_nx i7 ⟨by omega, by omega⟩
    obtain ⟨i12, hi12⟩ : ∃ z, z = ((i7 + (1 : Int32)) &&& (1023 : Int32)) := ⟨_, rfl⟩
    rw [← hi12] at ei12 ⊢
    have ti12 := own_tn i12
    have hv13 : ¬ (i12.toNatClampNeg = p0) := by have z1 := hp_i7; have z2 := own_tn i7; omega
    by_cases hp14 : i12.toNatClampNeg = p1
    · have hp_i12 := hp14
      have hs15 : (fun i => Value.int (own_f2 p0 p1 i)) i12.toNatClampNeg = .int (2 : Int32) := by show Value.int (own_f2 p0 p1 i12.toNatClampNeg) = .int (2 : Int32); rw [hp14]; simp [own_f2]
      refine ow_aloadN C A11 d6_19 rfl rfl rfl ?_
      refine ow_getF C A11 tw_15 Via.refl xS1 d6_20 rfl ?_
      intro T16 A17
      refine ow_iloadN C A17 d6_23 rfl rfl ?_
      refine ow_ialoadF C A17 yS2 ⟨own_nlt32 (by show ¬ (i12.toInt < 0); omega), own_lt32 (by show i12.toInt < 1024; omega)⟩ (v := (.int (2 : Int32))) hs15 d6_24 rfl ?_
      refine ow_if_eq C A17 d6_25 (by decide) (pcY := 37) (by decide) (pcN := 28) rfl (fun zq => absurd zq (by decide)) (fun _ => ?_)
      refine ow_iloadN C A17 d6_28 rfl rfl ?_
      refine ow_iconst C A17 d6_29 (v := 1) rfl rfl ?_
      refine ow_iadd C A17 d6_30 rfl ?_
      refine ow_iloadN C A17 d6_31 rfl rfl ?_
      refine ow_iand C A17 d6_32 rfl ?_
      refine ow_istoreN C A17 d6_33 (Ls' := #[.val (.ref a), .val (.int (2 : Int32)), .val (.int (1023 : Int32)), .val (.int ((i12 + (1 : Int32)) &&& (1023 : Int32)))]) rfl rfl ?_
      refine ow_goto C A17 d6_34 (by decide) (pc' := 19) (by decide) ?_
      have ei18 := own_nx i12 ⟨by omega, by omega⟩
      obtain ⟨i18, hi18⟩ : ∃ z, z = ((i12 + (1 : Int32)) &&& (1023 : Int32)) := ⟨_, rfl⟩
      rw [← hi18] at ei18 ⊢
      have ti18 := own_tn i18
      have hv19 : ¬ (i18.toNatClampNeg = p0) := by have z1 := hp_i7; have z2 := own_tn i7; omega
      have hv20 : ¬ (i18.toNatClampNeg = p1) := by have z1 := hp_i12; have z2 := own_tn i12; omega
      have hs21 : (fun i => Value.int (own_f2 p0 p1 i)) i18.toNatClampNeg = .int (0 : Int32) := by show Value.int (own_f2 p0 p1 i18.toNatClampNeg) = .int (0 : Int32); simp [own_f2, hv19, hv20]
      refine ow_aloadN C A17 d6_19 rfl rfl rfl ?_
      refine ow_getF C A17 tw_15 Via.refl xS1 d6_20 rfl ?_
      intro T22 A23
      refine ow_iloadN C A23 d6_23 rfl rfl ?_
      refine ow_ialoadF C A23 yS2 ⟨own_nlt32 (by show ¬ (i18.toInt < 0); omega), own_lt32 (by show i18.toInt < 1024; omega)⟩ (v := (.int (0 : Int32))) hs21 d6_24 rfl ?_
      refine ow_if_eq C A23 d6_25 (by decide) (pcY := 37) (by decide) (pcN := 28) rfl (fun _ => ?_) (fun zq => absurd (by decide) zq)
      refine ow_aloadN C A23 d6_37 rfl rfl rfl ?_
      refine ow_getF C A23 tw_15 Via.refl xS1 d6_38 rfl ?_
      intro T24 A25
      refine ow_iloadN C A25 d6_41 rfl rfl ?_
      refine ow_iloadN C A25 d6_42 rfl rfl ?_
      refine ow_iconst C A25 d6_43 (v := 1) rfl rfl ?_
      refine ow_iadd C A25 d6_44 rfl ?_
      show OwnWP _ _ _ _ _ _ _ _ _ T24 (mkF m 45 #[.val (.ref a), .val (.int (2 : Int32)), .val (.int (1023 : Int32)), .val (.int i18)] [(.int (3 : Int32)), (.int i18), (.ref sA)])
      refine ow_iastoreF C A25 yS2 ⟨own_nlt32 (by show ¬ (i18.toInt < 0); omega), own_lt32 (by show i18.toInt < 1024; omega)⟩ (Or.inl (List.mem_of_getElem? (i := 0) rfl)) d6_45 rfl ?_
      intro T26 h28 W29 V30 A27
      have V31 : Arf Z h28 sA c3 .int (1024 : Int32) (fun i => .int (own_f3 p0 p1 i18.toNatClampNeg i)) := V30.re (fun i _ => by show Value.int (own_f3 p0 p1 i18.toNatClampNeg i) = if i = i18.toNatClampNeg then Value.int 3 else Value.int (own_f2 p0 p1 i); by_cases u : i = i18.toNatClampNeg <;> simp [own_f3, own_f2, u])
      refine ow_return C A27 rfl d6_46 (by decide) (by decide) ?_
      exact ⟨rfl, i18.toNatClampNeg, V31⟩
    · skip
      have hs32 : (fun i => Value.int (own_f2 p0 p1 i)) i12.toNatClampNeg = .int (0 : Int32) := by show Value.int (own_f2 p0 p1 i12.toNatClampNeg) = .int (0 : Int32); simp [own_f2, hv13, hp14]
      refine ow_aloadN C A11 d6_19 rfl rfl rfl ?_
      refine ow_getF C A11 tw_15 Via.refl xS1 d6_20 rfl ?_
      intro T33 A34
      refine ow_iloadN C A34 d6_23 rfl rfl ?_
      refine ow_ialoadF C A34 yS2 ⟨own_nlt32 (by show ¬ (i12.toInt < 0); omega), own_lt32 (by show i12.toInt < 1024; omega)⟩ (v := (.int (0 : Int32))) hs32 d6_24 rfl ?_
      refine ow_if_eq C A34 d6_25 (by decide) (pcY := 37) (by decide) (pcN := 28) rfl (fun _ => ?_) (fun zq => absurd (by decide) zq)
      refine ow_aloadN C A34 d6_37 rfl rfl rfl ?_
      refine ow_getF C A34 tw_15 Via.refl xS1 d6_38 rfl ?_
      intro T35 A36
      refine ow_iloadN C A36 d6_41 rfl rfl ?_
      refine ow_iloadN C A36 d6_42 rfl rfl ?_
      refine ow_iconst C A36 d6_43 (v := 1) rfl rfl ?_
      refine ow_iadd C A36 d6_44 rfl ?_
      show OwnWP _ _ _ _ _ _ _ _ _ T35 (mkF m 45 #[.val (.ref a), .val (.int (2 : Int32)), .val (.int (1023 : Int32)), .val (.int i12)] [(.int (3 : Int32)), (.int i12), (.ref sA)])
      refine ow_iastoreF C A36 yS2 ⟨own_nlt32 (by show ¬ (i12.toInt < 0); omega), own_lt32 (by show i12.toInt < 1024; omega)⟩ (Or.inl (List.mem_of_getElem? (i := 0) rfl)) d6_45 rfl ?_
      intro T37 h39 W40 V41 A38
      have V42 : Arf Z h39 sA c3 .int (1024 : Int32) (fun i => .int (own_f3 p0 p1 i12.toNatClampNeg i)) := V41.re (fun i _ => by show Value.int (own_f3 p0 p1 i12.toNatClampNeg i) = if i = i12.toNatClampNeg then Value.int 3 else Value.int (own_f2 p0 p1 i); by_cases u : i = i12.toNatClampNeg <;> simp [own_f3, own_f2, u])
      refine ow_return C A38 rfl d6_46 (by decide) (by decide) ?_
      exact ⟨rfl, i12.toNatClampNeg, V42⟩
  · skip
    by_cases hp43 : i7.toNatClampNeg = p1
    · have hp_i7 := hp43
      have hs44 : (fun i => Value.int (own_f2 p0 p1 i)) i7.toNatClampNeg = .int (2 : Int32) := by show Value.int (own_f2 p0 p1 i7.toNatClampNeg) = .int (2 : Int32); rw [hp43]; simp [own_f2]
      refine ow_aloadN C A7 d6_19 rfl rfl rfl ?_
      refine ow_getF C A7 tw_15 Via.refl xS1 d6_20 rfl ?_
      intro T45 A46
      refine ow_iloadN C A46 d6_23 rfl rfl ?_
      refine ow_ialoadF C A46 yS2 ⟨own_nlt32 (by show ¬ (i7.toInt < 0); omega), own_lt32 (by show i7.toInt < 1024; omega)⟩ (v := (.int (2 : Int32))) hs44 d6_24 rfl ?_
      refine ow_if_eq C A46 d6_25 (by decide) (pcY := 37) (by decide) (pcN := 28) rfl (fun zq => absurd zq (by decide)) (fun _ => ?_)
      refine ow_iloadN C A46 d6_28 rfl rfl ?_
      refine ow_iconst C A46 d6_29 (v := 1) rfl rfl ?_
      refine ow_iadd C A46 d6_30 rfl ?_
      refine ow_iloadN C A46 d6_31 rfl rfl ?_
      refine ow_iand C A46 d6_32 rfl ?_
      refine ow_istoreN C A46 d6_33 (Ls' := #[.val (.ref a), .val (.int (2 : Int32)), .val (.int (1023 : Int32)), .val (.int ((i7 + (1 : Int32)) &&& (1023 : Int32)))]) rfl rfl ?_
      refine ow_goto C A46 d6_34 (by decide) (pc' := 19) (by decide) ?_
      have ei47 := own_nx i7 ⟨by omega, by omega⟩
      obtain ⟨i47, hi47⟩ : ∃ z, z = ((i7 + (1 : Int32)) &&& (1023 : Int32)) := ⟨_, rfl⟩
      rw [← hi47] at ei47 ⊢
      have ti47 := own_tn i47
      have hv48 : ¬ (i47.toNatClampNeg = p1) := by have z1 := hp_i7; have z2 := own_tn i7; omega
      by_cases hp49 : i47.toNatClampNeg = p0
      · have hp_i47 := hp49
        have hs50 : (fun i => Value.int (own_f2 p0 p1 i)) i47.toNatClampNeg = .int (1 : Int32) := by show Value.int (own_f2 p0 p1 i47.toNatClampNeg) = .int (1 : Int32); rw [hp49]; simp [own_f2, hd_0_1]
        refine ow_aloadN C A46 d6_19 rfl rfl rfl ?_
        refine ow_getF C A46 tw_15 Via.refl xS1 d6_20 rfl ?_
        intro T51 A52
        refine ow_iloadN C A52 d6_23 rfl rfl ?_
        refine ow_ialoadF C A52 yS2 ⟨own_nlt32 (by show ¬ (i47.toInt < 0); omega), own_lt32 (by show i47.toInt < 1024; omega)⟩ (v := (.int (1 : Int32))) hs50 d6_24 rfl ?_
        refine ow_if_eq C A52 d6_25 (by decide) (pcY := 37) (by decide) (pcN := 28) rfl (fun zq => absurd zq (by decide)) (fun _ => ?_)
        refine ow_iloadN C A52 d6_28 rfl rfl ?_
        refine ow_iconst C A52 d6_29 (v := 1) rfl rfl ?_
        refine ow_iadd C A52 d6_30 rfl ?_
        refine ow_iloadN C A52 d6_31 rfl rfl ?_
        refine ow_iand C A52 d6_32 rfl ?_
        refine ow_istoreN C A52 d6_33 (Ls' := #[.val (.ref a), .val (.int (2 : Int32)), .val (.int (1023 : Int32)), .val (.int ((i47 + (1 : Int32)) &&& (1023 : Int32)))]) rfl rfl ?_
        refine ow_goto C A52 d6_34 (by decide) (pc' := 19) (by decide) ?_
        have ei53 := own_nx i47 ⟨by omega, by omega⟩
        obtain ⟨i53, hi53⟩ : ∃ z, z = ((i47 + (1 : Int32)) &&& (1023 : Int32)) := ⟨_, rfl⟩
        rw [← hi53] at ei53 ⊢
        have ti53 := own_tn i53
        have hv54 : ¬ (i53.toNatClampNeg = p0) := by have z1 := hp_i47; have z2 := own_tn i47; omega
        have hv55 : ¬ (i53.toNatClampNeg = p1) := by have z1 := hp_i7; have z2 := own_tn i7; omega
        have hs56 : (fun i => Value.int (own_f2 p0 p1 i)) i53.toNatClampNeg = .int (0 : Int32) := by show Value.int (own_f2 p0 p1 i53.toNatClampNeg) = .int (0 : Int32); simp [own_f2, hv54, hv55]
        refine ow_aloadN C A52 d6_19 rfl rfl rfl ?_
        refine ow_getF C A52 tw_15 Via.refl xS1 d6_20 rfl ?_
        intro T57 A58
        refine ow_iloadN C A58 d6_23 rfl rfl ?_
        refine ow_ialoadF C A58 yS2 ⟨own_nlt32 (by show ¬ (i53.toInt < 0); omega), own_lt32 (by show i53.toInt < 1024; omega)⟩ (v := (.int (0 : Int32))) hs56 d6_24 rfl ?_
        refine ow_if_eq C A58 d6_25 (by decide) (pcY := 37) (by decide) (pcN := 28) rfl (fun _ => ?_) (fun zq => absurd (by decide) zq)
        refine ow_aloadN C A58 d6_37 rfl rfl rfl ?_
        refine ow_getF C A58 tw_15 Via.refl xS1 d6_38 rfl ?_
        intro T59 A60
        refine ow_iloadN C A60 d6_41 rfl rfl ?_
        refine ow_iloadN C A60 d6_42 rfl rfl ?_
        refine ow_iconst C A60 d6_43 (v := 1) rfl rfl ?_
        refine ow_iadd C A60 d6_44 rfl ?_
        show OwnWP _ _ _ _ _ _ _ _ _ T59 (mkF m 45 #[.val (.ref a), .val (.int (2 : Int32)), .val (.int (1023 : Int32)), .val (.int i53)] [(.int (3 : Int32)), (.int i53), (.ref sA)])
        refine ow_iastoreF C A60 yS2 ⟨own_nlt32 (by show ¬ (i53.toInt < 0); omega), own_lt32 (by show i53.toInt < 1024; omega)⟩ (Or.inl (List.mem_of_getElem? (i := 0) rfl)) d6_45 rfl ?_
        intro T61 h63 W64 V65 A62
        have V66 : Arf Z h63 sA c3 .int (1024 : Int32) (fun i => .int (own_f3 p0 p1 i53.toNatClampNeg i)) := V65.re (fun i _ => by show Value.int (own_f3 p0 p1 i53.toNatClampNeg i) = if i = i53.toNatClampNeg then Value.int 3 else Value.int (own_f2 p0 p1 i); by_cases u : i = i53.toNatClampNeg <;> simp [own_f3, own_f2, u])
        refine ow_return C A62 rfl d6_46 (by decide) (by decide) ?_
        exact ⟨rfl, i53.toNatClampNeg, V66⟩
      · skip
        have hs67 : (fun i => Value.int (own_f2 p0 p1 i)) i47.toNatClampNeg = .int (0 : Int32) := by show Value.int (own_f2 p0 p1 i47.toNatClampNeg) = .int (0 : Int32); simp [own_f2, hp49, hv48]
        refine ow_aloadN C A46 d6_19 rfl rfl rfl ?_
        refine ow_getF C A46 tw_15 Via.refl xS1 d6_20 rfl ?_
        intro T68 A69
        refine ow_iloadN C A69 d6_23 rfl rfl ?_
        refine ow_ialoadF C A69 yS2 ⟨own_nlt32 (by show ¬ (i47.toInt < 0); omega), own_lt32 (by show i47.toInt < 1024; omega)⟩ (v := (.int (0 : Int32))) hs67 d6_24 rfl ?_
        refine ow_if_eq C A69 d6_25 (by decide) (pcY := 37) (by decide) (pcN := 28) rfl (fun _ => ?_) (fun zq => absurd (by decide) zq)
        refine ow_aloadN C A69 d6_37 rfl rfl rfl ?_
        refine ow_getF C A69 tw_15 Via.refl xS1 d6_38 rfl ?_
        intro T70 A71
        refine ow_iloadN C A71 d6_41 rfl rfl ?_
        refine ow_iloadN C A71 d6_42 rfl rfl ?_
        refine ow_iconst C A71 d6_43 (v := 1) rfl rfl ?_
        refine ow_iadd C A71 d6_44 rfl ?_
        show OwnWP _ _ _ _ _ _ _ _ _ T70 (mkF m 45 #[.val (.ref a), .val (.int (2 : Int32)), .val (.int (1023 : Int32)), .val (.int i47)] [(.int (3 : Int32)), (.int i47), (.ref sA)])
        refine ow_iastoreF C A71 yS2 ⟨own_nlt32 (by show ¬ (i47.toInt < 0); omega), own_lt32 (by show i47.toInt < 1024; omega)⟩ (Or.inl (List.mem_of_getElem? (i := 0) rfl)) d6_45 rfl ?_
        intro T72 h74 W75 V76 A73
        have V77 : Arf Z h74 sA c3 .int (1024 : Int32) (fun i => .int (own_f3 p0 p1 i47.toNatClampNeg i)) := V76.re (fun i _ => by show Value.int (own_f3 p0 p1 i47.toNatClampNeg i) = if i = i47.toNatClampNeg then Value.int 3 else Value.int (own_f2 p0 p1 i); by_cases u : i = i47.toNatClampNeg <;> simp [own_f3, own_f2, u])
        refine ow_return C A73 rfl d6_46 (by decide) (by decide) ?_
        exact ⟨rfl, i47.toNatClampNeg, V77⟩
    · skip
      have hs78 : (fun i => Value.int (own_f2 p0 p1 i)) i7.toNatClampNeg = .int (0 : Int32) := by show Value.int (own_f2 p0 p1 i7.toNatClampNeg) = .int (0 : Int32); simp [own_f2, hp8, hp43]
      refine ow_aloadN C A7 d6_19 rfl rfl rfl ?_
      refine ow_getF C A7 tw_15 Via.refl xS1 d6_20 rfl ?_
      intro T79 A80
      refine ow_iloadN C A80 d6_23 rfl rfl ?_
      refine ow_ialoadF C A80 yS2 ⟨own_nlt32 (by show ¬ (i7.toInt < 0); omega), own_lt32 (by show i7.toInt < 1024; omega)⟩ (v := (.int (0 : Int32))) hs78 d6_24 rfl ?_
      refine ow_if_eq C A80 d6_25 (by decide) (pcY := 37) (by decide) (pcN := 28) rfl (fun _ => ?_) (fun zq => absurd (by decide) zq)
      refine ow_aloadN C A80 d6_37 rfl rfl rfl ?_
      refine ow_getF C A80 tw_15 Via.refl xS1 d6_38 rfl ?_
      intro T81 A82
      refine ow_iloadN C A82 d6_41 rfl rfl ?_
      refine ow_iloadN C A82 d6_42 rfl rfl ?_
      refine ow_iconst C A82 d6_43 (v := 1) rfl rfl ?_
      refine ow_iadd C A82 d6_44 rfl ?_
      show OwnWP _ _ _ _ _ _ _ _ _ T81 (mkF m 45 #[.val (.ref a), .val (.int (2 : Int32)), .val (.int (1023 : Int32)), .val (.int i7)] [(.int (3 : Int32)), (.int i7), (.ref sA)])
      refine ow_iastoreF C A82 yS2 ⟨own_nlt32 (by show ¬ (i7.toInt < 0); omega), own_lt32 (by show i7.toInt < 1024; omega)⟩ (Or.inl (List.mem_of_getElem? (i := 0) rfl)) d6_45 rfl ?_
      intro T83 h85 W86 V87 A84
      have V88 : Arf Z h85 sA c3 .int (1024 : Int32) (fun i => .int (own_f3 p0 p1 i7.toNatClampNeg i)) := V87.re (fun i _ => by show Value.int (own_f3 p0 p1 i7.toNatClampNeg i) = if i = i7.toNatClampNeg then Value.int 3 else Value.int (own_f2 p0 p1 i); by_cases u : i = i7.toNatClampNeg <;> simp [own_f3, own_f2, u])
      refine ow_return C A84 rfl d6_46 (by decide) (by decide) ?_
      exact ⟨rfl, i7.toNatClampNeg, V88⟩
set_option maxRecDepth 65536 in
set_option maxHeartbeats 40000000 in
theorem rm_add0 (l : Launch) (Z : State) (a0 : Array Value) (hw : ∀ d ∈ tables_1, d.before a0 Z = true) (a kA nA sA : Addr) (c1 c2 c3 : ClassId) (k0 n0 : Int64) (h0 : Heap) (O : Flds Z h0 a kA nA sA 0) (O2 : Arrs Z h0 kA nA sA c1 c2 c3 [] [] own_f0) (U : Unl a kA nA sA) (cs : List Jvm.Cond) :
    OwnCtr l Z (⟨"com/example/ratebook/ratebook/journal/RecentKeys", "add", "(JJ)V"⟩ : MethodName) prog_11_method_4_code 6 none rma #[(.ref a), (.long k0), (.long n0)] h0 [a, kA, nA, sA] (QA0 Z a kA nA sA c1 c2 c3 [(.long k0)] [(.long n0)]) cs := by
  refine ow_ctr pn_3 hw (Ls := #[.val (.ref a), .val (.long k0), .second, .val (.long n0), .second, .unset]) (fun m => by first | (simp [entryFrame, mkF, argsToLocals, Value.category]; done) | rfl) ?_
  intro p e s m below meth c T0 C A0
  obtain ⟨xE1, xK1, xN1, xS1, xZ1⟩ := O
  obtain ⟨yK2, yN2, yS2⟩ := O2
  obtain ⟨u3_0, u3_1, u3_2, u3_3, u3_4, u3_5⟩ := U
  refine ow_aloadN C A0 d3_0 rfl rfl rfl ?_
  refine ow_lloadN C A0 d3_1 rfl rfl ?_
  refine ow_callV C A0 (argsL := [(.long k0)]) xE1 (rm_num0 l Z a0 hw a kA nA sA c1 c2 c3 k0 h0 ⟨xE1, xK1, xN1, xS1, xZ1⟩ ⟨yK2, yN2, yS2⟩   []) tw_22 tw_23 (ow_nf hw tw_25) tw_25 tw_24 tw_3 tw_26 (by decide) all0 (by decide) (by decide) (ck' := 0) (sk' := 0) rfl rfl (by decide) (by decide) rfl (lenOf pd_1 rfl) (S := []) rfl (W := 0) (Nat.le_of_eq rfl) d3_2 rfl ?_
  intro T4 v4 K4 hQ4 A4
  obtain ⟨rfl, ee4⟩ := hQ4
  rw [ee4] at A4 K4
  show OwnWP _ _ _ _ _ _ _ _ _ T4 (mkF m 5 #[.val (.ref a), .val (.long k0), .second, .val (.long n0), .second, .unset] [(.long (-1 : Int64))])
  refine ow_lconst C A4 d3_5 (v := 0) rfl rfl ?_
  refine ow_lcmp_lt C A4 d3_6 rfl d3_7 (by decide) (pcY := 24) (by decide) (pcN := 10) rfl (fun _ => ?_) (fun zq => absurd (by decide) zq)
  refine ow_aloadN C A4 d3_24 rfl rfl rfl ?_
  refine ow_getF C A4 tw_32 Via.refl xZ1 d3_25 rfl ?_
  intro T5 A6
  refine ow_aloadN C A6 d3_28 rfl rfl rfl ?_
  refine ow_getF C A6 tw_10 Via.refl xK1 d3_29 rfl ?_
  intro T7 A8
  refine ow_alen C A8 yK2 d3_32 rfl ?_
  refine ow_icmp_ne C A8 d3_33 (by decide) (pcY := 107) (by decide) (pcN := 36) rfl (fun _ => ?_) (fun zq => absurd zq (by decide))
  refine ow_aloadN C A8 d3_107 rfl rfl rfl ?_
  refine ow_getF C A8 tw_10 Via.refl xK1 d3_108 rfl ?_
  intro T9 A10
  refine ow_aloadN C A10 d3_111 rfl rfl rfl ?_
  refine ow_getF C A10 tw_32 Via.refl xZ1 d3_112 rfl ?_
  intro T11 A12
  refine ow_lloadN C A12 d3_115 rfl rfl ?_
  have V13 : Arv Z h0 kA c1 .long (512 : Int32) [(.long (0 : Int64))] (.long (0 : Int64)) := yK2.pad (pad_rep [] (.long (0 : Int64)) 1)
  refine ow_lastore C A12 V13 ⟨by decide, by decide⟩ (i := 0) rfl (Nat.le_of_ble_eq_true rfl) (Or.inl (List.mem_of_getElem? (i := 1) rfl)) d3_116 rfl ?_
  intro T14 h16 W17 V18 A15
  have V19 : Arv Z h16 kA c1 .long (512 : Int32) [(.long k0)] (.long (0 : Int64)) := V18
  refine ow_aloadN C A15 d3_117 rfl rfl rfl ?_
  have f20 := (xN1.other W17 (Or.inl u3_0))
  refine ow_getF C A15 tw_12 Via.refl f20 d3_118 rfl ?_
  intro T21 A22
  refine ow_aloadN C A22 d3_121 rfl rfl rfl ?_
  have f23 := (xZ1.other W17 (Or.inl u3_0))
  refine ow_getF C A22 tw_32 Via.refl f23 d3_122 rfl ?_
  intro T24 A25
  refine ow_lloadN C A25 d3_125 rfl rfl ?_
  have f26 := (yN2.other W17 (Ne.symm u3_3))
  have V27 : Arv Z h16 nA c2 .long (512 : Int32) [(.long (0 : Int64))] (.long (0 : Int64)) := f26.pad (pad_rep [] (.long (0 : Int64)) 1)
  refine ow_lastore C A25 V27 ⟨by decide, by decide⟩ (i := 0) rfl (Nat.le_of_ble_eq_true rfl) (Or.inl (List.mem_of_getElem? (i := 2) rfl)) d3_126 rfl ?_
  intro T28 h30 W31 V32 A29
  have V33 : Arv Z h30 nA c2 .long (512 : Int32) [(.long n0)] (.long (0 : Int64)) := V32
  refine ow_aloadN C A29 d3_127 rfl rfl rfl ?_
  refine ow_aloadN C A29 d3_128 rfl rfl rfl ?_
  refine ow_dup C A29 d3_129 rfl rfl ?_
  have f34 := (f23.other W31 (Or.inl u3_1))
  refine ow_getF C A29 tw_32 Via.refl f34 d3_130 rfl ?_
  intro T35 A36
  refine ow_dup_x1 C A36 d3_133 rfl rfl rfl ?_
  refine ow_iconst C A36 d3_134 (v := 1) rfl rfl ?_
  refine ow_iadd C A36 d3_135 rfl ?_
  show OwnWP _ _ _ _ _ _ _ _ _ T35 (mkF m 136 #[.val (.ref a), .val (.long k0), .second, .val (.long n0), .second, .unset] [(.int (1 : Int32)), (.ref a), (.int (0 : Int32)), (.ref a)])
  have f37 := ((xE1.wr W17).wr W31)
  refine ow_putF C A36 tw_32 Via.refl f34 f37 tw_33 tw_2 (ty := .int) (by decide) rfl rfl (Or.inl (List.mem_of_getElem? (i := 0) rfl)) d3_136 rfl ?_
  intro T38 h40 W41 A39
  have f42 := f34.same W41
  have f43 := (f37.wr W41)
  have f44 := (((xK1.other W17 (Or.inl u3_0)).other W31 (Or.inl u3_1)).other W41 (Or.inr (sn_9 hw)))
  have f45 := ((f20.other W31 (Or.inl u3_1)).other W41 (Or.inr (sn_10 hw)))
  have f46 := (((xS1.other W17 (Or.inl u3_0)).other W31 (Or.inl u3_1)).other W41 (Or.inr (sn_11 hw)))
  have f47 := ((V19.other W31 u3_3).other W41 (Ne.symm u3_0))
  have f48 := (V33.other W41 (Ne.symm u3_1))
  have f49 := (((yS2.other W17 (Ne.symm u3_4)).other W31 (Ne.symm u3_5)).other W41 (Ne.symm u3_2))
  refine ow_callP C A39 (argsL := [(.int (0 : Int32))]) f43 (rm_pl0 l Z a0 hw a kA nA sA c1 c2 c3 k0 n0 h40 ⟨f43, f44, f45, f46, f42⟩ ⟨f47, f48, f49⟩  []) tw_34 tw_36 tw_2 tw_35 tw_3 tw_37 (by decide) (allS (Or.inl (List.mem_of_getElem? (i := 3) rfl)) all0) (by decide) (by decide) (ck' := 0) (sk' := 0) rfl rfl (by decide) (by decide) rfl (lenOf pd_2 rfl) (S := []) rfl (W := 0) (Nat.le_of_eq rfl) d3_139 rfl ?_
  intro T50 v50 K50 hQ50 A50
  obtain ⟨rfl, pp50, yS50⟩ := hQ50
  show OwnWP _ _ _ _ _ _ _ _ _ T50 (mkF m 142 #[.val (.ref a), .val (.long k0), .second, .val (.long n0), .second, .unset] [])
  have f51 := (f43.keep K50)
  have f52 := (f44.keep K50 (ninS u3_2 nin0))
  have f53 := (f45.keep K50 (ninS u3_2 nin0))
  have f54 := (f46.keep K50 (ninS u3_2 nin0))
  have f55 := (f42.keep K50 (ninS u3_2 nin0))
  have f56 := (f47.keep K50 (ninS u3_4 nin0))
  have f57 := (f48.keep K50 (ninS u3_5 nin0))
  refine ow_return C A50 rfl d3_142 (by decide) (by decide) ?_
  exact ⟨rfl, pp50, ⟨f51, f52, f53, f54, f55⟩, ⟨f56, f57, yS50⟩⟩
set_option maxRecDepth 65536 in
set_option maxHeartbeats 40000000 in
theorem rm_add1 (l : Launch) (Z : State) (a0 : Array Value) (hw : ∀ d ∈ tables_1, d.before a0 Z = true) (a kA nA sA : Addr) (c1 c2 c3 : ClassId) (k0 n0 : Int64) (k1 n1 : Int64) (p0 : Nat) (h0 : Heap) (O : Flds Z h0 a kA nA sA 1) (O2 : Arrs Z h0 kA nA sA c1 c2 c3 [(.long k0)] [(.long n0)] (own_f1 p0)) (U : Unl a kA nA sA) (hk_0 : ¬ (k0 = k1)) (cs : List Jvm.Cond) :
    OwnCtr l Z (⟨"com/example/ratebook/ratebook/journal/RecentKeys", "add", "(JJ)V"⟩ : MethodName) prog_11_method_4_code 6 none rma #[(.ref a), (.long k1), (.long n1)] h0 [a, kA, nA, sA] (QA1 Z a kA nA sA c1 c2 c3 [(.long k0), (.long k1)] [(.long n0), (.long n1)] p0) cs := by
  refine ow_ctr pn_3 hw (Ls := #[.val (.ref a), .val (.long k1), .second, .val (.long n1), .second, .unset]) (fun m => by first | (simp [entryFrame, mkF, argsToLocals, Value.category]; done) | rfl) ?_
  intro p e s m below meth c T0 C A0
  obtain ⟨xE1, xK1, xN1, xS1, xZ1⟩ := O
  obtain ⟨yK2, yN2, yS2⟩ := O2
  obtain ⟨u3_0, u3_1, u3_2, u3_3, u3_4, u3_5⟩ := U
  refine ow_aloadN C A0 d3_0 rfl rfl rfl ?_
  refine ow_lloadN C A0 d3_1 rfl rfl ?_
  refine ow_callV C A0 (argsL := [(.long k1)]) xE1 (rm_num1 l Z a0 hw a kA nA sA c1 c2 c3 k0 n0 p0 k1 h0 ⟨xE1, xK1, xN1, xS1, xZ1⟩ ⟨yK2, yN2, yS2⟩  hk_0 []) tw_22 tw_23 (ow_nf hw tw_25) tw_25 tw_24 tw_3 tw_26 (by decide) all0 (by decide) (by decide) (ck' := 0) (sk' := 0) rfl rfl (by decide) (by decide) rfl (lenOf pd_1 rfl) (S := []) rfl (W := 0) (Nat.le_of_eq rfl) d3_2 rfl ?_
  intro T4 v4 K4 hQ4 A4
  obtain ⟨rfl, ee4⟩ := hQ4
  rw [ee4] at A4 K4
  show OwnWP _ _ _ _ _ _ _ _ _ T4 (mkF m 5 #[.val (.ref a), .val (.long k1), .second, .val (.long n1), .second, .unset] [(.long (-1 : Int64))])
  refine ow_lconst C A4 d3_5 (v := 0) rfl rfl ?_
  refine ow_lcmp_lt C A4 d3_6 rfl d3_7 (by decide) (pcY := 24) (by decide) (pcN := 10) rfl (fun _ => ?_) (fun zq => absurd (by decide) zq)
  refine ow_aloadN C A4 d3_24 rfl rfl rfl ?_
  refine ow_getF C A4 tw_32 Via.refl xZ1 d3_25 rfl ?_
  intro T5 A6
  refine ow_aloadN C A6 d3_28 rfl rfl rfl ?_
  refine ow_getF C A6 tw_10 Via.refl xK1 d3_29 rfl ?_
  intro T7 A8
  refine ow_alen C A8 yK2 d3_32 rfl ?_
  refine ow_icmp_ne C A8 d3_33 (by decide) (pcY := 107) (by decide) (pcN := 36) rfl (fun _ => ?_) (fun zq => absurd zq (by decide))
  refine ow_aloadN C A8 d3_107 rfl rfl rfl ?_
  refine ow_getF C A8 tw_10 Via.refl xK1 d3_108 rfl ?_
  intro T9 A10
  refine ow_aloadN C A10 d3_111 rfl rfl rfl ?_
  refine ow_getF C A10 tw_32 Via.refl xZ1 d3_112 rfl ?_
  intro T11 A12
  refine ow_lloadN C A12 d3_115 rfl rfl ?_
  have V13 : Arv Z h0 kA c1 .long (512 : Int32) [(.long k0), (.long (0 : Int64))] (.long (0 : Int64)) := yK2.pad (pad_rep [(.long k0)] (.long (0 : Int64)) 1)
  refine ow_lastore C A12 V13 ⟨by decide, by decide⟩ (i := 1) rfl (Nat.le_of_ble_eq_true rfl) (Or.inl (List.mem_of_getElem? (i := 1) rfl)) d3_116 rfl ?_
  intro T14 h16 W17 V18 A15
  have V19 : Arv Z h16 kA c1 .long (512 : Int32) [(.long k0), (.long k1)] (.long (0 : Int64)) := V18
  refine ow_aloadN C A15 d3_117 rfl rfl rfl ?_
  have f20 := (xN1.other W17 (Or.inl u3_0))
  refine ow_getF C A15 tw_12 Via.refl f20 d3_118 rfl ?_
  intro T21 A22
  refine ow_aloadN C A22 d3_121 rfl rfl rfl ?_
  have f23 := (xZ1.other W17 (Or.inl u3_0))
  refine ow_getF C A22 tw_32 Via.refl f23 d3_122 rfl ?_
  intro T24 A25
  refine ow_lloadN C A25 d3_125 rfl rfl ?_
  have f26 := (yN2.other W17 (Ne.symm u3_3))
  have V27 : Arv Z h16 nA c2 .long (512 : Int32) [(.long n0), (.long (0 : Int64))] (.long (0 : Int64)) := f26.pad (pad_rep [(.long n0)] (.long (0 : Int64)) 1)
  refine ow_lastore C A25 V27 ⟨by decide, by decide⟩ (i := 1) rfl (Nat.le_of_ble_eq_true rfl) (Or.inl (List.mem_of_getElem? (i := 2) rfl)) d3_126 rfl ?_
  intro T28 h30 W31 V32 A29
  have V33 : Arv Z h30 nA c2 .long (512 : Int32) [(.long n0), (.long n1)] (.long (0 : Int64)) := V32
  refine ow_aloadN C A29 d3_127 rfl rfl rfl ?_
  refine ow_aloadN C A29 d3_128 rfl rfl rfl ?_
  refine ow_dup C A29 d3_129 rfl rfl ?_
  have f34 := (f23.other W31 (Or.inl u3_1))
  refine ow_getF C A29 tw_32 Via.refl f34 d3_130 rfl ?_
  intro T35 A36
  refine ow_dup_x1 C A36 d3_133 rfl rfl rfl ?_
  refine ow_iconst C A36 d3_134 (v := 1) rfl rfl ?_
  refine ow_iadd C A36 d3_135 rfl ?_
  show OwnWP _ _ _ _ _ _ _ _ _ T35 (mkF m 136 #[.val (.ref a), .val (.long k1), .second, .val (.long n1), .second, .unset] [(.int (2 : Int32)), (.ref a), (.int (1 : Int32)), (.ref a)])
  have f37 := ((xE1.wr W17).wr W31)
  refine ow_putF C A36 tw_32 Via.refl f34 f37 tw_33 tw_2 (ty := .int) (by decide) rfl rfl (Or.inl (List.mem_of_getElem? (i := 0) rfl)) d3_136 rfl ?_
  intro T38 h40 W41 A39
  have f42 := f34.same W41
  have f43 := (f37.wr W41)
  have f44 := (((xK1.other W17 (Or.inl u3_0)).other W31 (Or.inl u3_1)).other W41 (Or.inr (sn_9 hw)))
  have f45 := ((f20.other W31 (Or.inl u3_1)).other W41 (Or.inr (sn_10 hw)))
  have f46 := (((xS1.other W17 (Or.inl u3_0)).other W31 (Or.inl u3_1)).other W41 (Or.inr (sn_11 hw)))
  have f47 := ((V19.other W31 u3_3).other W41 (Ne.symm u3_0))
  have f48 := (V33.other W41 (Ne.symm u3_1))
  have f49 := (((yS2.other W17 (Ne.symm u3_4)).other W31 (Ne.symm u3_5)).other W41 (Ne.symm u3_2))
  refine ow_callP C A39 (argsL := [(.int (1 : Int32))]) f43 (rm_pl1 l Z a0 hw a kA nA sA c1 c2 c3 k0 n0 k1 n1 p0 h40 ⟨f43, f44, f45, f46, f42⟩ ⟨f47, f48, f49⟩  []) tw_34 tw_36 tw_2 tw_35 tw_3 tw_37 (by decide) (allS (Or.inl (List.mem_of_getElem? (i := 3) rfl)) all0) (by decide) (by decide) (ck' := 0) (sk' := 0) rfl rfl (by decide) (by decide) rfl (lenOf pd_2 rfl) (S := []) rfl (W := 0) (Nat.le_of_eq rfl) d3_139 rfl ?_
  intro T50 v50 K50 hQ50 A50
  obtain ⟨rfl, pp50, pd50, yS50⟩ := hQ50
  show OwnWP _ _ _ _ _ _ _ _ _ T50 (mkF m 142 #[.val (.ref a), .val (.long k1), .second, .val (.long n1), .second, .unset] [])
  have f51 := (f43.keep K50)
  have f52 := (f44.keep K50 (ninS u3_2 nin0))
  have f53 := (f45.keep K50 (ninS u3_2 nin0))
  have f54 := (f46.keep K50 (ninS u3_2 nin0))
  have f55 := (f42.keep K50 (ninS u3_2 nin0))
  have f56 := (f47.keep K50 (ninS u3_4 nin0))
  have f57 := (f48.keep K50 (ninS u3_5 nin0))
  refine ow_return C A50 rfl d3_142 (by decide) (by decide) ?_
  exact ⟨rfl, pp50, pd50, ⟨f51, f52, f53, f54, f55⟩, ⟨f56, f57, yS50⟩⟩
set_option maxRecDepth 65536 in
set_option maxHeartbeats 40000000 in
theorem rm_add2 (l : Launch) (Z : State) (a0 : Array Value) (hw : ∀ d ∈ tables_1, d.before a0 Z = true) (a kA nA sA : Addr) (c1 c2 c3 : ClassId) (k0 n0 : Int64) (k1 n1 : Int64) (k2 n2 : Int64) (p0 : Nat) (p1 : Nat) (h0 : Heap) (O : Flds Z h0 a kA nA sA 2) (O2 : Arrs Z h0 kA nA sA c1 c2 c3 [(.long k0), (.long k1)] [(.long n0), (.long n1)] (own_f2 p0 p1)) (U : Unl a kA nA sA) (hd_0_1 : ¬ (p0 = p1)) (hk_0 : ¬ (k0 = k2)) (hk_1 : ¬ (k1 = k2)) (cs : List Jvm.Cond) :
    OwnCtr l Z (⟨"com/example/ratebook/ratebook/journal/RecentKeys", "add", "(JJ)V"⟩ : MethodName) prog_11_method_4_code 6 none rma #[(.ref a), (.long k2), (.long n2)] h0 [a, kA, nA, sA] (QA2 Z a kA nA sA c1 c2 c3 [(.long k0), (.long k1), (.long k2)] [(.long n0), (.long n1), (.long n2)] p0 p1) cs := by
  refine ow_ctr pn_3 hw (Ls := #[.val (.ref a), .val (.long k2), .second, .val (.long n2), .second, .unset]) (fun m => by first | (simp [entryFrame, mkF, argsToLocals, Value.category]; done) | rfl) ?_
  intro p e s m below meth c T0 C A0
  obtain ⟨xE1, xK1, xN1, xS1, xZ1⟩ := O
  obtain ⟨yK2, yN2, yS2⟩ := O2
  obtain ⟨u3_0, u3_1, u3_2, u3_3, u3_4, u3_5⟩ := U
  refine ow_aloadN C A0 d3_0 rfl rfl rfl ?_
  refine ow_lloadN C A0 d3_1 rfl rfl ?_
  refine ow_callV C A0 (argsL := [(.long k2)]) xE1 (rm_num2 l Z a0 hw a kA nA sA c1 c2 c3 k0 n0 k1 n1 p0 p1 k2 h0 ⟨xE1, xK1, xN1, xS1, xZ1⟩ ⟨yK2, yN2, yS2⟩ hd_0_1 hk_0 hk_1 []) tw_22 tw_23 (ow_nf hw tw_25) tw_25 tw_24 tw_3 tw_26 (by decide) all0 (by decide) (by decide) (ck' := 0) (sk' := 0) rfl rfl (by decide) (by decide) rfl (lenOf pd_1 rfl) (S := []) rfl (W := 0) (Nat.le_of_eq rfl) d3_2 rfl ?_
  intro T4 v4 K4 hQ4 A4
  obtain ⟨rfl, ee4⟩ := hQ4
  rw [ee4] at A4 K4
  show OwnWP _ _ _ _ _ _ _ _ _ T4 (mkF m 5 #[.val (.ref a), .val (.long k2), .second, .val (.long n2), .second, .unset] [(.long (-1 : Int64))])
  refine ow_lconst C A4 d3_5 (v := 0) rfl rfl ?_
  refine ow_lcmp_lt C A4 d3_6 rfl d3_7 (by decide) (pcY := 24) (by decide) (pcN := 10) rfl (fun _ => ?_) (fun zq => absurd (by decide) zq)
  refine ow_aloadN C A4 d3_24 rfl rfl rfl ?_
  refine ow_getF C A4 tw_32 Via.refl xZ1 d3_25 rfl ?_
  intro T5 A6
  refine ow_aloadN C A6 d3_28 rfl rfl rfl ?_
  refine ow_getF C A6 tw_10 Via.refl xK1 d3_29 rfl ?_
  intro T7 A8
  refine ow_alen C A8 yK2 d3_32 rfl ?_
  refine ow_icmp_ne C A8 d3_33 (by decide) (pcY := 107) (by decide) (pcN := 36) rfl (fun _ => ?_) (fun zq => absurd zq (by decide))
  refine ow_aloadN C A8 d3_107 rfl rfl rfl ?_
  refine ow_getF C A8 tw_10 Via.refl xK1 d3_108 rfl ?_
  intro T9 A10
  refine ow_aloadN C A10 d3_111 rfl rfl rfl ?_
  refine ow_getF C A10 tw_32 Via.refl xZ1 d3_112 rfl ?_
  intro T11 A12
  refine ow_lloadN C A12 d3_115 rfl rfl ?_
  have V13 : Arv Z h0 kA c1 .long (512 : Int32) [(.long k0), (.long k1), (.long (0 : Int64))] (.long (0 : Int64)) := yK2.pad (pad_rep [(.long k0), (.long k1)] (.long (0 : Int64)) 1)
  refine ow_lastore C A12 V13 ⟨by decide, by decide⟩ (i := 2) rfl (Nat.le_of_ble_eq_true rfl) (Or.inl (List.mem_of_getElem? (i := 1) rfl)) d3_116 rfl ?_
  intro T14 h16 W17 V18 A15
  have V19 : Arv Z h16 kA c1 .long (512 : Int32) [(.long k0), (.long k1), (.long k2)] (.long (0 : Int64)) := V18
  refine ow_aloadN C A15 d3_117 rfl rfl rfl ?_
  have f20 := (xN1.other W17 (Or.inl u3_0))
  refine ow_getF C A15 tw_12 Via.refl f20 d3_118 rfl ?_
  intro T21 A22
  refine ow_aloadN C A22 d3_121 rfl rfl rfl ?_
  have f23 := (xZ1.other W17 (Or.inl u3_0))
  refine ow_getF C A22 tw_32 Via.refl f23 d3_122 rfl ?_
  intro T24 A25
  refine ow_lloadN C A25 d3_125 rfl rfl ?_
  have f26 := (yN2.other W17 (Ne.symm u3_3))
  have V27 : Arv Z h16 nA c2 .long (512 : Int32) [(.long n0), (.long n1), (.long (0 : Int64))] (.long (0 : Int64)) := f26.pad (pad_rep [(.long n0), (.long n1)] (.long (0 : Int64)) 1)
  refine ow_lastore C A25 V27 ⟨by decide, by decide⟩ (i := 2) rfl (Nat.le_of_ble_eq_true rfl) (Or.inl (List.mem_of_getElem? (i := 2) rfl)) d3_126 rfl ?_
  intro T28 h30 W31 V32 A29
  have V33 : Arv Z h30 nA c2 .long (512 : Int32) [(.long n0), (.long n1), (.long n2)] (.long (0 : Int64)) := V32
  refine ow_aloadN C A29 d3_127 rfl rfl rfl ?_
  refine ow_aloadN C A29 d3_128 rfl rfl rfl ?_
  refine ow_dup C A29 d3_129 rfl rfl ?_
  have f34 := (f23.other W31 (Or.inl u3_1))
  refine ow_getF C A29 tw_32 Via.refl f34 d3_130 rfl ?_
  intro T35 A36
  refine ow_dup_x1 C A36 d3_133 rfl rfl rfl ?_
  refine ow_iconst C A36 d3_134 (v := 1) rfl rfl ?_
  refine ow_iadd C A36 d3_135 rfl ?_
  show OwnWP _ _ _ _ _ _ _ _ _ T35 (mkF m 136 #[.val (.ref a), .val (.long k2), .second, .val (.long n2), .second, .unset] [(.int (3 : Int32)), (.ref a), (.int (2 : Int32)), (.ref a)])
  have f37 := ((xE1.wr W17).wr W31)
  refine ow_putF C A36 tw_32 Via.refl f34 f37 tw_33 tw_2 (ty := .int) (by decide) rfl rfl (Or.inl (List.mem_of_getElem? (i := 0) rfl)) d3_136 rfl ?_
  intro T38 h40 W41 A39
  have f42 := f34.same W41
  have f43 := (f37.wr W41)
  have f44 := (((xK1.other W17 (Or.inl u3_0)).other W31 (Or.inl u3_1)).other W41 (Or.inr (sn_9 hw)))
  have f45 := ((f20.other W31 (Or.inl u3_1)).other W41 (Or.inr (sn_10 hw)))
  have f46 := (((xS1.other W17 (Or.inl u3_0)).other W31 (Or.inl u3_1)).other W41 (Or.inr (sn_11 hw)))
  have f47 := ((V19.other W31 u3_3).other W41 (Ne.symm u3_0))
  have f48 := (V33.other W41 (Ne.symm u3_1))
  have f49 := (((yS2.other W17 (Ne.symm u3_4)).other W31 (Ne.symm u3_5)).other W41 (Ne.symm u3_2))
  refine ow_callP C A39 (argsL := [(.int (2 : Int32))]) f43 (rm_pl2 l Z a0 hw a kA nA sA c1 c2 c3 k0 n0 k1 n1 k2 n2 p0 p1 h40 ⟨f43, f44, f45, f46, f42⟩ ⟨f47, f48, f49⟩ hd_0_1 []) tw_34 tw_36 tw_2 tw_35 tw_3 tw_37 (by decide) (allS (Or.inl (List.mem_of_getElem? (i := 3) rfl)) all0) (by decide) (by decide) (ck' := 0) (sk' := 0) rfl rfl (by decide) (by decide) rfl (lenOf pd_2 rfl) (S := []) rfl (W := 0) (Nat.le_of_eq rfl) d3_139 rfl ?_
  intro T50 v50 K50 hQ50 A50
  obtain ⟨rfl, pp50, yS50⟩ := hQ50
  show OwnWP _ _ _ _ _ _ _ _ _ T50 (mkF m 142 #[.val (.ref a), .val (.long k2), .second, .val (.long n2), .second, .unset] [])
  have f51 := (f43.keep K50)
  have f52 := (f44.keep K50 (ninS u3_2 nin0))
  have f53 := (f45.keep K50 (ninS u3_2 nin0))
  have f54 := (f46.keep K50 (ninS u3_2 nin0))
  have f55 := (f42.keep K50 (ninS u3_2 nin0))
  have f56 := (f47.keep K50 (ninS u3_4 nin0))
  have f57 := (f48.keep K50 (ninS u3_5 nin0))
  refine ow_return C A50 rfl d3_142 (by decide) (by decide) ?_
  exact ⟨rfl, pp50, ⟨f51, f52, f53, f54, f55⟩, ⟨f56, f57, yS50⟩⟩
set_option maxRecDepth 65536 in
set_option maxHeartbeats 40000000 in
theorem rm_pf0_0 (l : Launch) (Z : State) (a0 : Array Value) (hw : ∀ d ∈ tables_1, d.before a0 Z = true) (a kA nA sA : Addr) (c1 c2 c3 : ClassId) (h0 : Heap) (f : Nat → Int32) (O : Flds Z h0 a kA nA sA 0) (O2 : Arrs Z h0 kA nA sA c1 c2 c3 [] [] f) (cs : List Jvm.Cond) :
    OwnCtr l Z (⟨"com/example/ratebook/ratebook/journal/RecentKeys", "pairsFrom", "(I)[J"⟩ : MethodName) prog_11_method_5_code 4 (some (.array .long)) rmp #[(.ref a), (.int (0 : Int32))] h0 [] (QR Z (0 : Int32) []) cs := by
  refine ow_ctr pn_7 hw (Ls := #[.val (.ref a), .val (.int (0 : Int32)), .unset, .unset]) (fun m => by first | (simp [entryFrame, mkF, argsToLocals, Value.category]; done) | rfl) ?_
  intro p e s m below meth c T0 C A0
  obtain ⟨xE1, xK1, xN1, xS1, xZ1⟩ := O
  obtain ⟨yK2, yN2, yS2⟩ := O2
  refine ow_iconst C A0 d7_0 (v := 2) rfl rfl ?_
  refine ow_aloadN C A0 d7_1 rfl rfl rfl ?_
  refine ow_getF C A0 tw_32 Via.refl xZ1 d7_2 rfl ?_
  intro T3 A4
  refine ow_iloadN C A4 d7_5 rfl rfl ?_
  refine ow_isub C A4 d7_6 rfl ?_
  show OwnWP _ _ _ _ _ _ _ _ _ T3 (mkF m 7 #[.val (.ref a), .val (.int (0 : Int32)), .unset, .unset] [(.int (0 : Int32)), (.int (2 : Int32))])
  refine ow_imul C A4 d7_7 rfl ?_
  show OwnWP _ _ _ _ _ _ _ _ _ T3 (mkF m 8 #[.val (.ref a), .val (.int (0 : Int32)), .unset, .unset] [(.int (0 : Int32))])
  refine ow_newA C A4 (ty := .long) rfl tw_0 d7_8 rfl (by decide) (cap := 0) (by decide) (by decide) (ck' := 1) (sk' := 0) rfl rfl (by decide) (by decide) ?_
  intro T5 h7 b8 kk9 g10 E11 V12 A6
  have ne13 : a ≠ b8 := Nat.ne_of_lt (Nat.lt_of_lt_of_le xE1.lt (Nat.le_of_eq g10.symm))
  have ne14 : kA ≠ b8 := Nat.ne_of_lt (Nat.lt_of_lt_of_le yK2.lt (Nat.le_of_eq g10.symm))
  have ne15 : nA ≠ b8 := Nat.ne_of_lt (Nat.lt_of_lt_of_le yN2.lt (Nat.le_of_eq g10.symm))
  have ne16 : sA ≠ b8 := Nat.ne_of_lt (Nat.lt_of_lt_of_le yS2.lt (Nat.le_of_eq g10.symm))
  have ows_b8 : b8 ∈ ([] : List Addr) ∨ h0.size ≤ b8 := Or.inr (Nat.le_trans (ow_le A4) (Nat.le_of_eq g10.symm))
  have V17 : Arv Z h7 b8 kk9 .long (0 : Int32) [] (.long (0 : Int64)) := V12.pad (pad_rep [] (.long (0 : Int64)) 0)
  refine ow_astoreN C A6 d7_10 rfl (Ls' := #[.val (.ref a), .val (.int (0 : Int32)), .val (.ref b8), .unset]) rfl rfl ?_
  refine ow_iloadN C A6 d7_11 rfl rfl ?_
  refine ow_istoreN C A6 d7_12 (Ls' := #[.val (.ref a), .val (.int (0 : Int32)), .val (.ref b8), .val (.int (0 : Int32))]) rfl rfl ?_
  refine ow_iloadN C A6 d7_13 rfl rfl ?_
  refine ow_aloadN C A6 d7_14 rfl rfl rfl ?_
  have f18 := (xZ1.ext E11)
  refine ow_getF C A6 tw_32 Via.refl f18 d7_15 rfl ?_
  intro T19 A20
  refine ow_icmp_ge C A20 d7_18 (by decide) (pcY := 55) (by decide) (pcN := 21) rfl (fun _ => ?_) (fun zq => absurd zq (by decide))
  refine ow_aloadN C A20 d7_55 rfl rfl rfl ?_
  refine ow_areturn C A20 (t := (.array .long)) rfl rfl rfl d7_56 (by decide) (by decide) ?_
  exact ⟨b8, kk9, rfl, V17⟩
set_option maxRecDepth 65536 in
set_option maxHeartbeats 40000000 in
theorem rm_at0_0_0 (l : Launch) (Z : State) (a0 : Array Value) (hw : ∀ d ∈ tables_1, d.before a0 Z = true) (pA uA vA : Addr) (d1 d2 d3 : ClassId) (k0 n0 : Int64) (k1 n1 : Int64) (k2 n2 : Int64) (h0 : Heap) (V1 : Arv Z h0 pA d1 .long (0 : Int32) [] (.long (0 : Int64))) (V2 : Arv Z h0 uA d2 .long (3 : Int32) [(.long k0), (.long k1), (.long k2)] (.long (0 : Int64))) (V3 : Arv Z h0 vA d3 .long (3 : Int32) [(.long n0), (.long n1), (.long n2)] (.long (0 : Int64))) (cs : List Jvm.Cond) :
    OwnCtr l Z (⟨"com/example/ratebook/ratebook/journal/RecentKeysPairsFromPinLaw", "at", "([J[J[JIII)Z"⟩ : MethodName) method_3_code 7 (some .boolean) rmz #[(.ref pA), (.ref uA), (.ref vA), (.int (0 : Int32)), (.int (0 : Int32)), (.int (0 : Int32))] h0 [] (QI 1 h0) cs := by
  refine ow_ctr pn_8 hw (Ls := #[.val (.ref pA), .val (.ref uA), .val (.ref vA), .val (.int (0 : Int32)), .val (.int (0 : Int32)), .val (.int (0 : Int32)), .unset]) (fun m => by first | (simp [entryFrame, mkF, argsToLocals, Value.category]; done) | rfl) ?_
  intro p e s m below meth c T0 C A0
  refine ow_iloadN C A0 d8_0 rfl rfl ?_
  refine ow_iload C A0 d8_1 rfl rfl ?_
  refine ow_iadd C A0 d8_3 rfl ?_
  show OwnWP _ _ _ _ _ _ _ _ _ T0 (mkF m 4 #[.val (.ref pA), .val (.ref uA), .val (.ref vA), .val (.int (0 : Int32)), .val (.int (0 : Int32)), .val (.int (0 : Int32)), .unset] [(.int (0 : Int32))])
  refine ow_istore C A0 d8_4 (Ls' := #[.val (.ref pA), .val (.ref uA), .val (.ref vA), .val (.int (0 : Int32)), .val (.int (0 : Int32)), .val (.int (0 : Int32)), .val (.int (0 : Int32))]) rfl rfl ?_
  refine ow_iload C A0 d8_6 rfl rfl ?_
  refine ow_iload C A0 d8_8 rfl rfl ?_
  refine ow_icmp_lt C A0 d8_10 (by decide) (pcY := 15) (by decide) (pcN := 13) rfl (fun zq => absurd zq (by decide)) (fun _ => ?_)
  refine ow_iconst C A0 d8_13 (v := 1) rfl rfl ?_
  refine ow_ireturn C A0 (t := .boolean) rfl rfl (by simp) d8_14 (by decide) (by decide) ?_
  exact ⟨rfl, rfl⟩
set_option maxRecDepth 65536 in
set_option maxHeartbeats 40000000 in
theorem rm_at0_0_1 (l : Launch) (Z : State) (a0 : Array Value) (hw : ∀ d ∈ tables_1, d.before a0 Z = true) (pA uA vA : Addr) (d1 d2 d3 : ClassId) (k0 n0 : Int64) (k1 n1 : Int64) (k2 n2 : Int64) (h0 : Heap) (V1 : Arv Z h0 pA d1 .long (0 : Int32) [] (.long (0 : Int64))) (V2 : Arv Z h0 uA d2 .long (3 : Int32) [(.long k0), (.long k1), (.long k2)] (.long (0 : Int64))) (V3 : Arv Z h0 vA d3 .long (3 : Int32) [(.long n0), (.long n1), (.long n2)] (.long (0 : Int64))) (cs : List Jvm.Cond) :
    OwnCtr l Z (⟨"com/example/ratebook/ratebook/journal/RecentKeysPairsFromPinLaw", "at", "([J[J[JIII)Z"⟩ : MethodName) method_3_code 7 (some .boolean) rmz #[(.ref pA), (.ref uA), (.ref vA), (.int (0 : Int32)), (.int (0 : Int32)), (.int (1 : Int32))] h0 [] (QI 1 h0) cs := by
  refine ow_ctr pn_8 hw (Ls := #[.val (.ref pA), .val (.ref uA), .val (.ref vA), .val (.int (0 : Int32)), .val (.int (0 : Int32)), .val (.int (1 : Int32)), .unset]) (fun m => by first | (simp [entryFrame, mkF, argsToLocals, Value.category]; done) | rfl) ?_
  intro p e s m below meth c T0 C A0
  refine ow_iloadN C A0 d8_0 rfl rfl ?_
  refine ow_iload C A0 d8_1 rfl rfl ?_
  refine ow_iadd C A0 d8_3 rfl ?_
  show OwnWP _ _ _ _ _ _ _ _ _ T0 (mkF m 4 #[.val (.ref pA), .val (.ref uA), .val (.ref vA), .val (.int (0 : Int32)), .val (.int (0 : Int32)), .val (.int (1 : Int32)), .unset] [(.int (1 : Int32))])
  refine ow_istore C A0 d8_4 (Ls' := #[.val (.ref pA), .val (.ref uA), .val (.ref vA), .val (.int (0 : Int32)), .val (.int (0 : Int32)), .val (.int (1 : Int32)), .val (.int (1 : Int32))]) rfl rfl ?_
  refine ow_iload C A0 d8_6 rfl rfl ?_
  refine ow_iload C A0 d8_8 rfl rfl ?_
  refine ow_icmp_lt C A0 d8_10 (by decide) (pcY := 15) (by decide) (pcN := 13) rfl (fun zq => absurd zq (by decide)) (fun _ => ?_)
  refine ow_iconst C A0 d8_13 (v := 1) rfl rfl ?_
  refine ow_ireturn C A0 (t := .boolean) rfl rfl (by simp) d8_14 (by decide) (by decide) ?_
  exact ⟨rfl, rfl⟩
set_option maxRecDepth 65536 in
set_option maxHeartbeats 40000000 in
theorem rm_at0_0_2 (l : Launch) (Z : State) (a0 : Array Value) (hw : ∀ d ∈ tables_1, d.before a0 Z = true) (pA uA vA : Addr) (d1 d2 d3 : ClassId) (k0 n0 : Int64) (k1 n1 : Int64) (k2 n2 : Int64) (h0 : Heap) (V1 : Arv Z h0 pA d1 .long (0 : Int32) [] (.long (0 : Int64))) (V2 : Arv Z h0 uA d2 .long (3 : Int32) [(.long k0), (.long k1), (.long k2)] (.long (0 : Int64))) (V3 : Arv Z h0 vA d3 .long (3 : Int32) [(.long n0), (.long n1), (.long n2)] (.long (0 : Int64))) (cs : List Jvm.Cond) :
    OwnCtr l Z (⟨"com/example/ratebook/ratebook/journal/RecentKeysPairsFromPinLaw", "at", "([J[J[JIII)Z"⟩ : MethodName) method_3_code 7 (some .boolean) rmz #[(.ref pA), (.ref uA), (.ref vA), (.int (0 : Int32)), (.int (0 : Int32)), (.int (2 : Int32))] h0 [] (QI 1 h0) cs := by
  refine ow_ctr pn_8 hw (Ls := #[.val (.ref pA), .val (.ref uA), .val (.ref vA), .val (.int (0 : Int32)), .val (.int (0 : Int32)), .val (.int (2 : Int32)), .unset]) (fun m => by first | (simp [entryFrame, mkF, argsToLocals, Value.category]; done) | rfl) ?_
  intro p e s m below meth c T0 C A0
  refine ow_iloadN C A0 d8_0 rfl rfl ?_
  refine ow_iload C A0 d8_1 rfl rfl ?_
  refine ow_iadd C A0 d8_3 rfl ?_
  show OwnWP _ _ _ _ _ _ _ _ _ T0 (mkF m 4 #[.val (.ref pA), .val (.ref uA), .val (.ref vA), .val (.int (0 : Int32)), .val (.int (0 : Int32)), .val (.int (2 : Int32)), .unset] [(.int (2 : Int32))])
  refine ow_istore C A0 d8_4 (Ls' := #[.val (.ref pA), .val (.ref uA), .val (.ref vA), .val (.int (0 : Int32)), .val (.int (0 : Int32)), .val (.int (2 : Int32)), .val (.int (2 : Int32))]) rfl rfl ?_
  refine ow_iload C A0 d8_6 rfl rfl ?_
  refine ow_iload C A0 d8_8 rfl rfl ?_
  refine ow_icmp_lt C A0 d8_10 (by decide) (pcY := 15) (by decide) (pcN := 13) rfl (fun zq => absurd zq (by decide)) (fun _ => ?_)
  refine ow_iconst C A0 d8_13 (v := 1) rfl rfl ?_
  refine ow_ireturn C A0 (t := .boolean) rfl rfl (by simp) d8_14 (by decide) (by decide) ?_
  exact ⟨rfl, rfl⟩
set_option maxRecDepth 65536 in
set_option maxHeartbeats 40000000 in
theorem rm_pf1_0 (l : Launch) (Z : State) (a0 : Array Value) (hw : ∀ d ∈ tables_1, d.before a0 Z = true) (a kA nA sA : Addr) (c1 c2 c3 : ClassId) (k0 n0 : Int64) (h0 : Heap) (f : Nat → Int32) (O : Flds Z h0 a kA nA sA 1) (O2 : Arrs Z h0 kA nA sA c1 c2 c3 [(.long k0)] [(.long n0)] f) (cs : List Jvm.Cond) :
    OwnCtr l Z (⟨"com/example/ratebook/ratebook/journal/RecentKeys", "pairsFrom", "(I)[J"⟩ : MethodName) prog_11_method_5_code 4 (some (.array .long)) rmp #[(.ref a), (.int (0 : Int32))] h0 [] (QR Z (2 : Int32) [(.long k0), (.long n0)]) cs := by
  refine ow_ctr pn_7 hw (Ls := #[.val (.ref a), .val (.int (0 : Int32)), .unset, .unset]) (fun m => by first | (simp [entryFrame, mkF, argsToLocals, Value.category]; done) | rfl) ?_
  intro p e s m below meth c T0 C A0
  obtain ⟨xE1, xK1, xN1, xS1, xZ1⟩ := O
  obtain ⟨yK2, yN2, yS2⟩ := O2
  refine ow_iconst C A0 d7_0 (v := 2) rfl rfl ?_
  refine ow_aloadN C A0 d7_1 rfl rfl rfl ?_
  refine ow_getF C A0 tw_32 Via.refl xZ1 d7_2 rfl ?_
  intro T3 A4
  refine ow_iloadN C A4 d7_5 rfl rfl ?_
  refine ow_isub C A4 d7_6 rfl ?_
  show OwnWP _ _ _ _ _ _ _ _ _ T3 (mkF m 7 #[.val (.ref a), .val (.int (0 : Int32)), .unset, .unset] [(.int (1 : Int32)), (.int (2 : Int32))])
  refine ow_imul C A4 d7_7 rfl ?_
  show OwnWP _ _ _ _ _ _ _ _ _ T3 (mkF m 8 #[.val (.ref a), .val (.int (0 : Int32)), .unset, .unset] [(.int (2 : Int32))])
  refine ow_newA C A4 (ty := .long) rfl tw_0 d7_8 rfl (by decide) (cap := 2) (by decide) (by decide) (ck' := 1) (sk' := 2) rfl rfl (by decide) (by decide) ?_
  intro T5 h7 b8 kk9 g10 E11 V12 A6
  have ne13 : a ≠ b8 := Nat.ne_of_lt (Nat.lt_of_lt_of_le xE1.lt (Nat.le_of_eq g10.symm))
  have ne14 : kA ≠ b8 := Nat.ne_of_lt (Nat.lt_of_lt_of_le yK2.lt (Nat.le_of_eq g10.symm))
  have ne15 : nA ≠ b8 := Nat.ne_of_lt (Nat.lt_of_lt_of_le yN2.lt (Nat.le_of_eq g10.symm))
  have ne16 : sA ≠ b8 := Nat.ne_of_lt (Nat.lt_of_lt_of_le yS2.lt (Nat.le_of_eq g10.symm))
  have ows_b8 : b8 ∈ ([] : List Addr) ∨ h0.size ≤ b8 := Or.inr (Nat.le_trans (ow_le A4) (Nat.le_of_eq g10.symm))
  have V17 : Arv Z h7 b8 kk9 .long (2 : Int32) [(.long (0 : Int64)), (.long (0 : Int64))] (.long (0 : Int64)) := V12.pad (pad_rep [] (.long (0 : Int64)) 2)
  refine ow_astoreN C A6 d7_10 rfl (Ls' := #[.val (.ref a), .val (.int (0 : Int32)), .val (.ref b8), .unset]) rfl rfl ?_
  refine ow_iloadN C A6 d7_11 rfl rfl ?_
  refine ow_istoreN C A6 d7_12 (Ls' := #[.val (.ref a), .val (.int (0 : Int32)), .val (.ref b8), .val (.int (0 : Int32))]) rfl rfl ?_
  refine ow_iloadN C A6 d7_13 rfl rfl ?_
  refine ow_aloadN C A6 d7_14 rfl rfl rfl ?_
  have f18 := (xZ1.ext E11)
  refine ow_getF C A6 tw_32 Via.refl f18 d7_15 rfl ?_
  intro T19 A20
  refine ow_icmp_ge C A20 d7_18 (by decide) (pcY := 55) (by decide) (pcN := 21) rfl (fun zq => absurd (by decide) zq) (fun _ => ?_)
  refine ow_aloadN C A20 d7_21 rfl rfl rfl ?_
  refine ow_iconst C A20 d7_22 (v := 2) rfl rfl ?_
  refine ow_iloadN C A20 d7_23 rfl rfl ?_
  refine ow_iloadN C A20 d7_24 rfl rfl ?_
  refine ow_isub C A20 d7_25 rfl ?_
  show OwnWP _ _ _ _ _ _ _ _ _ T19 (mkF m 26 #[.val (.ref a), .val (.int (0 : Int32)), .val (.ref b8), .val (.int (0 : Int32))] [(.int (0 : Int32)), (.int (2 : Int32)), (.ref b8)])
  refine ow_imul C A20 d7_26 rfl ?_
  show OwnWP _ _ _ _ _ _ _ _ _ T19 (mkF m 27 #[.val (.ref a), .val (.int (0 : Int32)), .val (.ref b8), .val (.int (0 : Int32))] [(.int (0 : Int32)), (.ref b8)])
  refine ow_aloadN C A20 d7_27 rfl rfl rfl ?_
  have f21 := (xK1.ext E11)
  refine ow_getF C A20 tw_10 Via.refl f21 d7_28 rfl ?_
  intro T22 A23
  refine ow_iloadN C A23 d7_31 rfl rfl ?_
  have f24 := (yK2.ext E11)
  refine ow_laload C A23 f24 ⟨by decide, by decide⟩ (v := (.long k0)) rfl d7_32 rfl ?_
  refine ow_lastore C A23 V17 ⟨by decide, by decide⟩ (i := 0) rfl (Nat.le_of_ble_eq_true rfl) ows_b8 d7_33 rfl ?_
  intro T25 h27 W28 V29 A26
  have V30 : Arv Z h27 b8 kk9 .long (2 : Int32) [(.long k0), (.long (0 : Int64))] (.long (0 : Int64)) := V29
  refine ow_aloadN C A26 d7_34 rfl rfl rfl ?_
  refine ow_iconst C A26 d7_35 (v := 2) rfl rfl ?_
  refine ow_iloadN C A26 d7_36 rfl rfl ?_
  refine ow_iloadN C A26 d7_37 rfl rfl ?_
  refine ow_isub C A26 d7_38 rfl ?_
  show OwnWP _ _ _ _ _ _ _ _ _ T25 (mkF m 39 #[.val (.ref a), .val (.int (0 : Int32)), .val (.ref b8), .val (.int (0 : Int32))] [(.int (0 : Int32)), (.int (2 : Int32)), (.ref b8)])
  refine ow_imul C A26 d7_39 rfl ?_
  show OwnWP _ _ _ _ _ _ _ _ _ T25 (mkF m 40 #[.val (.ref a), .val (.int (0 : Int32)), .val (.ref b8), .val (.int (0 : Int32))] [(.int (0 : Int32)), (.ref b8)])
  refine ow_iconst C A26 d7_40 (v := 1) rfl rfl ?_
  refine ow_iadd C A26 d7_41 rfl ?_
  show OwnWP _ _ _ _ _ _ _ _ _ T25 (mkF m 42 #[.val (.ref a), .val (.int (0 : Int32)), .val (.ref b8), .val (.int (0 : Int32))] [(.int (1 : Int32)), (.ref b8)])
  refine ow_aloadN C A26 d7_42 rfl rfl rfl ?_
  have f31 := ((xN1.ext E11).other W28 (Or.inl ne13))
  refine ow_getF C A26 tw_12 Via.refl f31 d7_43 rfl ?_
  intro T32 A33
  refine ow_iloadN C A33 d7_46 rfl rfl ?_
  have f34 := ((yN2.ext E11).other W28 ne15)
  refine ow_laload C A33 f34 ⟨by decide, by decide⟩ (v := (.long n0)) rfl d7_47 rfl ?_
  refine ow_lastore C A33 V30 ⟨by decide, by decide⟩ (i := 1) rfl (Nat.le_of_ble_eq_true rfl) ows_b8 d7_48 rfl ?_
  intro T35 h37 W38 V39 A36
  have V40 : Arv Z h37 b8 kk9 .long (2 : Int32) [(.long k0), (.long n0)] (.long (0 : Int64)) := V39
  refine ow_iinc C A36 d7_49 rfl (Ls' := #[.val (.ref a), .val (.int (0 : Int32)), .val (.ref b8), .val (.int (1 : Int32))]) rfl rfl ?_
  refine ow_goto C A36 d7_52 (by decide) (pc' := 13) (by decide) ?_
  refine ow_iloadN C A36 d7_13 rfl rfl ?_
  refine ow_aloadN C A36 d7_14 rfl rfl rfl ?_
  have f41 := ((f18.other W28 (Or.inl ne13)).other W38 (Or.inl ne13))
  refine ow_getF C A36 tw_32 Via.refl f41 d7_15 rfl ?_
  intro T42 A43
  refine ow_icmp_ge C A43 d7_18 (by decide) (pcY := 55) (by decide) (pcN := 21) rfl (fun _ => ?_) (fun zq => absurd zq (by decide))
  refine ow_aloadN C A43 d7_55 rfl rfl rfl ?_
  refine ow_areturn C A43 (t := (.array .long)) rfl rfl rfl d7_56 (by decide) (by decide) ?_
  exact ⟨b8, kk9, rfl, V40⟩
set_option maxRecDepth 65536 in
set_option maxHeartbeats 40000000 in
theorem rm_at1_0_0 (l : Launch) (Z : State) (a0 : Array Value) (hw : ∀ d ∈ tables_1, d.before a0 Z = true) (pA uA vA : Addr) (d1 d2 d3 : ClassId) (k0 n0 : Int64) (k1 n1 : Int64) (k2 n2 : Int64) (h0 : Heap) (V1 : Arv Z h0 pA d1 .long (2 : Int32) [(.long k0), (.long n0)] (.long (0 : Int64))) (V2 : Arv Z h0 uA d2 .long (3 : Int32) [(.long k0), (.long k1), (.long k2)] (.long (0 : Int64))) (V3 : Arv Z h0 vA d3 .long (3 : Int32) [(.long n0), (.long n1), (.long n2)] (.long (0 : Int64))) (cs : List Jvm.Cond) :
    OwnCtr l Z (⟨"com/example/ratebook/ratebook/journal/RecentKeysPairsFromPinLaw", "at", "([J[J[JIII)Z"⟩ : MethodName) method_3_code 7 (some .boolean) rmz #[(.ref pA), (.ref uA), (.ref vA), (.int (0 : Int32)), (.int (1 : Int32)), (.int (0 : Int32))] h0 [] (QI 1 h0) cs := by
  refine ow_ctr pn_8 hw (Ls := #[.val (.ref pA), .val (.ref uA), .val (.ref vA), .val (.int (0 : Int32)), .val (.int (1 : Int32)), .val (.int (0 : Int32)), .unset]) (fun m => by first | (simp [entryFrame, mkF, argsToLocals, Value.category]; done) | rfl) ?_
  intro p e s m below meth c T0 C A0
  refine ow_iloadN C A0 d8_0 rfl rfl ?_
  refine ow_iload C A0 d8_1 rfl rfl ?_
  refine ow_iadd C A0 d8_3 rfl ?_
  show OwnWP _ _ _ _ _ _ _ _ _ T0 (mkF m 4 #[.val (.ref pA), .val (.ref uA), .val (.ref vA), .val (.int (0 : Int32)), .val (.int (1 : Int32)), .val (.int (0 : Int32)), .unset] [(.int (0 : Int32))])
  refine ow_istore C A0 d8_4 (Ls' := #[.val (.ref pA), .val (.ref uA), .val (.ref vA), .val (.int (0 : Int32)), .val (.int (1 : Int32)), .val (.int (0 : Int32)), .val (.int (0 : Int32))]) rfl rfl ?_
  refine ow_iload C A0 d8_6 rfl rfl ?_
  refine ow_iload C A0 d8_8 rfl rfl ?_
  refine ow_icmp_lt C A0 d8_10 (by decide) (pcY := 15) (by decide) (pcN := 13) rfl (fun _ => ?_) (fun zq => absurd (by decide) zq)
  refine ow_aloadN C A0 d8_15 rfl rfl rfl ?_
  refine ow_iconst C A0 d8_16 (v := 2) rfl rfl ?_
  refine ow_iload C A0 d8_17 rfl rfl ?_
  refine ow_imul C A0 d8_19 rfl ?_
  show OwnWP _ _ _ _ _ _ _ _ _ T0 (mkF m 20 #[.val (.ref pA), .val (.ref uA), .val (.ref vA), .val (.int (0 : Int32)), .val (.int (1 : Int32)), .val (.int (0 : Int32)), .val (.int (0 : Int32))] [(.int (0 : Int32)), (.ref pA)])
  refine ow_laload C A0 V1 ⟨by decide, by decide⟩ (v := (.long k0)) rfl d8_20 rfl ?_
  refine ow_aloadN C A0 d8_21 rfl rfl rfl ?_
  refine ow_iload C A0 d8_22 rfl rfl ?_
  refine ow_laload C A0 V2 ⟨by decide, by decide⟩ (v := (.long k0)) rfl d8_24 rfl ?_
  refine ow_lcmp_ne C A0 d8_25 rfl d8_26 (by decide) (pcY := 49) (by decide) (pcN := 29) rfl (fun zq => absurd (rfl) zq) (fun _ => ?_)
  refine ow_aloadN C A0 d8_29 rfl rfl rfl ?_
  refine ow_iconst C A0 d8_30 (v := 2) rfl rfl ?_
  refine ow_iload C A0 d8_31 rfl rfl ?_
  refine ow_imul C A0 d8_33 rfl ?_
  show OwnWP _ _ _ _ _ _ _ _ _ T0 (mkF m 34 #[.val (.ref pA), .val (.ref uA), .val (.ref vA), .val (.int (0 : Int32)), .val (.int (1 : Int32)), .val (.int (0 : Int32)), .val (.int (0 : Int32))] [(.int (0 : Int32)), (.ref pA)])
  refine ow_iconst C A0 d8_34 (v := 1) rfl rfl ?_
  refine ow_iadd C A0 d8_35 rfl ?_
  show OwnWP _ _ _ _ _ _ _ _ _ T0 (mkF m 36 #[.val (.ref pA), .val (.ref uA), .val (.ref vA), .val (.int (0 : Int32)), .val (.int (1 : Int32)), .val (.int (0 : Int32)), .val (.int (0 : Int32))] [(.int (1 : Int32)), (.ref pA)])
  refine ow_laload C A0 V1 ⟨by decide, by decide⟩ (v := (.long n0)) rfl d8_36 rfl ?_
  refine ow_aloadN C A0 d8_37 rfl rfl rfl ?_
  refine ow_iload C A0 d8_38 rfl rfl ?_
  refine ow_laload C A0 V3 ⟨by decide, by decide⟩ (v := (.long n0)) rfl d8_40 rfl ?_
  refine ow_lcmp_ne C A0 d8_41 rfl d8_42 (by decide) (pcY := 49) (by decide) (pcN := 45) rfl (fun zq => absurd (rfl) zq) (fun _ => ?_)
  refine ow_iconst C A0 d8_45 (v := 1) rfl rfl ?_
  refine ow_goto C A0 d8_46 (by decide) (pc' := 50) (by decide) ?_
  refine ow_ireturn C A0 (t := .boolean) rfl rfl (by simp) d8_50 (by decide) (by decide) ?_
  exact ⟨rfl, rfl⟩
set_option maxRecDepth 65536 in
set_option maxHeartbeats 40000000 in
theorem rm_at1_0_1 (l : Launch) (Z : State) (a0 : Array Value) (hw : ∀ d ∈ tables_1, d.before a0 Z = true) (pA uA vA : Addr) (d1 d2 d3 : ClassId) (k0 n0 : Int64) (k1 n1 : Int64) (k2 n2 : Int64) (h0 : Heap) (V1 : Arv Z h0 pA d1 .long (2 : Int32) [(.long k0), (.long n0)] (.long (0 : Int64))) (V2 : Arv Z h0 uA d2 .long (3 : Int32) [(.long k0), (.long k1), (.long k2)] (.long (0 : Int64))) (V3 : Arv Z h0 vA d3 .long (3 : Int32) [(.long n0), (.long n1), (.long n2)] (.long (0 : Int64))) (cs : List Jvm.Cond) :
    OwnCtr l Z (⟨"com/example/ratebook/ratebook/journal/RecentKeysPairsFromPinLaw", "at", "([J[J[JIII)Z"⟩ : MethodName) method_3_code 7 (some .boolean) rmz #[(.ref pA), (.ref uA), (.ref vA), (.int (0 : Int32)), (.int (1 : Int32)), (.int (1 : Int32))] h0 [] (QI 1 h0) cs := by
  refine ow_ctr pn_8 hw (Ls := #[.val (.ref pA), .val (.ref uA), .val (.ref vA), .val (.int (0 : Int32)), .val (.int (1 : Int32)), .val (.int (1 : Int32)), .unset]) (fun m => by first | (simp [entryFrame, mkF, argsToLocals, Value.category]; done) | rfl) ?_
  intro p e s m below meth c T0 C A0
  refine ow_iloadN C A0 d8_0 rfl rfl ?_
  refine ow_iload C A0 d8_1 rfl rfl ?_
  refine ow_iadd C A0 d8_3 rfl ?_
  show OwnWP _ _ _ _ _ _ _ _ _ T0 (mkF m 4 #[.val (.ref pA), .val (.ref uA), .val (.ref vA), .val (.int (0 : Int32)), .val (.int (1 : Int32)), .val (.int (1 : Int32)), .unset] [(.int (1 : Int32))])
  refine ow_istore C A0 d8_4 (Ls' := #[.val (.ref pA), .val (.ref uA), .val (.ref vA), .val (.int (0 : Int32)), .val (.int (1 : Int32)), .val (.int (1 : Int32)), .val (.int (1 : Int32))]) rfl rfl ?_
  refine ow_iload C A0 d8_6 rfl rfl ?_
  refine ow_iload C A0 d8_8 rfl rfl ?_
  refine ow_icmp_lt C A0 d8_10 (by decide) (pcY := 15) (by decide) (pcN := 13) rfl (fun zq => absurd zq (by decide)) (fun _ => ?_)
  refine ow_iconst C A0 d8_13 (v := 1) rfl rfl ?_
  refine ow_ireturn C A0 (t := .boolean) rfl rfl (by simp) d8_14 (by decide) (by decide) ?_
  exact ⟨rfl, rfl⟩
set_option maxRecDepth 65536 in
set_option maxHeartbeats 40000000 in
theorem rm_at1_0_2 (l : Launch) (Z : State) (a0 : Array Value) (hw : ∀ d ∈ tables_1, d.before a0 Z = true) (pA uA vA : Addr) (d1 d2 d3 : ClassId) (k0 n0 : Int64) (k1 n1 : Int64) (k2 n2 : Int64) (h0 : Heap) (V1 : Arv Z h0 pA d1 .long (2 : Int32) [(.long k0), (.long n0)] (.long (0 : Int64))) (V2 : Arv Z h0 uA d2 .long (3 : Int32) [(.long k0), (.long k1), (.long k2)] (.long (0 : Int64))) (V3 : Arv Z h0 vA d3 .long (3 : Int32) [(.long n0), (.long n1), (.long n2)] (.long (0 : Int64))) (cs : List Jvm.Cond) :
    OwnCtr l Z (⟨"com/example/ratebook/ratebook/journal/RecentKeysPairsFromPinLaw", "at", "([J[J[JIII)Z"⟩ : MethodName) method_3_code 7 (some .boolean) rmz #[(.ref pA), (.ref uA), (.ref vA), (.int (0 : Int32)), (.int (1 : Int32)), (.int (2 : Int32))] h0 [] (QI 1 h0) cs := by
  refine ow_ctr pn_8 hw (Ls := #[.val (.ref pA), .val (.ref uA), .val (.ref vA), .val (.int (0 : Int32)), .val (.int (1 : Int32)), .val (.int (2 : Int32)), .unset]) (fun m => by first | (simp [entryFrame, mkF, argsToLocals, Value.category]; done) | rfl) ?_
  intro p e s m below meth c T0 C A0
  refine ow_iloadN C A0 d8_0 rfl rfl ?_
  refine ow_iload C A0 d8_1 rfl rfl ?_
  refine ow_iadd C A0 d8_3 rfl ?_
  show OwnWP _ _ _ _ _ _ _ _ _ T0 (mkF m 4 #[.val (.ref pA), .val (.ref uA), .val (.ref vA), .val (.int (0 : Int32)), .val (.int (1 : Int32)), .val (.int (2 : Int32)), .unset] [(.int (2 : Int32))])
  refine ow_istore C A0 d8_4 (Ls' := #[.val (.ref pA), .val (.ref uA), .val (.ref vA), .val (.int (0 : Int32)), .val (.int (1 : Int32)), .val (.int (2 : Int32)), .val (.int (2 : Int32))]) rfl rfl ?_
  refine ow_iload C A0 d8_6 rfl rfl ?_
  refine ow_iload C A0 d8_8 rfl rfl ?_
  refine ow_icmp_lt C A0 d8_10 (by decide) (pcY := 15) (by decide) (pcN := 13) rfl (fun zq => absurd zq (by decide)) (fun _ => ?_)
  refine ow_iconst C A0 d8_13 (v := 1) rfl rfl ?_
  refine ow_ireturn C A0 (t := .boolean) rfl rfl (by simp) d8_14 (by decide) (by decide) ?_
  exact ⟨rfl, rfl⟩
set_option maxRecDepth 65536 in
set_option maxHeartbeats 40000000 in
theorem rm_pf1_1 (l : Launch) (Z : State) (a0 : Array Value) (hw : ∀ d ∈ tables_1, d.before a0 Z = true) (a kA nA sA : Addr) (c1 c2 c3 : ClassId) (k0 n0 : Int64) (h0 : Heap) (f : Nat → Int32) (O : Flds Z h0 a kA nA sA 1) (O2 : Arrs Z h0 kA nA sA c1 c2 c3 [(.long k0)] [(.long n0)] f) (cs : List Jvm.Cond) :
    OwnCtr l Z (⟨"com/example/ratebook/ratebook/journal/RecentKeys", "pairsFrom", "(I)[J"⟩ : MethodName) prog_11_method_5_code 4 (some (.array .long)) rmp #[(.ref a), (.int (1 : Int32))] h0 [] (QR Z (0 : Int32) []) cs := by
  refine ow_ctr pn_7 hw (Ls := #[.val (.ref a), .val (.int (1 : Int32)), .unset, .unset]) (fun m => by first | (simp [entryFrame, mkF, argsToLocals, Value.category]; done) | rfl) ?_
  intro p e s m below meth c T0 C A0
  obtain ⟨xE1, xK1, xN1, xS1, xZ1⟩ := O
  obtain ⟨yK2, yN2, yS2⟩ := O2
  refine ow_iconst C A0 d7_0 (v := 2) rfl rfl ?_
  refine ow_aloadN C A0 d7_1 rfl rfl rfl ?_
  refine ow_getF C A0 tw_32 Via.refl xZ1 d7_2 rfl ?_
  intro T3 A4
  refine ow_iloadN C A4 d7_5 rfl rfl ?_
  refine ow_isub C A4 d7_6 rfl ?_
  show OwnWP _ _ _ _ _ _ _ _ _ T3 (mkF m 7 #[.val (.ref a), .val (.int (1 : Int32)), .unset, .unset] [(.int (0 : Int32)), (.int (2 : Int32))])
  refine ow_imul C A4 d7_7 rfl ?_
  show OwnWP _ _ _ _ _ _ _ _ _ T3 (mkF m 8 #[.val (.ref a), .val (.int (1 : Int32)), .unset, .unset] [(.int (0 : Int32))])
  refine ow_newA C A4 (ty := .long) rfl tw_0 d7_8 rfl (by decide) (cap := 0) (by decide) (by decide) (ck' := 1) (sk' := 0) rfl rfl (by decide) (by decide) ?_
  intro T5 h7 b8 kk9 g10 E11 V12 A6
  have ne13 : a ≠ b8 := Nat.ne_of_lt (Nat.lt_of_lt_of_le xE1.lt (Nat.le_of_eq g10.symm))
  have ne14 : kA ≠ b8 := Nat.ne_of_lt (Nat.lt_of_lt_of_le yK2.lt (Nat.le_of_eq g10.symm))
  have ne15 : nA ≠ b8 := Nat.ne_of_lt (Nat.lt_of_lt_of_le yN2.lt (Nat.le_of_eq g10.symm))
  have ne16 : sA ≠ b8 := Nat.ne_of_lt (Nat.lt_of_lt_of_le yS2.lt (Nat.le_of_eq g10.symm))
  have ows_b8 : b8 ∈ ([] : List Addr) ∨ h0.size ≤ b8 := Or.inr (Nat.le_trans (ow_le A4) (Nat.le_of_eq g10.symm))
  have V17 : Arv Z h7 b8 kk9 .long (0 : Int32) [] (.long (0 : Int64)) := V12.pad (pad_rep [] (.long (0 : Int64)) 0)
  refine ow_astoreN C A6 d7_10 rfl (Ls' := #[.val (.ref a), .val (.int (1 : Int32)), .val (.ref b8), .unset]) rfl rfl ?_
  refine ow_iloadN C A6 d7_11 rfl rfl ?_
  refine ow_istoreN C A6 d7_12 (Ls' := #[.val (.ref a), .val (.int (1 : Int32)), .val (.ref b8), .val (.int (1 : Int32))]) rfl rfl ?_
  refine ow_iloadN C A6 d7_13 rfl rfl ?_
  refine ow_aloadN C A6 d7_14 rfl rfl rfl ?_
  have f18 := (xZ1.ext E11)
  refine ow_getF C A6 tw_32 Via.refl f18 d7_15 rfl ?_
  intro T19 A20
  refine ow_icmp_ge C A20 d7_18 (by decide) (pcY := 55) (by decide) (pcN := 21) rfl (fun _ => ?_) (fun zq => absurd zq (by decide))
  refine ow_aloadN C A20 d7_55 rfl rfl rfl ?_
  refine ow_areturn C A20 (t := (.array .long)) rfl rfl rfl d7_56 (by decide) (by decide) ?_
  exact ⟨b8, kk9, rfl, V17⟩
set_option maxRecDepth 65536 in
set_option maxHeartbeats 40000000 in
theorem rm_at1_1_0 (l : Launch) (Z : State) (a0 : Array Value) (hw : ∀ d ∈ tables_1, d.before a0 Z = true) (pA uA vA : Addr) (d1 d2 d3 : ClassId) (k0 n0 : Int64) (k1 n1 : Int64) (k2 n2 : Int64) (h0 : Heap) (V1 : Arv Z h0 pA d1 .long (0 : Int32) [] (.long (0 : Int64))) (V2 : Arv Z h0 uA d2 .long (3 : Int32) [(.long k0), (.long k1), (.long k2)] (.long (0 : Int64))) (V3 : Arv Z h0 vA d3 .long (3 : Int32) [(.long n0), (.long n1), (.long n2)] (.long (0 : Int64))) (cs : List Jvm.Cond) :
    OwnCtr l Z (⟨"com/example/ratebook/ratebook/journal/RecentKeysPairsFromPinLaw", "at", "([J[J[JIII)Z"⟩ : MethodName) method_3_code 7 (some .boolean) rmz #[(.ref pA), (.ref uA), (.ref vA), (.int (1 : Int32)), (.int (1 : Int32)), (.int (0 : Int32))] h0 [] (QI 1 h0) cs := by
  refine ow_ctr pn_8 hw (Ls := #[.val (.ref pA), .val (.ref uA), .val (.ref vA), .val (.int (1 : Int32)), .val (.int (1 : Int32)), .val (.int (0 : Int32)), .unset]) (fun m => by first | (simp [entryFrame, mkF, argsToLocals, Value.category]; done) | rfl) ?_
  intro p e s m below meth c T0 C A0
  refine ow_iloadN C A0 d8_0 rfl rfl ?_
  refine ow_iload C A0 d8_1 rfl rfl ?_
  refine ow_iadd C A0 d8_3 rfl ?_
  show OwnWP _ _ _ _ _ _ _ _ _ T0 (mkF m 4 #[.val (.ref pA), .val (.ref uA), .val (.ref vA), .val (.int (1 : Int32)), .val (.int (1 : Int32)), .val (.int (0 : Int32)), .unset] [(.int (1 : Int32))])
  refine ow_istore C A0 d8_4 (Ls' := #[.val (.ref pA), .val (.ref uA), .val (.ref vA), .val (.int (1 : Int32)), .val (.int (1 : Int32)), .val (.int (0 : Int32)), .val (.int (1 : Int32))]) rfl rfl ?_
  refine ow_iload C A0 d8_6 rfl rfl ?_
  refine ow_iload C A0 d8_8 rfl rfl ?_
  refine ow_icmp_lt C A0 d8_10 (by decide) (pcY := 15) (by decide) (pcN := 13) rfl (fun zq => absurd zq (by decide)) (fun _ => ?_)
  refine ow_iconst C A0 d8_13 (v := 1) rfl rfl ?_
  refine ow_ireturn C A0 (t := .boolean) rfl rfl (by simp) d8_14 (by decide) (by decide) ?_
  exact ⟨rfl, rfl⟩
set_option maxRecDepth 65536 in
set_option maxHeartbeats 40000000 in
theorem rm_at1_1_1 (l : Launch) (Z : State) (a0 : Array Value) (hw : ∀ d ∈ tables_1, d.before a0 Z = true) (pA uA vA : Addr) (d1 d2 d3 : ClassId) (k0 n0 : Int64) (k1 n1 : Int64) (k2 n2 : Int64) (h0 : Heap) (V1 : Arv Z h0 pA d1 .long (0 : Int32) [] (.long (0 : Int64))) (V2 : Arv Z h0 uA d2 .long (3 : Int32) [(.long k0), (.long k1), (.long k2)] (.long (0 : Int64))) (V3 : Arv Z h0 vA d3 .long (3 : Int32) [(.long n0), (.long n1), (.long n2)] (.long (0 : Int64))) (cs : List Jvm.Cond) :
    OwnCtr l Z (⟨"com/example/ratebook/ratebook/journal/RecentKeysPairsFromPinLaw", "at", "([J[J[JIII)Z"⟩ : MethodName) method_3_code 7 (some .boolean) rmz #[(.ref pA), (.ref uA), (.ref vA), (.int (1 : Int32)), (.int (1 : Int32)), (.int (1 : Int32))] h0 [] (QI 1 h0) cs := by
  refine ow_ctr pn_8 hw (Ls := #[.val (.ref pA), .val (.ref uA), .val (.ref vA), .val (.int (1 : Int32)), .val (.int (1 : Int32)), .val (.int (1 : Int32)), .unset]) (fun m => by first | (simp [entryFrame, mkF, argsToLocals, Value.category]; done) | rfl) ?_
  intro p e s m below meth c T0 C A0
  refine ow_iloadN C A0 d8_0 rfl rfl ?_
  refine ow_iload C A0 d8_1 rfl rfl ?_
  refine ow_iadd C A0 d8_3 rfl ?_
  show OwnWP _ _ _ _ _ _ _ _ _ T0 (mkF m 4 #[.val (.ref pA), .val (.ref uA), .val (.ref vA), .val (.int (1 : Int32)), .val (.int (1 : Int32)), .val (.int (1 : Int32)), .unset] [(.int (2 : Int32))])
  refine ow_istore C A0 d8_4 (Ls' := #[.val (.ref pA), .val (.ref uA), .val (.ref vA), .val (.int (1 : Int32)), .val (.int (1 : Int32)), .val (.int (1 : Int32)), .val (.int (2 : Int32))]) rfl rfl ?_
  refine ow_iload C A0 d8_6 rfl rfl ?_
  refine ow_iload C A0 d8_8 rfl rfl ?_
  refine ow_icmp_lt C A0 d8_10 (by decide) (pcY := 15) (by decide) (pcN := 13) rfl (fun zq => absurd zq (by decide)) (fun _ => ?_)
  refine ow_iconst C A0 d8_13 (v := 1) rfl rfl ?_
  refine ow_ireturn C A0 (t := .boolean) rfl rfl (by simp) d8_14 (by decide) (by decide) ?_
  exact ⟨rfl, rfl⟩
set_option maxRecDepth 65536 in
set_option maxHeartbeats 40000000 in
theorem rm_at1_1_2 (l : Launch) (Z : State) (a0 : Array Value) (hw : ∀ d ∈ tables_1, d.before a0 Z = true) (pA uA vA : Addr) (d1 d2 d3 : ClassId) (k0 n0 : Int64) (k1 n1 : Int64) (k2 n2 : Int64) (h0 : Heap) (V1 : Arv Z h0 pA d1 .long (0 : Int32) [] (.long (0 : Int64))) (V2 : Arv Z h0 uA d2 .long (3 : Int32) [(.long k0), (.long k1), (.long k2)] (.long (0 : Int64))) (V3 : Arv Z h0 vA d3 .long (3 : Int32) [(.long n0), (.long n1), (.long n2)] (.long (0 : Int64))) (cs : List Jvm.Cond) :
    OwnCtr l Z (⟨"com/example/ratebook/ratebook/journal/RecentKeysPairsFromPinLaw", "at", "([J[J[JIII)Z"⟩ : MethodName) method_3_code 7 (some .boolean) rmz #[(.ref pA), (.ref uA), (.ref vA), (.int (1 : Int32)), (.int (1 : Int32)), (.int (2 : Int32))] h0 [] (QI 1 h0) cs := by
  refine ow_ctr pn_8 hw (Ls := #[.val (.ref pA), .val (.ref uA), .val (.ref vA), .val (.int (1 : Int32)), .val (.int (1 : Int32)), .val (.int (2 : Int32)), .unset]) (fun m => by first | (simp [entryFrame, mkF, argsToLocals, Value.category]; done) | rfl) ?_
  intro p e s m below meth c T0 C A0
  refine ow_iloadN C A0 d8_0 rfl rfl ?_
  refine ow_iload C A0 d8_1 rfl rfl ?_
  refine ow_iadd C A0 d8_3 rfl ?_
  show OwnWP _ _ _ _ _ _ _ _ _ T0 (mkF m 4 #[.val (.ref pA), .val (.ref uA), .val (.ref vA), .val (.int (1 : Int32)), .val (.int (1 : Int32)), .val (.int (2 : Int32)), .unset] [(.int (3 : Int32))])
  refine ow_istore C A0 d8_4 (Ls' := #[.val (.ref pA), .val (.ref uA), .val (.ref vA), .val (.int (1 : Int32)), .val (.int (1 : Int32)), .val (.int (2 : Int32)), .val (.int (3 : Int32))]) rfl rfl ?_
  refine ow_iload C A0 d8_6 rfl rfl ?_
  refine ow_iload C A0 d8_8 rfl rfl ?_
  refine ow_icmp_lt C A0 d8_10 (by decide) (pcY := 15) (by decide) (pcN := 13) rfl (fun zq => absurd zq (by decide)) (fun _ => ?_)
  refine ow_iconst C A0 d8_13 (v := 1) rfl rfl ?_
  refine ow_ireturn C A0 (t := .boolean) rfl rfl (by simp) d8_14 (by decide) (by decide) ?_
  exact ⟨rfl, rfl⟩
set_option maxRecDepth 65536 in
set_option maxHeartbeats 40000000 in
theorem rm_pf2_0 (l : Launch) (Z : State) (a0 : Array Value) (hw : ∀ d ∈ tables_1, d.before a0 Z = true) (a kA nA sA : Addr) (c1 c2 c3 : ClassId) (k0 n0 : Int64) (k1 n1 : Int64) (h0 : Heap) (f : Nat → Int32) (O : Flds Z h0 a kA nA sA 2) (O2 : Arrs Z h0 kA nA sA c1 c2 c3 [(.long k0), (.long k1)] [(.long n0), (.long n1)] f) (cs : List Jvm.Cond) :
    OwnCtr l Z (⟨"com/example/ratebook/ratebook/journal/RecentKeys", "pairsFrom", "(I)[J"⟩ : MethodName) prog_11_method_5_code 4 (some (.array .long)) rmp #[(.ref a), (.int (0 : Int32))] h0 [] (QR Z (4 : Int32) [(.long k0), (.long n0), (.long k1), (.long n1)]) cs := by
  refine ow_ctr pn_7 hw (Ls := #[.val (.ref a), .val (.int (0 : Int32)), .unset, .unset]) (fun m => by first | (simp [entryFrame, mkF, argsToLocals, Value.category]; done) | rfl) ?_
  intro p e s m below meth c T0 C A0
  obtain ⟨xE1, xK1, xN1, xS1, xZ1⟩ := O
  obtain ⟨yK2, yN2, yS2⟩ := O2
  refine ow_iconst C A0 d7_0 (v := 2) rfl rfl ?_
  refine ow_aloadN C A0 d7_1 rfl rfl rfl ?_
  refine ow_getF C A0 tw_32 Via.refl xZ1 d7_2 rfl ?_
  intro T3 A4
  refine ow_iloadN C A4 d7_5 rfl rfl ?_
  refine ow_isub C A4 d7_6 rfl ?_
  show OwnWP _ _ _ _ _ _ _ _ _ T3 (mkF m 7 #[.val (.ref a), .val (.int (0 : Int32)), .unset, .unset] [(.int (2 : Int32)), (.int (2 : Int32))])
  refine ow_imul C A4 d7_7 rfl ?_
  show OwnWP _ _ _ _ _ _ _ _ _ T3 (mkF m 8 #[.val (.ref a), .val (.int (0 : Int32)), .unset, .unset] [(.int (4 : Int32))])
  refine ow_newA C A4 (ty := .long) rfl tw_0 d7_8 rfl (by decide) (cap := 4) (by decide) (by decide) (ck' := 1) (sk' := 4) rfl rfl (by decide) (by decide) ?_
  intro T5 h7 b8 kk9 g10 E11 V12 A6
  have ne13 : a ≠ b8 := Nat.ne_of_lt (Nat.lt_of_lt_of_le xE1.lt (Nat.le_of_eq g10.symm))
  have ne14 : kA ≠ b8 := Nat.ne_of_lt (Nat.lt_of_lt_of_le yK2.lt (Nat.le_of_eq g10.symm))
  have ne15 : nA ≠ b8 := Nat.ne_of_lt (Nat.lt_of_lt_of_le yN2.lt (Nat.le_of_eq g10.symm))
  have ne16 : sA ≠ b8 := Nat.ne_of_lt (Nat.lt_of_lt_of_le yS2.lt (Nat.le_of_eq g10.symm))
  have ows_b8 : b8 ∈ ([] : List Addr) ∨ h0.size ≤ b8 := Or.inr (Nat.le_trans (ow_le A4) (Nat.le_of_eq g10.symm))
  have V17 : Arv Z h7 b8 kk9 .long (4 : Int32) [(.long (0 : Int64)), (.long (0 : Int64)), (.long (0 : Int64)), (.long (0 : Int64))] (.long (0 : Int64)) := V12.pad (pad_rep [] (.long (0 : Int64)) 4)
  refine ow_astoreN C A6 d7_10 rfl (Ls' := #[.val (.ref a), .val (.int (0 : Int32)), .val (.ref b8), .unset]) rfl rfl ?_
  refine ow_iloadN C A6 d7_11 rfl rfl ?_
  refine ow_istoreN C A6 d7_12 (Ls' := #[.val (.ref a), .val (.int (0 : Int32)), .val (.ref b8), .val (.int (0 : Int32))]) rfl rfl ?_
  refine ow_iloadN C A6 d7_13 rfl rfl ?_
  refine ow_aloadN C A6 d7_14 rfl rfl rfl ?_
  have f18 := (xZ1.ext E11)
  refine ow_getF C A6 tw_32 Via.refl f18 d7_15 rfl ?_
  intro T19 A20
  refine ow_icmp_ge C A20 d7_18 (by decide) (pcY := 55) (by decide) (pcN := 21) rfl (fun zq => absurd (by decide) zq) (fun _ => ?_)
  refine ow_aloadN C A20 d7_21 rfl rfl rfl ?_
  refine ow_iconst C A20 d7_22 (v := 2) rfl rfl ?_
  refine ow_iloadN C A20 d7_23 rfl rfl ?_
  refine ow_iloadN C A20 d7_24 rfl rfl ?_
  refine ow_isub C A20 d7_25 rfl ?_
  show OwnWP _ _ _ _ _ _ _ _ _ T19 (mkF m 26 #[.val (.ref a), .val (.int (0 : Int32)), .val (.ref b8), .val (.int (0 : Int32))] [(.int (0 : Int32)), (.int (2 : Int32)), (.ref b8)])
  refine ow_imul C A20 d7_26 rfl ?_
  show OwnWP _ _ _ _ _ _ _ _ _ T19 (mkF m 27 #[.val (.ref a), .val (.int (0 : Int32)), .val (.ref b8), .val (.int (0 : Int32))] [(.int (0 : Int32)), (.ref b8)])
  refine ow_aloadN C A20 d7_27 rfl rfl rfl ?_
  have f21 := (xK1.ext E11)
  refine ow_getF C A20 tw_10 Via.refl f21 d7_28 rfl ?_
  intro T22 A23
  refine ow_iloadN C A23 d7_31 rfl rfl ?_
  have f24 := (yK2.ext E11)
  refine ow_laload C A23 f24 ⟨by decide, by decide⟩ (v := (.long k0)) rfl d7_32 rfl ?_
  refine ow_lastore C A23 V17 ⟨by decide, by decide⟩ (i := 0) rfl (Nat.le_of_ble_eq_true rfl) ows_b8 d7_33 rfl ?_
  intro T25 h27 W28 V29 A26
  have V30 : Arv Z h27 b8 kk9 .long (4 : Int32) [(.long k0), (.long (0 : Int64)), (.long (0 : Int64)), (.long (0 : Int64))] (.long (0 : Int64)) := V29
  refine ow_aloadN C A26 d7_34 rfl rfl rfl ?_
  refine ow_iconst C A26 d7_35 (v := 2) rfl rfl ?_
  refine ow_iloadN C A26 d7_36 rfl rfl ?_
  refine ow_iloadN C A26 d7_37 rfl rfl ?_
  refine ow_isub C A26 d7_38 rfl ?_
  show OwnWP _ _ _ _ _ _ _ _ _ T25 (mkF m 39 #[.val (.ref a), .val (.int (0 : Int32)), .val (.ref b8), .val (.int (0 : Int32))] [(.int (0 : Int32)), (.int (2 : Int32)), (.ref b8)])
  refine ow_imul C A26 d7_39 rfl ?_
  show OwnWP _ _ _ _ _ _ _ _ _ T25 (mkF m 40 #[.val (.ref a), .val (.int (0 : Int32)), .val (.ref b8), .val (.int (0 : Int32))] [(.int (0 : Int32)), (.ref b8)])
  refine ow_iconst C A26 d7_40 (v := 1) rfl rfl ?_
  refine ow_iadd C A26 d7_41 rfl ?_
  show OwnWP _ _ _ _ _ _ _ _ _ T25 (mkF m 42 #[.val (.ref a), .val (.int (0 : Int32)), .val (.ref b8), .val (.int (0 : Int32))] [(.int (1 : Int32)), (.ref b8)])
  refine ow_aloadN C A26 d7_42 rfl rfl rfl ?_
  have f31 := ((xN1.ext E11).other W28 (Or.inl ne13))
  refine ow_getF C A26 tw_12 Via.refl f31 d7_43 rfl ?_
  intro T32 A33
  refine ow_iloadN C A33 d7_46 rfl rfl ?_
  have f34 := ((yN2.ext E11).other W28 ne15)
  refine ow_laload C A33 f34 ⟨by decide, by decide⟩ (v := (.long n0)) rfl d7_47 rfl ?_
  refine ow_lastore C A33 V30 ⟨by decide, by decide⟩ (i := 1) rfl (Nat.le_of_ble_eq_true rfl) ows_b8 d7_48 rfl ?_
  intro T35 h37 W38 V39 A36
  have V40 : Arv Z h37 b8 kk9 .long (4 : Int32) [(.long k0), (.long n0), (.long (0 : Int64)), (.long (0 : Int64))] (.long (0 : Int64)) := V39
  refine ow_iinc C A36 d7_49 rfl (Ls' := #[.val (.ref a), .val (.int (0 : Int32)), .val (.ref b8), .val (.int (1 : Int32))]) rfl rfl ?_
  refine ow_goto C A36 d7_52 (by decide) (pc' := 13) (by decide) ?_
  refine ow_iloadN C A36 d7_13 rfl rfl ?_
  refine ow_aloadN C A36 d7_14 rfl rfl rfl ?_
  have f41 := ((f18.other W28 (Or.inl ne13)).other W38 (Or.inl ne13))
  refine ow_getF C A36 tw_32 Via.refl f41 d7_15 rfl ?_
  intro T42 A43
  refine ow_icmp_ge C A43 d7_18 (by decide) (pcY := 55) (by decide) (pcN := 21) rfl (fun zq => absurd (by decide) zq) (fun _ => ?_)
  refine ow_aloadN C A43 d7_21 rfl rfl rfl ?_
  refine ow_iconst C A43 d7_22 (v := 2) rfl rfl ?_
  refine ow_iloadN C A43 d7_23 rfl rfl ?_
  refine ow_iloadN C A43 d7_24 rfl rfl ?_
  refine ow_isub C A43 d7_25 rfl ?_
  show OwnWP _ _ _ _ _ _ _ _ _ T42 (mkF m 26 #[.val (.ref a), .val (.int (0 : Int32)), .val (.ref b8), .val (.int (1 : Int32))] [(.int (1 : Int32)), (.int (2 : Int32)), (.ref b8)])
  refine ow_imul C A43 d7_26 rfl ?_
  show OwnWP _ _ _ _ _ _ _ _ _ T42 (mkF m 27 #[.val (.ref a), .val (.int (0 : Int32)), .val (.ref b8), .val (.int (1 : Int32))] [(.int (2 : Int32)), (.ref b8)])
  refine ow_aloadN C A43 d7_27 rfl rfl rfl ?_
  have f44 := ((f21.other W28 (Or.inl ne13)).other W38 (Or.inl ne13))
  refine ow_getF C A43 tw_10 Via.refl f44 d7_28 rfl ?_
  intro T45 A46
  refine ow_iloadN C A46 d7_31 rfl rfl ?_
  have f47 := ((f24.other W28 ne14).other W38 ne14)
  refine ow_laload C A46 f47 ⟨by decide, by decide⟩ (v := (.long k1)) rfl d7_32 rfl ?_
  refine ow_lastore C A46 V40 ⟨by decide, by decide⟩ (i := 2) rfl (Nat.le_of_ble_eq_true rfl) ows_b8 d7_33 rfl ?_
  intro T48 h50 W51 V52 A49
  have V53 : Arv Z h50 b8 kk9 .long (4 : Int32) [(.long k0), (.long n0), (.long k1), (.long (0 : Int64))] (.long (0 : Int64)) := V52
  refine ow_aloadN C A49 d7_34 rfl rfl rfl ?_
  refine ow_iconst C A49 d7_35 (v := 2) rfl rfl ?_
  refine ow_iloadN C A49 d7_36 rfl rfl ?_
  refine ow_iloadN C A49 d7_37 rfl rfl ?_
  refine ow_isub C A49 d7_38 rfl ?_
  show OwnWP _ _ _ _ _ _ _ _ _ T48 (mkF m 39 #[.val (.ref a), .val (.int (0 : Int32)), .val (.ref b8), .val (.int (1 : Int32))] [(.int (1 : Int32)), (.int (2 : Int32)), (.ref b8)])
  refine ow_imul C A49 d7_39 rfl ?_
  show OwnWP _ _ _ _ _ _ _ _ _ T48 (mkF m 40 #[.val (.ref a), .val (.int (0 : Int32)), .val (.ref b8), .val (.int (1 : Int32))] [(.int (2 : Int32)), (.ref b8)])
  refine ow_iconst C A49 d7_40 (v := 1) rfl rfl ?_
  refine ow_iadd C A49 d7_41 rfl ?_
  show OwnWP _ _ _ _ _ _ _ _ _ T48 (mkF m 42 #[.val (.ref a), .val (.int (0 : Int32)), .val (.ref b8), .val (.int (1 : Int32))] [(.int (3 : Int32)), (.ref b8)])
  refine ow_aloadN C A49 d7_42 rfl rfl rfl ?_
  have f54 := ((f31.other W38 (Or.inl ne13)).other W51 (Or.inl ne13))
  refine ow_getF C A49 tw_12 Via.refl f54 d7_43 rfl ?_
  intro T55 A56
  refine ow_iloadN C A56 d7_46 rfl rfl ?_
  have f57 := ((f34.other W38 ne15).other W51 ne15)
  refine ow_laload C A56 f57 ⟨by decide, by decide⟩ (v := (.long n1)) rfl d7_47 rfl ?_
  refine ow_lastore C A56 V53 ⟨by decide, by decide⟩ (i := 3) rfl (Nat.le_of_ble_eq_true rfl) ows_b8 d7_48 rfl ?_
  intro T58 h60 W61 V62 A59
  have V63 : Arv Z h60 b8 kk9 .long (4 : Int32) [(.long k0), (.long n0), (.long k1), (.long n1)] (.long (0 : Int64)) := V62
  refine ow_iinc C A59 d7_49 rfl (Ls' := #[.val (.ref a), .val (.int (0 : Int32)), .val (.ref b8), .val (.int (2 : Int32))]) rfl rfl ?_
  refine ow_goto C A59 d7_52 (by decide) (pc' := 13) (by decide) ?_
  refine ow_iloadN C A59 d7_13 rfl rfl ?_
  refine ow_aloadN C A59 d7_14 rfl rfl rfl ?_
  have f64 := ((f41.other W51 (Or.inl ne13)).other W61 (Or.inl ne13))
  refine ow_getF C A59 tw_32 Via.refl f64 d7_15 rfl ?_
  intro T65 A66
  refine ow_icmp_ge C A66 d7_18 (by decide) (pcY := 55) (by decide) (pcN := 21) rfl (fun _ => ?_) (fun zq => absurd zq (by decide))
  refine ow_aloadN C A66 d7_55 rfl rfl rfl ?_
  refine ow_areturn C A66 (t := (.array .long)) rfl rfl rfl d7_56 (by decide) (by decide) ?_
  exact ⟨b8, kk9, rfl, V63⟩
set_option maxRecDepth 65536 in
set_option maxHeartbeats 40000000 in
theorem rm_at2_0_0 (l : Launch) (Z : State) (a0 : Array Value) (hw : ∀ d ∈ tables_1, d.before a0 Z = true) (pA uA vA : Addr) (d1 d2 d3 : ClassId) (k0 n0 : Int64) (k1 n1 : Int64) (k2 n2 : Int64) (h0 : Heap) (V1 : Arv Z h0 pA d1 .long (4 : Int32) [(.long k0), (.long n0), (.long k1), (.long n1)] (.long (0 : Int64))) (V2 : Arv Z h0 uA d2 .long (3 : Int32) [(.long k0), (.long k1), (.long k2)] (.long (0 : Int64))) (V3 : Arv Z h0 vA d3 .long (3 : Int32) [(.long n0), (.long n1), (.long n2)] (.long (0 : Int64))) (cs : List Jvm.Cond) :
    OwnCtr l Z (⟨"com/example/ratebook/ratebook/journal/RecentKeysPairsFromPinLaw", "at", "([J[J[JIII)Z"⟩ : MethodName) method_3_code 7 (some .boolean) rmz #[(.ref pA), (.ref uA), (.ref vA), (.int (0 : Int32)), (.int (2 : Int32)), (.int (0 : Int32))] h0 [] (QI 1 h0) cs := by
  refine ow_ctr pn_8 hw (Ls := #[.val (.ref pA), .val (.ref uA), .val (.ref vA), .val (.int (0 : Int32)), .val (.int (2 : Int32)), .val (.int (0 : Int32)), .unset]) (fun m => by first | (simp [entryFrame, mkF, argsToLocals, Value.category]; done) | rfl) ?_
  intro p e s m below meth c T0 C A0
  refine ow_iloadN C A0 d8_0 rfl rfl ?_
  refine ow_iload C A0 d8_1 rfl rfl ?_
  refine ow_iadd C A0 d8_3 rfl ?_
  show OwnWP _ _ _ _ _ _ _ _ _ T0 (mkF m 4 #[.val (.ref pA), .val (.ref uA), .val (.ref vA), .val (.int (0 : Int32)), .val (.int (2 : Int32)), .val (.int (0 : Int32)), .unset] [(.int (0 : Int32))])
  refine ow_istore C A0 d8_4 (Ls' := #[.val (.ref pA), .val (.ref uA), .val (.ref vA), .val (.int (0 : Int32)), .val (.int (2 : Int32)), .val (.int (0 : Int32)), .val (.int (0 : Int32))]) rfl rfl ?_
  refine ow_iload C A0 d8_6 rfl rfl ?_
  refine ow_iload C A0 d8_8 rfl rfl ?_
  refine ow_icmp_lt C A0 d8_10 (by decide) (pcY := 15) (by decide) (pcN := 13) rfl (fun _ => ?_) (fun zq => absurd (by decide) zq)
  refine ow_aloadN C A0 d8_15 rfl rfl rfl ?_
  refine ow_iconst C A0 d8_16 (v := 2) rfl rfl ?_
  refine ow_iload C A0 d8_17 rfl rfl ?_
  refine ow_imul C A0 d8_19 rfl ?_
  show OwnWP _ _ _ _ _ _ _ _ _ T0 (mkF m 20 #[.val (.ref pA), .val (.ref uA), .val (.ref vA), .val (.int (0 : Int32)), .val (.int (2 : Int32)), .val (.int (0 : Int32)), .val (.int (0 : Int32))] [(.int (0 : Int32)), (.ref pA)])
  refine ow_laload C A0 V1 ⟨by decide, by decide⟩ (v := (.long k0)) rfl d8_20 rfl ?_
  refine ow_aloadN C A0 d8_21 rfl rfl rfl ?_
  refine ow_iload C A0 d8_22 rfl rfl ?_
  refine ow_laload C A0 V2 ⟨by decide, by decide⟩ (v := (.long k0)) rfl d8_24 rfl ?_
  refine ow_lcmp_ne C A0 d8_25 rfl d8_26 (by decide) (pcY := 49) (by decide) (pcN := 29) rfl (fun zq => absurd (rfl) zq) (fun _ => ?_)
  refine ow_aloadN C A0 d8_29 rfl rfl rfl ?_
  refine ow_iconst C A0 d8_30 (v := 2) rfl rfl ?_
  refine ow_iload C A0 d8_31 rfl rfl ?_
  refine ow_imul C A0 d8_33 rfl ?_
  show OwnWP _ _ _ _ _ _ _ _ _ T0 (mkF m 34 #[.val (.ref pA), .val (.ref uA), .val (.ref vA), .val (.int (0 : Int32)), .val (.int (2 : Int32)), .val (.int (0 : Int32)), .val (.int (0 : Int32))] [(.int (0 : Int32)), (.ref pA)])
  refine ow_iconst C A0 d8_34 (v := 1) rfl rfl ?_
  refine ow_iadd C A0 d8_35 rfl ?_
  show OwnWP _ _ _ _ _ _ _ _ _ T0 (mkF m 36 #[.val (.ref pA), .val (.ref uA), .val (.ref vA), .val (.int (0 : Int32)), .val (.int (2 : Int32)), .val (.int (0 : Int32)), .val (.int (0 : Int32))] [(.int (1 : Int32)), (.ref pA)])
  refine ow_laload C A0 V1 ⟨by decide, by decide⟩ (v := (.long n0)) rfl d8_36 rfl ?_
  refine ow_aloadN C A0 d8_37 rfl rfl rfl ?_
  refine ow_iload C A0 d8_38 rfl rfl ?_
  refine ow_laload C A0 V3 ⟨by decide, by decide⟩ (v := (.long n0)) rfl d8_40 rfl ?_
  refine ow_lcmp_ne C A0 d8_41 rfl d8_42 (by decide) (pcY := 49) (by decide) (pcN := 45) rfl (fun zq => absurd (rfl) zq) (fun _ => ?_)
  refine ow_iconst C A0 d8_45 (v := 1) rfl rfl ?_
  refine ow_goto C A0 d8_46 (by decide) (pc' := 50) (by decide) ?_
  refine ow_ireturn C A0 (t := .boolean) rfl rfl (by simp) d8_50 (by decide) (by decide) ?_
  exact ⟨rfl, rfl⟩
set_option maxRecDepth 65536 in
set_option maxHeartbeats 40000000 in
theorem rm_at2_0_1 (l : Launch) (Z : State) (a0 : Array Value) (hw : ∀ d ∈ tables_1, d.before a0 Z = true) (pA uA vA : Addr) (d1 d2 d3 : ClassId) (k0 n0 : Int64) (k1 n1 : Int64) (k2 n2 : Int64) (h0 : Heap) (V1 : Arv Z h0 pA d1 .long (4 : Int32) [(.long k0), (.long n0), (.long k1), (.long n1)] (.long (0 : Int64))) (V2 : Arv Z h0 uA d2 .long (3 : Int32) [(.long k0), (.long k1), (.long k2)] (.long (0 : Int64))) (V3 : Arv Z h0 vA d3 .long (3 : Int32) [(.long n0), (.long n1), (.long n2)] (.long (0 : Int64))) (cs : List Jvm.Cond) :
    OwnCtr l Z (⟨"com/example/ratebook/ratebook/journal/RecentKeysPairsFromPinLaw", "at", "([J[J[JIII)Z"⟩ : MethodName) method_3_code 7 (some .boolean) rmz #[(.ref pA), (.ref uA), (.ref vA), (.int (0 : Int32)), (.int (2 : Int32)), (.int (1 : Int32))] h0 [] (QI 1 h0) cs := by
  refine ow_ctr pn_8 hw (Ls := #[.val (.ref pA), .val (.ref uA), .val (.ref vA), .val (.int (0 : Int32)), .val (.int (2 : Int32)), .val (.int (1 : Int32)), .unset]) (fun m => by first | (simp [entryFrame, mkF, argsToLocals, Value.category]; done) | rfl) ?_
  intro p e s m below meth c T0 C A0
  refine ow_iloadN C A0 d8_0 rfl rfl ?_
  refine ow_iload C A0 d8_1 rfl rfl ?_
  refine ow_iadd C A0 d8_3 rfl ?_
  show OwnWP _ _ _ _ _ _ _ _ _ T0 (mkF m 4 #[.val (.ref pA), .val (.ref uA), .val (.ref vA), .val (.int (0 : Int32)), .val (.int (2 : Int32)), .val (.int (1 : Int32)), .unset] [(.int (1 : Int32))])
  refine ow_istore C A0 d8_4 (Ls' := #[.val (.ref pA), .val (.ref uA), .val (.ref vA), .val (.int (0 : Int32)), .val (.int (2 : Int32)), .val (.int (1 : Int32)), .val (.int (1 : Int32))]) rfl rfl ?_
  refine ow_iload C A0 d8_6 rfl rfl ?_
  refine ow_iload C A0 d8_8 rfl rfl ?_
  refine ow_icmp_lt C A0 d8_10 (by decide) (pcY := 15) (by decide) (pcN := 13) rfl (fun _ => ?_) (fun zq => absurd (by decide) zq)
  refine ow_aloadN C A0 d8_15 rfl rfl rfl ?_
  refine ow_iconst C A0 d8_16 (v := 2) rfl rfl ?_
  refine ow_iload C A0 d8_17 rfl rfl ?_
  refine ow_imul C A0 d8_19 rfl ?_
  show OwnWP _ _ _ _ _ _ _ _ _ T0 (mkF m 20 #[.val (.ref pA), .val (.ref uA), .val (.ref vA), .val (.int (0 : Int32)), .val (.int (2 : Int32)), .val (.int (1 : Int32)), .val (.int (1 : Int32))] [(.int (2 : Int32)), (.ref pA)])
  refine ow_laload C A0 V1 ⟨by decide, by decide⟩ (v := (.long k1)) rfl d8_20 rfl ?_
  refine ow_aloadN C A0 d8_21 rfl rfl rfl ?_
  refine ow_iload C A0 d8_22 rfl rfl ?_
  refine ow_laload C A0 V2 ⟨by decide, by decide⟩ (v := (.long k1)) rfl d8_24 rfl ?_
  refine ow_lcmp_ne C A0 d8_25 rfl d8_26 (by decide) (pcY := 49) (by decide) (pcN := 29) rfl (fun zq => absurd (rfl) zq) (fun _ => ?_)
  refine ow_aloadN C A0 d8_29 rfl rfl rfl ?_
  refine ow_iconst C A0 d8_30 (v := 2) rfl rfl ?_
  refine ow_iload C A0 d8_31 rfl rfl ?_
  refine ow_imul C A0 d8_33 rfl ?_
  show OwnWP _ _ _ _ _ _ _ _ _ T0 (mkF m 34 #[.val (.ref pA), .val (.ref uA), .val (.ref vA), .val (.int (0 : Int32)), .val (.int (2 : Int32)), .val (.int (1 : Int32)), .val (.int (1 : Int32))] [(.int (2 : Int32)), (.ref pA)])
  refine ow_iconst C A0 d8_34 (v := 1) rfl rfl ?_
  refine ow_iadd C A0 d8_35 rfl ?_
  show OwnWP _ _ _ _ _ _ _ _ _ T0 (mkF m 36 #[.val (.ref pA), .val (.ref uA), .val (.ref vA), .val (.int (0 : Int32)), .val (.int (2 : Int32)), .val (.int (1 : Int32)), .val (.int (1 : Int32))] [(.int (3 : Int32)), (.ref pA)])
  refine ow_laload C A0 V1 ⟨by decide, by decide⟩ (v := (.long n1)) rfl d8_36 rfl ?_
  refine ow_aloadN C A0 d8_37 rfl rfl rfl ?_
  refine ow_iload C A0 d8_38 rfl rfl ?_
  refine ow_laload C A0 V3 ⟨by decide, by decide⟩ (v := (.long n1)) rfl d8_40 rfl ?_
  refine ow_lcmp_ne C A0 d8_41 rfl d8_42 (by decide) (pcY := 49) (by decide) (pcN := 45) rfl (fun zq => absurd (rfl) zq) (fun _ => ?_)
  refine ow_iconst C A0 d8_45 (v := 1) rfl rfl ?_
  refine ow_goto C A0 d8_46 (by decide) (pc' := 50) (by decide) ?_
  refine ow_ireturn C A0 (t := .boolean) rfl rfl (by simp) d8_50 (by decide) (by decide) ?_
  exact ⟨rfl, rfl⟩
set_option maxRecDepth 65536 in
set_option maxHeartbeats 40000000 in
theorem rm_at2_0_2 (l : Launch) (Z : State) (a0 : Array Value) (hw : ∀ d ∈ tables_1, d.before a0 Z = true) (pA uA vA : Addr) (d1 d2 d3 : ClassId) (k0 n0 : Int64) (k1 n1 : Int64) (k2 n2 : Int64) (h0 : Heap) (V1 : Arv Z h0 pA d1 .long (4 : Int32) [(.long k0), (.long n0), (.long k1), (.long n1)] (.long (0 : Int64))) (V2 : Arv Z h0 uA d2 .long (3 : Int32) [(.long k0), (.long k1), (.long k2)] (.long (0 : Int64))) (V3 : Arv Z h0 vA d3 .long (3 : Int32) [(.long n0), (.long n1), (.long n2)] (.long (0 : Int64))) (cs : List Jvm.Cond) :
    OwnCtr l Z (⟨"com/example/ratebook/ratebook/journal/RecentKeysPairsFromPinLaw", "at", "([J[J[JIII)Z"⟩ : MethodName) method_3_code 7 (some .boolean) rmz #[(.ref pA), (.ref uA), (.ref vA), (.int (0 : Int32)), (.int (2 : Int32)), (.int (2 : Int32))] h0 [] (QI 1 h0) cs := by
  refine ow_ctr pn_8 hw (Ls := #[.val (.ref pA), .val (.ref uA), .val (.ref vA), .val (.int (0 : Int32)), .val (.int (2 : Int32)), .val (.int (2 : Int32)), .unset]) (fun m => by first | (simp [entryFrame, mkF, argsToLocals, Value.category]; done) | rfl) ?_
  intro p e s m below meth c T0 C A0
  refine ow_iloadN C A0 d8_0 rfl rfl ?_
  refine ow_iload C A0 d8_1 rfl rfl ?_
  refine ow_iadd C A0 d8_3 rfl ?_
  show OwnWP _ _ _ _ _ _ _ _ _ T0 (mkF m 4 #[.val (.ref pA), .val (.ref uA), .val (.ref vA), .val (.int (0 : Int32)), .val (.int (2 : Int32)), .val (.int (2 : Int32)), .unset] [(.int (2 : Int32))])
  refine ow_istore C A0 d8_4 (Ls' := #[.val (.ref pA), .val (.ref uA), .val (.ref vA), .val (.int (0 : Int32)), .val (.int (2 : Int32)), .val (.int (2 : Int32)), .val (.int (2 : Int32))]) rfl rfl ?_
  refine ow_iload C A0 d8_6 rfl rfl ?_
  refine ow_iload C A0 d8_8 rfl rfl ?_
  refine ow_icmp_lt C A0 d8_10 (by decide) (pcY := 15) (by decide) (pcN := 13) rfl (fun zq => absurd zq (by decide)) (fun _ => ?_)
  refine ow_iconst C A0 d8_13 (v := 1) rfl rfl ?_
  refine ow_ireturn C A0 (t := .boolean) rfl rfl (by simp) d8_14 (by decide) (by decide) ?_
  exact ⟨rfl, rfl⟩
set_option maxRecDepth 65536 in
set_option maxHeartbeats 40000000 in
theorem rm_pf2_1 (l : Launch) (Z : State) (a0 : Array Value) (hw : ∀ d ∈ tables_1, d.before a0 Z = true) (a kA nA sA : Addr) (c1 c2 c3 : ClassId) (k0 n0 : Int64) (k1 n1 : Int64) (h0 : Heap) (f : Nat → Int32) (O : Flds Z h0 a kA nA sA 2) (O2 : Arrs Z h0 kA nA sA c1 c2 c3 [(.long k0), (.long k1)] [(.long n0), (.long n1)] f) (cs : List Jvm.Cond) :
    OwnCtr l Z (⟨"com/example/ratebook/ratebook/journal/RecentKeys", "pairsFrom", "(I)[J"⟩ : MethodName) prog_11_method_5_code 4 (some (.array .long)) rmp #[(.ref a), (.int (1 : Int32))] h0 [] (QR Z (2 : Int32) [(.long k1), (.long n1)]) cs := by
  refine ow_ctr pn_7 hw (Ls := #[.val (.ref a), .val (.int (1 : Int32)), .unset, .unset]) (fun m => by first | (simp [entryFrame, mkF, argsToLocals, Value.category]; done) | rfl) ?_
  intro p e s m below meth c T0 C A0
  obtain ⟨xE1, xK1, xN1, xS1, xZ1⟩ := O
  obtain ⟨yK2, yN2, yS2⟩ := O2
  refine ow_iconst C A0 d7_0 (v := 2) rfl rfl ?_
  refine ow_aloadN C A0 d7_1 rfl rfl rfl ?_
  refine ow_getF C A0 tw_32 Via.refl xZ1 d7_2 rfl ?_
  intro T3 A4
  refine ow_iloadN C A4 d7_5 rfl rfl ?_
  refine ow_isub C A4 d7_6 rfl ?_
  show OwnWP _ _ _ _ _ _ _ _ _ T3 (mkF m 7 #[.val (.ref a), .val (.int (1 : Int32)), .unset, .unset] [(.int (1 : Int32)), (.int (2 : Int32))])
  refine ow_imul C A4 d7_7 rfl ?_
  show OwnWP _ _ _ _ _ _ _ _ _ T3 (mkF m 8 #[.val (.ref a), .val (.int (1 : Int32)), .unset, .unset] [(.int (2 : Int32))])
  refine ow_newA C A4 (ty := .long) rfl tw_0 d7_8 rfl (by decide) (cap := 2) (by decide) (by decide) (ck' := 1) (sk' := 2) rfl rfl (by decide) (by decide) ?_
  intro T5 h7 b8 kk9 g10 E11 V12 A6
  have ne13 : a ≠ b8 := Nat.ne_of_lt (Nat.lt_of_lt_of_le xE1.lt (Nat.le_of_eq g10.symm))
  have ne14 : kA ≠ b8 := Nat.ne_of_lt (Nat.lt_of_lt_of_le yK2.lt (Nat.le_of_eq g10.symm))
  have ne15 : nA ≠ b8 := Nat.ne_of_lt (Nat.lt_of_lt_of_le yN2.lt (Nat.le_of_eq g10.symm))
  have ne16 : sA ≠ b8 := Nat.ne_of_lt (Nat.lt_of_lt_of_le yS2.lt (Nat.le_of_eq g10.symm))
  have ows_b8 : b8 ∈ ([] : List Addr) ∨ h0.size ≤ b8 := Or.inr (Nat.le_trans (ow_le A4) (Nat.le_of_eq g10.symm))
  have V17 : Arv Z h7 b8 kk9 .long (2 : Int32) [(.long (0 : Int64)), (.long (0 : Int64))] (.long (0 : Int64)) := V12.pad (pad_rep [] (.long (0 : Int64)) 2)
  refine ow_astoreN C A6 d7_10 rfl (Ls' := #[.val (.ref a), .val (.int (1 : Int32)), .val (.ref b8), .unset]) rfl rfl ?_
  refine ow_iloadN C A6 d7_11 rfl rfl ?_
  refine ow_istoreN C A6 d7_12 (Ls' := #[.val (.ref a), .val (.int (1 : Int32)), .val (.ref b8), .val (.int (1 : Int32))]) rfl rfl ?_
  refine ow_iloadN C A6 d7_13 rfl rfl ?_
  refine ow_aloadN C A6 d7_14 rfl rfl rfl ?_
  have f18 := (xZ1.ext E11)
  refine ow_getF C A6 tw_32 Via.refl f18 d7_15 rfl ?_
  intro T19 A20
  refine ow_icmp_ge C A20 d7_18 (by decide) (pcY := 55) (by decide) (pcN := 21) rfl (fun zq => absurd (by decide) zq) (fun _ => ?_)
  refine ow_aloadN C A20 d7_21 rfl rfl rfl ?_
  refine ow_iconst C A20 d7_22 (v := 2) rfl rfl ?_
  refine ow_iloadN C A20 d7_23 rfl rfl ?_
  refine ow_iloadN C A20 d7_24 rfl rfl ?_
  refine ow_isub C A20 d7_25 rfl ?_
  show OwnWP _ _ _ _ _ _ _ _ _ T19 (mkF m 26 #[.val (.ref a), .val (.int (1 : Int32)), .val (.ref b8), .val (.int (1 : Int32))] [(.int (0 : Int32)), (.int (2 : Int32)), (.ref b8)])
  refine ow_imul C A20 d7_26 rfl ?_
  show OwnWP _ _ _ _ _ _ _ _ _ T19 (mkF m 27 #[.val (.ref a), .val (.int (1 : Int32)), .val (.ref b8), .val (.int (1 : Int32))] [(.int (0 : Int32)), (.ref b8)])
  refine ow_aloadN C A20 d7_27 rfl rfl rfl ?_
  have f21 := (xK1.ext E11)
  refine ow_getF C A20 tw_10 Via.refl f21 d7_28 rfl ?_
  intro T22 A23
  refine ow_iloadN C A23 d7_31 rfl rfl ?_
  have f24 := (yK2.ext E11)
  refine ow_laload C A23 f24 ⟨by decide, by decide⟩ (v := (.long k1)) rfl d7_32 rfl ?_
  refine ow_lastore C A23 V17 ⟨by decide, by decide⟩ (i := 0) rfl (Nat.le_of_ble_eq_true rfl) ows_b8 d7_33 rfl ?_
  intro T25 h27 W28 V29 A26
  have V30 : Arv Z h27 b8 kk9 .long (2 : Int32) [(.long k1), (.long (0 : Int64))] (.long (0 : Int64)) := V29
  refine ow_aloadN C A26 d7_34 rfl rfl rfl ?_
  refine ow_iconst C A26 d7_35 (v := 2) rfl rfl ?_
  refine ow_iloadN C A26 d7_36 rfl rfl ?_
  refine ow_iloadN C A26 d7_37 rfl rfl ?_
  refine ow_isub C A26 d7_38 rfl ?_
  show OwnWP _ _ _ _ _ _ _ _ _ T25 (mkF m 39 #[.val (.ref a), .val (.int (1 : Int32)), .val (.ref b8), .val (.int (1 : Int32))] [(.int (0 : Int32)), (.int (2 : Int32)), (.ref b8)])
  refine ow_imul C A26 d7_39 rfl ?_
  show OwnWP _ _ _ _ _ _ _ _ _ T25 (mkF m 40 #[.val (.ref a), .val (.int (1 : Int32)), .val (.ref b8), .val (.int (1 : Int32))] [(.int (0 : Int32)), (.ref b8)])
  refine ow_iconst C A26 d7_40 (v := 1) rfl rfl ?_
  refine ow_iadd C A26 d7_41 rfl ?_
  show OwnWP _ _ _ _ _ _ _ _ _ T25 (mkF m 42 #[.val (.ref a), .val (.int (1 : Int32)), .val (.ref b8), .val (.int (1 : Int32))] [(.int (1 : Int32)), (.ref b8)])
  refine ow_aloadN C A26 d7_42 rfl rfl rfl ?_
  have f31 := ((xN1.ext E11).other W28 (Or.inl ne13))
  refine ow_getF C A26 tw_12 Via.refl f31 d7_43 rfl ?_
  intro T32 A33
  refine ow_iloadN C A33 d7_46 rfl rfl ?_
  have f34 := ((yN2.ext E11).other W28 ne15)
  refine ow_laload C A33 f34 ⟨by decide, by decide⟩ (v := (.long n1)) rfl d7_47 rfl ?_
  refine ow_lastore C A33 V30 ⟨by decide, by decide⟩ (i := 1) rfl (Nat.le_of_ble_eq_true rfl) ows_b8 d7_48 rfl ?_
  intro T35 h37 W38 V39 A36
  have V40 : Arv Z h37 b8 kk9 .long (2 : Int32) [(.long k1), (.long n1)] (.long (0 : Int64)) := V39
  refine ow_iinc C A36 d7_49 rfl (Ls' := #[.val (.ref a), .val (.int (1 : Int32)), .val (.ref b8), .val (.int (2 : Int32))]) rfl rfl ?_
  refine ow_goto C A36 d7_52 (by decide) (pc' := 13) (by decide) ?_
  refine ow_iloadN C A36 d7_13 rfl rfl ?_
  refine ow_aloadN C A36 d7_14 rfl rfl rfl ?_
  have f41 := ((f18.other W28 (Or.inl ne13)).other W38 (Or.inl ne13))
  refine ow_getF C A36 tw_32 Via.refl f41 d7_15 rfl ?_
  intro T42 A43
  refine ow_icmp_ge C A43 d7_18 (by decide) (pcY := 55) (by decide) (pcN := 21) rfl (fun _ => ?_) (fun zq => absurd zq (by decide))
  refine ow_aloadN C A43 d7_55 rfl rfl rfl ?_
  refine ow_areturn C A43 (t := (.array .long)) rfl rfl rfl d7_56 (by decide) (by decide) ?_
  exact ⟨b8, kk9, rfl, V40⟩
set_option maxRecDepth 65536 in
set_option maxHeartbeats 40000000 in
theorem rm_at2_1_0 (l : Launch) (Z : State) (a0 : Array Value) (hw : ∀ d ∈ tables_1, d.before a0 Z = true) (pA uA vA : Addr) (d1 d2 d3 : ClassId) (k0 n0 : Int64) (k1 n1 : Int64) (k2 n2 : Int64) (h0 : Heap) (V1 : Arv Z h0 pA d1 .long (2 : Int32) [(.long k1), (.long n1)] (.long (0 : Int64))) (V2 : Arv Z h0 uA d2 .long (3 : Int32) [(.long k0), (.long k1), (.long k2)] (.long (0 : Int64))) (V3 : Arv Z h0 vA d3 .long (3 : Int32) [(.long n0), (.long n1), (.long n2)] (.long (0 : Int64))) (cs : List Jvm.Cond) :
    OwnCtr l Z (⟨"com/example/ratebook/ratebook/journal/RecentKeysPairsFromPinLaw", "at", "([J[J[JIII)Z"⟩ : MethodName) method_3_code 7 (some .boolean) rmz #[(.ref pA), (.ref uA), (.ref vA), (.int (1 : Int32)), (.int (2 : Int32)), (.int (0 : Int32))] h0 [] (QI 1 h0) cs := by
  refine ow_ctr pn_8 hw (Ls := #[.val (.ref pA), .val (.ref uA), .val (.ref vA), .val (.int (1 : Int32)), .val (.int (2 : Int32)), .val (.int (0 : Int32)), .unset]) (fun m => by first | (simp [entryFrame, mkF, argsToLocals, Value.category]; done) | rfl) ?_
  intro p e s m below meth c T0 C A0
  refine ow_iloadN C A0 d8_0 rfl rfl ?_
  refine ow_iload C A0 d8_1 rfl rfl ?_
  refine ow_iadd C A0 d8_3 rfl ?_
  show OwnWP _ _ _ _ _ _ _ _ _ T0 (mkF m 4 #[.val (.ref pA), .val (.ref uA), .val (.ref vA), .val (.int (1 : Int32)), .val (.int (2 : Int32)), .val (.int (0 : Int32)), .unset] [(.int (1 : Int32))])
  refine ow_istore C A0 d8_4 (Ls' := #[.val (.ref pA), .val (.ref uA), .val (.ref vA), .val (.int (1 : Int32)), .val (.int (2 : Int32)), .val (.int (0 : Int32)), .val (.int (1 : Int32))]) rfl rfl ?_
  refine ow_iload C A0 d8_6 rfl rfl ?_
  refine ow_iload C A0 d8_8 rfl rfl ?_
  refine ow_icmp_lt C A0 d8_10 (by decide) (pcY := 15) (by decide) (pcN := 13) rfl (fun _ => ?_) (fun zq => absurd (by decide) zq)
  refine ow_aloadN C A0 d8_15 rfl rfl rfl ?_
  refine ow_iconst C A0 d8_16 (v := 2) rfl rfl ?_
  refine ow_iload C A0 d8_17 rfl rfl ?_
  refine ow_imul C A0 d8_19 rfl ?_
  show OwnWP _ _ _ _ _ _ _ _ _ T0 (mkF m 20 #[.val (.ref pA), .val (.ref uA), .val (.ref vA), .val (.int (1 : Int32)), .val (.int (2 : Int32)), .val (.int (0 : Int32)), .val (.int (1 : Int32))] [(.int (0 : Int32)), (.ref pA)])
  refine ow_laload C A0 V1 ⟨by decide, by decide⟩ (v := (.long k1)) rfl d8_20 rfl ?_
  refine ow_aloadN C A0 d8_21 rfl rfl rfl ?_
  refine ow_iload C A0 d8_22 rfl rfl ?_
  refine ow_laload C A0 V2 ⟨by decide, by decide⟩ (v := (.long k1)) rfl d8_24 rfl ?_
  refine ow_lcmp_ne C A0 d8_25 rfl d8_26 (by decide) (pcY := 49) (by decide) (pcN := 29) rfl (fun zq => absurd (rfl) zq) (fun _ => ?_)
  refine ow_aloadN C A0 d8_29 rfl rfl rfl ?_
  refine ow_iconst C A0 d8_30 (v := 2) rfl rfl ?_
  refine ow_iload C A0 d8_31 rfl rfl ?_
  refine ow_imul C A0 d8_33 rfl ?_
  show OwnWP _ _ _ _ _ _ _ _ _ T0 (mkF m 34 #[.val (.ref pA), .val (.ref uA), .val (.ref vA), .val (.int (1 : Int32)), .val (.int (2 : Int32)), .val (.int (0 : Int32)), .val (.int (1 : Int32))] [(.int (0 : Int32)), (.ref pA)])
  refine ow_iconst C A0 d8_34 (v := 1) rfl rfl ?_
  refine ow_iadd C A0 d8_35 rfl ?_
  show OwnWP _ _ _ _ _ _ _ _ _ T0 (mkF m 36 #[.val (.ref pA), .val (.ref uA), .val (.ref vA), .val (.int (1 : Int32)), .val (.int (2 : Int32)), .val (.int (0 : Int32)), .val (.int (1 : Int32))] [(.int (1 : Int32)), (.ref pA)])
  refine ow_laload C A0 V1 ⟨by decide, by decide⟩ (v := (.long n1)) rfl d8_36 rfl ?_
  refine ow_aloadN C A0 d8_37 rfl rfl rfl ?_
  refine ow_iload C A0 d8_38 rfl rfl ?_
  refine ow_laload C A0 V3 ⟨by decide, by decide⟩ (v := (.long n1)) rfl d8_40 rfl ?_
  refine ow_lcmp_ne C A0 d8_41 rfl d8_42 (by decide) (pcY := 49) (by decide) (pcN := 45) rfl (fun zq => absurd (rfl) zq) (fun _ => ?_)
  refine ow_iconst C A0 d8_45 (v := 1) rfl rfl ?_
  refine ow_goto C A0 d8_46 (by decide) (pc' := 50) (by decide) ?_
  refine ow_ireturn C A0 (t := .boolean) rfl rfl (by simp) d8_50 (by decide) (by decide) ?_
  exact ⟨rfl, rfl⟩
set_option maxRecDepth 65536 in
set_option maxHeartbeats 40000000 in
theorem rm_at2_1_1 (l : Launch) (Z : State) (a0 : Array Value) (hw : ∀ d ∈ tables_1, d.before a0 Z = true) (pA uA vA : Addr) (d1 d2 d3 : ClassId) (k0 n0 : Int64) (k1 n1 : Int64) (k2 n2 : Int64) (h0 : Heap) (V1 : Arv Z h0 pA d1 .long (2 : Int32) [(.long k1), (.long n1)] (.long (0 : Int64))) (V2 : Arv Z h0 uA d2 .long (3 : Int32) [(.long k0), (.long k1), (.long k2)] (.long (0 : Int64))) (V3 : Arv Z h0 vA d3 .long (3 : Int32) [(.long n0), (.long n1), (.long n2)] (.long (0 : Int64))) (cs : List Jvm.Cond) :
    OwnCtr l Z (⟨"com/example/ratebook/ratebook/journal/RecentKeysPairsFromPinLaw", "at", "([J[J[JIII)Z"⟩ : MethodName) method_3_code 7 (some .boolean) rmz #[(.ref pA), (.ref uA), (.ref vA), (.int (1 : Int32)), (.int (2 : Int32)), (.int (1 : Int32))] h0 [] (QI 1 h0) cs := by
  refine ow_ctr pn_8 hw (Ls := #[.val (.ref pA), .val (.ref uA), .val (.ref vA), .val (.int (1 : Int32)), .val (.int (2 : Int32)), .val (.int (1 : Int32)), .unset]) (fun m => by first | (simp [entryFrame, mkF, argsToLocals, Value.category]; done) | rfl) ?_
  intro p e s m below meth c T0 C A0
  refine ow_iloadN C A0 d8_0 rfl rfl ?_
  refine ow_iload C A0 d8_1 rfl rfl ?_
  refine ow_iadd C A0 d8_3 rfl ?_
  show OwnWP _ _ _ _ _ _ _ _ _ T0 (mkF m 4 #[.val (.ref pA), .val (.ref uA), .val (.ref vA), .val (.int (1 : Int32)), .val (.int (2 : Int32)), .val (.int (1 : Int32)), .unset] [(.int (2 : Int32))])
  refine ow_istore C A0 d8_4 (Ls' := #[.val (.ref pA), .val (.ref uA), .val (.ref vA), .val (.int (1 : Int32)), .val (.int (2 : Int32)), .val (.int (1 : Int32)), .val (.int (2 : Int32))]) rfl rfl ?_
  refine ow_iload C A0 d8_6 rfl rfl ?_
  refine ow_iload C A0 d8_8 rfl rfl ?_
  refine ow_icmp_lt C A0 d8_10 (by decide) (pcY := 15) (by decide) (pcN := 13) rfl (fun zq => absurd zq (by decide)) (fun _ => ?_)
  refine ow_iconst C A0 d8_13 (v := 1) rfl rfl ?_
  refine ow_ireturn C A0 (t := .boolean) rfl rfl (by simp) d8_14 (by decide) (by decide) ?_
  exact ⟨rfl, rfl⟩
set_option maxRecDepth 65536 in
set_option maxHeartbeats 40000000 in
theorem rm_at2_1_2 (l : Launch) (Z : State) (a0 : Array Value) (hw : ∀ d ∈ tables_1, d.before a0 Z = true) (pA uA vA : Addr) (d1 d2 d3 : ClassId) (k0 n0 : Int64) (k1 n1 : Int64) (k2 n2 : Int64) (h0 : Heap) (V1 : Arv Z h0 pA d1 .long (2 : Int32) [(.long k1), (.long n1)] (.long (0 : Int64))) (V2 : Arv Z h0 uA d2 .long (3 : Int32) [(.long k0), (.long k1), (.long k2)] (.long (0 : Int64))) (V3 : Arv Z h0 vA d3 .long (3 : Int32) [(.long n0), (.long n1), (.long n2)] (.long (0 : Int64))) (cs : List Jvm.Cond) :
    OwnCtr l Z (⟨"com/example/ratebook/ratebook/journal/RecentKeysPairsFromPinLaw", "at", "([J[J[JIII)Z"⟩ : MethodName) method_3_code 7 (some .boolean) rmz #[(.ref pA), (.ref uA), (.ref vA), (.int (1 : Int32)), (.int (2 : Int32)), (.int (2 : Int32))] h0 [] (QI 1 h0) cs := by
  refine ow_ctr pn_8 hw (Ls := #[.val (.ref pA), .val (.ref uA), .val (.ref vA), .val (.int (1 : Int32)), .val (.int (2 : Int32)), .val (.int (2 : Int32)), .unset]) (fun m => by first | (simp [entryFrame, mkF, argsToLocals, Value.category]; done) | rfl) ?_
  intro p e s m below meth c T0 C A0
  refine ow_iloadN C A0 d8_0 rfl rfl ?_
  refine ow_iload C A0 d8_1 rfl rfl ?_
  refine ow_iadd C A0 d8_3 rfl ?_
  show OwnWP _ _ _ _ _ _ _ _ _ T0 (mkF m 4 #[.val (.ref pA), .val (.ref uA), .val (.ref vA), .val (.int (1 : Int32)), .val (.int (2 : Int32)), .val (.int (2 : Int32)), .unset] [(.int (3 : Int32))])
  refine ow_istore C A0 d8_4 (Ls' := #[.val (.ref pA), .val (.ref uA), .val (.ref vA), .val (.int (1 : Int32)), .val (.int (2 : Int32)), .val (.int (2 : Int32)), .val (.int (3 : Int32))]) rfl rfl ?_
  refine ow_iload C A0 d8_6 rfl rfl ?_
  refine ow_iload C A0 d8_8 rfl rfl ?_
  refine ow_icmp_lt C A0 d8_10 (by decide) (pcY := 15) (by decide) (pcN := 13) rfl (fun zq => absurd zq (by decide)) (fun _ => ?_)
  refine ow_iconst C A0 d8_13 (v := 1) rfl rfl ?_
  refine ow_ireturn C A0 (t := .boolean) rfl rfl (by simp) d8_14 (by decide) (by decide) ?_
  exact ⟨rfl, rfl⟩
set_option maxRecDepth 65536 in
set_option maxHeartbeats 40000000 in
theorem rm_pf2_2 (l : Launch) (Z : State) (a0 : Array Value) (hw : ∀ d ∈ tables_1, d.before a0 Z = true) (a kA nA sA : Addr) (c1 c2 c3 : ClassId) (k0 n0 : Int64) (k1 n1 : Int64) (h0 : Heap) (f : Nat → Int32) (O : Flds Z h0 a kA nA sA 2) (O2 : Arrs Z h0 kA nA sA c1 c2 c3 [(.long k0), (.long k1)] [(.long n0), (.long n1)] f) (cs : List Jvm.Cond) :
    OwnCtr l Z (⟨"com/example/ratebook/ratebook/journal/RecentKeys", "pairsFrom", "(I)[J"⟩ : MethodName) prog_11_method_5_code 4 (some (.array .long)) rmp #[(.ref a), (.int (2 : Int32))] h0 [] (QR Z (0 : Int32) []) cs := by
  refine ow_ctr pn_7 hw (Ls := #[.val (.ref a), .val (.int (2 : Int32)), .unset, .unset]) (fun m => by first | (simp [entryFrame, mkF, argsToLocals, Value.category]; done) | rfl) ?_
  intro p e s m below meth c T0 C A0
  obtain ⟨xE1, xK1, xN1, xS1, xZ1⟩ := O
  obtain ⟨yK2, yN2, yS2⟩ := O2
  refine ow_iconst C A0 d7_0 (v := 2) rfl rfl ?_
  refine ow_aloadN C A0 d7_1 rfl rfl rfl ?_
  refine ow_getF C A0 tw_32 Via.refl xZ1 d7_2 rfl ?_
  intro T3 A4
  refine ow_iloadN C A4 d7_5 rfl rfl ?_
  refine ow_isub C A4 d7_6 rfl ?_
  show OwnWP _ _ _ _ _ _ _ _ _ T3 (mkF m 7 #[.val (.ref a), .val (.int (2 : Int32)), .unset, .unset] [(.int (0 : Int32)), (.int (2 : Int32))])
  refine ow_imul C A4 d7_7 rfl ?_
  show OwnWP _ _ _ _ _ _ _ _ _ T3 (mkF m 8 #[.val (.ref a), .val (.int (2 : Int32)), .unset, .unset] [(.int (0 : Int32))])
  refine ow_newA C A4 (ty := .long) rfl tw_0 d7_8 rfl (by decide) (cap := 0) (by decide) (by decide) (ck' := 1) (sk' := 0) rfl rfl (by decide) (by decide) ?_
  intro T5 h7 b8 kk9 g10 E11 V12 A6
  have ne13 : a ≠ b8 := Nat.ne_of_lt (Nat.lt_of_lt_of_le xE1.lt (Nat.le_of_eq g10.symm))
  have ne14 : kA ≠ b8 := Nat.ne_of_lt (Nat.lt_of_lt_of_le yK2.lt (Nat.le_of_eq g10.symm))
  have ne15 : nA ≠ b8 := Nat.ne_of_lt (Nat.lt_of_lt_of_le yN2.lt (Nat.le_of_eq g10.symm))
  have ne16 : sA ≠ b8 := Nat.ne_of_lt (Nat.lt_of_lt_of_le yS2.lt (Nat.le_of_eq g10.symm))
  have ows_b8 : b8 ∈ ([] : List Addr) ∨ h0.size ≤ b8 := Or.inr (Nat.le_trans (ow_le A4) (Nat.le_of_eq g10.symm))
  have V17 : Arv Z h7 b8 kk9 .long (0 : Int32) [] (.long (0 : Int64)) := V12.pad (pad_rep [] (.long (0 : Int64)) 0)
  refine ow_astoreN C A6 d7_10 rfl (Ls' := #[.val (.ref a), .val (.int (2 : Int32)), .val (.ref b8), .unset]) rfl rfl ?_
  refine ow_iloadN C A6 d7_11 rfl rfl ?_
  refine ow_istoreN C A6 d7_12 (Ls' := #[.val (.ref a), .val (.int (2 : Int32)), .val (.ref b8), .val (.int (2 : Int32))]) rfl rfl ?_
  refine ow_iloadN C A6 d7_13 rfl rfl ?_
  refine ow_aloadN C A6 d7_14 rfl rfl rfl ?_
  have f18 := (xZ1.ext E11)
  refine ow_getF C A6 tw_32 Via.refl f18 d7_15 rfl ?_
  intro T19 A20
  refine ow_icmp_ge C A20 d7_18 (by decide) (pcY := 55) (by decide) (pcN := 21) rfl (fun _ => ?_) (fun zq => absurd zq (by decide))
  refine ow_aloadN C A20 d7_55 rfl rfl rfl ?_
  refine ow_areturn C A20 (t := (.array .long)) rfl rfl rfl d7_56 (by decide) (by decide) ?_
  exact ⟨b8, kk9, rfl, V17⟩
set_option maxRecDepth 65536 in
set_option maxHeartbeats 40000000 in
theorem rm_at2_2_0 (l : Launch) (Z : State) (a0 : Array Value) (hw : ∀ d ∈ tables_1, d.before a0 Z = true) (pA uA vA : Addr) (d1 d2 d3 : ClassId) (k0 n0 : Int64) (k1 n1 : Int64) (k2 n2 : Int64) (h0 : Heap) (V1 : Arv Z h0 pA d1 .long (0 : Int32) [] (.long (0 : Int64))) (V2 : Arv Z h0 uA d2 .long (3 : Int32) [(.long k0), (.long k1), (.long k2)] (.long (0 : Int64))) (V3 : Arv Z h0 vA d3 .long (3 : Int32) [(.long n0), (.long n1), (.long n2)] (.long (0 : Int64))) (cs : List Jvm.Cond) :
    OwnCtr l Z (⟨"com/example/ratebook/ratebook/journal/RecentKeysPairsFromPinLaw", "at", "([J[J[JIII)Z"⟩ : MethodName) method_3_code 7 (some .boolean) rmz #[(.ref pA), (.ref uA), (.ref vA), (.int (2 : Int32)), (.int (2 : Int32)), (.int (0 : Int32))] h0 [] (QI 1 h0) cs := by
  refine ow_ctr pn_8 hw (Ls := #[.val (.ref pA), .val (.ref uA), .val (.ref vA), .val (.int (2 : Int32)), .val (.int (2 : Int32)), .val (.int (0 : Int32)), .unset]) (fun m => by first | (simp [entryFrame, mkF, argsToLocals, Value.category]; done) | rfl) ?_
  intro p e s m below meth c T0 C A0
  refine ow_iloadN C A0 d8_0 rfl rfl ?_
  refine ow_iload C A0 d8_1 rfl rfl ?_
  refine ow_iadd C A0 d8_3 rfl ?_
  show OwnWP _ _ _ _ _ _ _ _ _ T0 (mkF m 4 #[.val (.ref pA), .val (.ref uA), .val (.ref vA), .val (.int (2 : Int32)), .val (.int (2 : Int32)), .val (.int (0 : Int32)), .unset] [(.int (2 : Int32))])
  refine ow_istore C A0 d8_4 (Ls' := #[.val (.ref pA), .val (.ref uA), .val (.ref vA), .val (.int (2 : Int32)), .val (.int (2 : Int32)), .val (.int (0 : Int32)), .val (.int (2 : Int32))]) rfl rfl ?_
  refine ow_iload C A0 d8_6 rfl rfl ?_
  refine ow_iload C A0 d8_8 rfl rfl ?_
  refine ow_icmp_lt C A0 d8_10 (by decide) (pcY := 15) (by decide) (pcN := 13) rfl (fun zq => absurd zq (by decide)) (fun _ => ?_)
  refine ow_iconst C A0 d8_13 (v := 1) rfl rfl ?_
  refine ow_ireturn C A0 (t := .boolean) rfl rfl (by simp) d8_14 (by decide) (by decide) ?_
  exact ⟨rfl, rfl⟩
set_option maxRecDepth 65536 in
set_option maxHeartbeats 40000000 in
theorem rm_at2_2_1 (l : Launch) (Z : State) (a0 : Array Value) (hw : ∀ d ∈ tables_1, d.before a0 Z = true) (pA uA vA : Addr) (d1 d2 d3 : ClassId) (k0 n0 : Int64) (k1 n1 : Int64) (k2 n2 : Int64) (h0 : Heap) (V1 : Arv Z h0 pA d1 .long (0 : Int32) [] (.long (0 : Int64))) (V2 : Arv Z h0 uA d2 .long (3 : Int32) [(.long k0), (.long k1), (.long k2)] (.long (0 : Int64))) (V3 : Arv Z h0 vA d3 .long (3 : Int32) [(.long n0), (.long n1), (.long n2)] (.long (0 : Int64))) (cs : List Jvm.Cond) :
    OwnCtr l Z (⟨"com/example/ratebook/ratebook/journal/RecentKeysPairsFromPinLaw", "at", "([J[J[JIII)Z"⟩ : MethodName) method_3_code 7 (some .boolean) rmz #[(.ref pA), (.ref uA), (.ref vA), (.int (2 : Int32)), (.int (2 : Int32)), (.int (1 : Int32))] h0 [] (QI 1 h0) cs := by
  refine ow_ctr pn_8 hw (Ls := #[.val (.ref pA), .val (.ref uA), .val (.ref vA), .val (.int (2 : Int32)), .val (.int (2 : Int32)), .val (.int (1 : Int32)), .unset]) (fun m => by first | (simp [entryFrame, mkF, argsToLocals, Value.category]; done) | rfl) ?_
  intro p e s m below meth c T0 C A0
  refine ow_iloadN C A0 d8_0 rfl rfl ?_
  refine ow_iload C A0 d8_1 rfl rfl ?_
  refine ow_iadd C A0 d8_3 rfl ?_
  show OwnWP _ _ _ _ _ _ _ _ _ T0 (mkF m 4 #[.val (.ref pA), .val (.ref uA), .val (.ref vA), .val (.int (2 : Int32)), .val (.int (2 : Int32)), .val (.int (1 : Int32)), .unset] [(.int (3 : Int32))])
  refine ow_istore C A0 d8_4 (Ls' := #[.val (.ref pA), .val (.ref uA), .val (.ref vA), .val (.int (2 : Int32)), .val (.int (2 : Int32)), .val (.int (1 : Int32)), .val (.int (3 : Int32))]) rfl rfl ?_
  refine ow_iload C A0 d8_6 rfl rfl ?_
  refine ow_iload C A0 d8_8 rfl rfl ?_
  refine ow_icmp_lt C A0 d8_10 (by decide) (pcY := 15) (by decide) (pcN := 13) rfl (fun zq => absurd zq (by decide)) (fun _ => ?_)
  refine ow_iconst C A0 d8_13 (v := 1) rfl rfl ?_
  refine ow_ireturn C A0 (t := .boolean) rfl rfl (by simp) d8_14 (by decide) (by decide) ?_
  exact ⟨rfl, rfl⟩
set_option maxRecDepth 65536 in
set_option maxHeartbeats 40000000 in
theorem rm_at2_2_2 (l : Launch) (Z : State) (a0 : Array Value) (hw : ∀ d ∈ tables_1, d.before a0 Z = true) (pA uA vA : Addr) (d1 d2 d3 : ClassId) (k0 n0 : Int64) (k1 n1 : Int64) (k2 n2 : Int64) (h0 : Heap) (V1 : Arv Z h0 pA d1 .long (0 : Int32) [] (.long (0 : Int64))) (V2 : Arv Z h0 uA d2 .long (3 : Int32) [(.long k0), (.long k1), (.long k2)] (.long (0 : Int64))) (V3 : Arv Z h0 vA d3 .long (3 : Int32) [(.long n0), (.long n1), (.long n2)] (.long (0 : Int64))) (cs : List Jvm.Cond) :
    OwnCtr l Z (⟨"com/example/ratebook/ratebook/journal/RecentKeysPairsFromPinLaw", "at", "([J[J[JIII)Z"⟩ : MethodName) method_3_code 7 (some .boolean) rmz #[(.ref pA), (.ref uA), (.ref vA), (.int (2 : Int32)), (.int (2 : Int32)), (.int (2 : Int32))] h0 [] (QI 1 h0) cs := by
  refine ow_ctr pn_8 hw (Ls := #[.val (.ref pA), .val (.ref uA), .val (.ref vA), .val (.int (2 : Int32)), .val (.int (2 : Int32)), .val (.int (2 : Int32)), .unset]) (fun m => by first | (simp [entryFrame, mkF, argsToLocals, Value.category]; done) | rfl) ?_
  intro p e s m below meth c T0 C A0
  refine ow_iloadN C A0 d8_0 rfl rfl ?_
  refine ow_iload C A0 d8_1 rfl rfl ?_
  refine ow_iadd C A0 d8_3 rfl ?_
  show OwnWP _ _ _ _ _ _ _ _ _ T0 (mkF m 4 #[.val (.ref pA), .val (.ref uA), .val (.ref vA), .val (.int (2 : Int32)), .val (.int (2 : Int32)), .val (.int (2 : Int32)), .unset] [(.int (4 : Int32))])
  refine ow_istore C A0 d8_4 (Ls' := #[.val (.ref pA), .val (.ref uA), .val (.ref vA), .val (.int (2 : Int32)), .val (.int (2 : Int32)), .val (.int (2 : Int32)), .val (.int (4 : Int32))]) rfl rfl ?_
  refine ow_iload C A0 d8_6 rfl rfl ?_
  refine ow_iload C A0 d8_8 rfl rfl ?_
  refine ow_icmp_lt C A0 d8_10 (by decide) (pcY := 15) (by decide) (pcN := 13) rfl (fun zq => absurd zq (by decide)) (fun _ => ?_)
  refine ow_iconst C A0 d8_13 (v := 1) rfl rfl ?_
  refine ow_ireturn C A0 (t := .boolean) rfl rfl (by simp) d8_14 (by decide) (by decide) ?_
  exact ⟨rfl, rfl⟩
set_option maxRecDepth 65536 in
set_option maxHeartbeats 40000000 in
theorem rm_pf3_0 (l : Launch) (Z : State) (a0 : Array Value) (hw : ∀ d ∈ tables_1, d.before a0 Z = true) (a kA nA sA : Addr) (c1 c2 c3 : ClassId) (k0 n0 : Int64) (k1 n1 : Int64) (k2 n2 : Int64) (h0 : Heap) (f : Nat → Int32) (O : Flds Z h0 a kA nA sA 3) (O2 : Arrs Z h0 kA nA sA c1 c2 c3 [(.long k0), (.long k1), (.long k2)] [(.long n0), (.long n1), (.long n2)] f) (cs : List Jvm.Cond) :
    OwnCtr l Z (⟨"com/example/ratebook/ratebook/journal/RecentKeys", "pairsFrom", "(I)[J"⟩ : MethodName) prog_11_method_5_code 4 (some (.array .long)) rmp #[(.ref a), (.int (0 : Int32))] h0 [] (QR Z (6 : Int32) [(.long k0), (.long n0), (.long k1), (.long n1), (.long k2), (.long n2)]) cs := by
  refine ow_ctr pn_7 hw (Ls := #[.val (.ref a), .val (.int (0 : Int32)), .unset, .unset]) (fun m => by first | (simp [entryFrame, mkF, argsToLocals, Value.category]; done) | rfl) ?_
  intro p e s m below meth c T0 C A0
  obtain ⟨xE1, xK1, xN1, xS1, xZ1⟩ := O
  obtain ⟨yK2, yN2, yS2⟩ := O2
  refine ow_iconst C A0 d7_0 (v := 2) rfl rfl ?_
  refine ow_aloadN C A0 d7_1 rfl rfl rfl ?_
  refine ow_getF C A0 tw_32 Via.refl xZ1 d7_2 rfl ?_
  intro T3 A4
  refine ow_iloadN C A4 d7_5 rfl rfl ?_
  refine ow_isub C A4 d7_6 rfl ?_
  show OwnWP _ _ _ _ _ _ _ _ _ T3 (mkF m 7 #[.val (.ref a), .val (.int (0 : Int32)), .unset, .unset] [(.int (3 : Int32)), (.int (2 : Int32))])
  refine ow_imul C A4 d7_7 rfl ?_
  show OwnWP _ _ _ _ _ _ _ _ _ T3 (mkF m 8 #[.val (.ref a), .val (.int (0 : Int32)), .unset, .unset] [(.int (6 : Int32))])
  refine ow_newA C A4 (ty := .long) rfl tw_0 d7_8 rfl (by decide) (cap := 6) (by decide) (by decide) (ck' := 1) (sk' := 6) rfl rfl (by decide) (by decide) ?_
  intro T5 h7 b8 kk9 g10 E11 V12 A6
  have ne13 : a ≠ b8 := Nat.ne_of_lt (Nat.lt_of_lt_of_le xE1.lt (Nat.le_of_eq g10.symm))
  have ne14 : kA ≠ b8 := Nat.ne_of_lt (Nat.lt_of_lt_of_le yK2.lt (Nat.le_of_eq g10.symm))
  have ne15 : nA ≠ b8 := Nat.ne_of_lt (Nat.lt_of_lt_of_le yN2.lt (Nat.le_of_eq g10.symm))
  have ne16 : sA ≠ b8 := Nat.ne_of_lt (Nat.lt_of_lt_of_le yS2.lt (Nat.le_of_eq g10.symm))
  have ows_b8 : b8 ∈ ([] : List Addr) ∨ h0.size ≤ b8 := Or.inr (Nat.le_trans (ow_le A4) (Nat.le_of_eq g10.symm))
  have V17 : Arv Z h7 b8 kk9 .long (6 : Int32) [(.long (0 : Int64)), (.long (0 : Int64)), (.long (0 : Int64)), (.long (0 : Int64)), (.long (0 : Int64)), (.long (0 : Int64))] (.long (0 : Int64)) := V12.pad (pad_rep [] (.long (0 : Int64)) 6)
  refine ow_astoreN C A6 d7_10 rfl (Ls' := #[.val (.ref a), .val (.int (0 : Int32)), .val (.ref b8), .unset]) rfl rfl ?_
  refine ow_iloadN C A6 d7_11 rfl rfl ?_
  refine ow_istoreN C A6 d7_12 (Ls' := #[.val (.ref a), .val (.int (0 : Int32)), .val (.ref b8), .val (.int (0 : Int32))]) rfl rfl ?_
  refine ow_iloadN C A6 d7_13 rfl rfl ?_
  refine ow_aloadN C A6 d7_14 rfl rfl rfl ?_
  have f18 := (xZ1.ext E11)
  refine ow_getF C A6 tw_32 Via.refl f18 d7_15 rfl ?_
  intro T19 A20
  refine ow_icmp_ge C A20 d7_18 (by decide) (pcY := 55) (by decide) (pcN := 21) rfl (fun zq => absurd (by decide) zq) (fun _ => ?_)
  refine ow_aloadN C A20 d7_21 rfl rfl rfl ?_
  refine ow_iconst C A20 d7_22 (v := 2) rfl rfl ?_
  refine ow_iloadN C A20 d7_23 rfl rfl ?_
  refine ow_iloadN C A20 d7_24 rfl rfl ?_
  refine ow_isub C A20 d7_25 rfl ?_
  show OwnWP _ _ _ _ _ _ _ _ _ T19 (mkF m 26 #[.val (.ref a), .val (.int (0 : Int32)), .val (.ref b8), .val (.int (0 : Int32))] [(.int (0 : Int32)), (.int (2 : Int32)), (.ref b8)])
  refine ow_imul C A20 d7_26 rfl ?_
  show OwnWP _ _ _ _ _ _ _ _ _ T19 (mkF m 27 #[.val (.ref a), .val (.int (0 : Int32)), .val (.ref b8), .val (.int (0 : Int32))] [(.int (0 : Int32)), (.ref b8)])
  refine ow_aloadN C A20 d7_27 rfl rfl rfl ?_
  have f21 := (xK1.ext E11)
  refine ow_getF C A20 tw_10 Via.refl f21 d7_28 rfl ?_
  intro T22 A23
  refine ow_iloadN C A23 d7_31 rfl rfl ?_
  have f24 := (yK2.ext E11)
  refine ow_laload C A23 f24 ⟨by decide, by decide⟩ (v := (.long k0)) rfl d7_32 rfl ?_
  refine ow_lastore C A23 V17 ⟨by decide, by decide⟩ (i := 0) rfl (Nat.le_of_ble_eq_true rfl) ows_b8 d7_33 rfl ?_
  intro T25 h27 W28 V29 A26
  have V30 : Arv Z h27 b8 kk9 .long (6 : Int32) [(.long k0), (.long (0 : Int64)), (.long (0 : Int64)), (.long (0 : Int64)), (.long (0 : Int64)), (.long (0 : Int64))] (.long (0 : Int64)) := V29
  refine ow_aloadN C A26 d7_34 rfl rfl rfl ?_
  refine ow_iconst C A26 d7_35 (v := 2) rfl rfl ?_
  refine ow_iloadN C A26 d7_36 rfl rfl ?_
  refine ow_iloadN C A26 d7_37 rfl rfl ?_
  refine ow_isub C A26 d7_38 rfl ?_
  show OwnWP _ _ _ _ _ _ _ _ _ T25 (mkF m 39 #[.val (.ref a), .val (.int (0 : Int32)), .val (.ref b8), .val (.int (0 : Int32))] [(.int (0 : Int32)), (.int (2 : Int32)), (.ref b8)])
  refine ow_imul C A26 d7_39 rfl ?_
  show OwnWP _ _ _ _ _ _ _ _ _ T25 (mkF m 40 #[.val (.ref a), .val (.int (0 : Int32)), .val (.ref b8), .val (.int (0 : Int32))] [(.int (0 : Int32)), (.ref b8)])
  refine ow_iconst C A26 d7_40 (v := 1) rfl rfl ?_
  refine ow_iadd C A26 d7_41 rfl ?_
  show OwnWP _ _ _ _ _ _ _ _ _ T25 (mkF m 42 #[.val (.ref a), .val (.int (0 : Int32)), .val (.ref b8), .val (.int (0 : Int32))] [(.int (1 : Int32)), (.ref b8)])
  refine ow_aloadN C A26 d7_42 rfl rfl rfl ?_
  have f31 := ((xN1.ext E11).other W28 (Or.inl ne13))
  refine ow_getF C A26 tw_12 Via.refl f31 d7_43 rfl ?_
  intro T32 A33
  refine ow_iloadN C A33 d7_46 rfl rfl ?_
  have f34 := ((yN2.ext E11).other W28 ne15)
  refine ow_laload C A33 f34 ⟨by decide, by decide⟩ (v := (.long n0)) rfl d7_47 rfl ?_
  refine ow_lastore C A33 V30 ⟨by decide, by decide⟩ (i := 1) rfl (Nat.le_of_ble_eq_true rfl) ows_b8 d7_48 rfl ?_
  intro T35 h37 W38 V39 A36
  have V40 : Arv Z h37 b8 kk9 .long (6 : Int32) [(.long k0), (.long n0), (.long (0 : Int64)), (.long (0 : Int64)), (.long (0 : Int64)), (.long (0 : Int64))] (.long (0 : Int64)) := V39
  refine ow_iinc C A36 d7_49 rfl (Ls' := #[.val (.ref a), .val (.int (0 : Int32)), .val (.ref b8), .val (.int (1 : Int32))]) rfl rfl ?_
  refine ow_goto C A36 d7_52 (by decide) (pc' := 13) (by decide) ?_
  refine ow_iloadN C A36 d7_13 rfl rfl ?_
  refine ow_aloadN C A36 d7_14 rfl rfl rfl ?_
  have f41 := ((f18.other W28 (Or.inl ne13)).other W38 (Or.inl ne13))
  refine ow_getF C A36 tw_32 Via.refl f41 d7_15 rfl ?_
  intro T42 A43
  refine ow_icmp_ge C A43 d7_18 (by decide) (pcY := 55) (by decide) (pcN := 21) rfl (fun zq => absurd (by decide) zq) (fun _ => ?_)
  refine ow_aloadN C A43 d7_21 rfl rfl rfl ?_
  refine ow_iconst C A43 d7_22 (v := 2) rfl rfl ?_
  refine ow_iloadN C A43 d7_23 rfl rfl ?_
  refine ow_iloadN C A43 d7_24 rfl rfl ?_
  refine ow_isub C A43 d7_25 rfl ?_
  show OwnWP _ _ _ _ _ _ _ _ _ T42 (mkF m 26 #[.val (.ref a), .val (.int (0 : Int32)), .val (.ref b8), .val (.int (1 : Int32))] [(.int (1 : Int32)), (.int (2 : Int32)), (.ref b8)])
  refine ow_imul C A43 d7_26 rfl ?_
  show OwnWP _ _ _ _ _ _ _ _ _ T42 (mkF m 27 #[.val (.ref a), .val (.int (0 : Int32)), .val (.ref b8), .val (.int (1 : Int32))] [(.int (2 : Int32)), (.ref b8)])
  refine ow_aloadN C A43 d7_27 rfl rfl rfl ?_
  have f44 := ((f21.other W28 (Or.inl ne13)).other W38 (Or.inl ne13))
  refine ow_getF C A43 tw_10 Via.refl f44 d7_28 rfl ?_
  intro T45 A46
  refine ow_iloadN C A46 d7_31 rfl rfl ?_
  have f47 := ((f24.other W28 ne14).other W38 ne14)
  refine ow_laload C A46 f47 ⟨by decide, by decide⟩ (v := (.long k1)) rfl d7_32 rfl ?_
  refine ow_lastore C A46 V40 ⟨by decide, by decide⟩ (i := 2) rfl (Nat.le_of_ble_eq_true rfl) ows_b8 d7_33 rfl ?_
  intro T48 h50 W51 V52 A49
  have V53 : Arv Z h50 b8 kk9 .long (6 : Int32) [(.long k0), (.long n0), (.long k1), (.long (0 : Int64)), (.long (0 : Int64)), (.long (0 : Int64))] (.long (0 : Int64)) := V52
  refine ow_aloadN C A49 d7_34 rfl rfl rfl ?_
  refine ow_iconst C A49 d7_35 (v := 2) rfl rfl ?_
  refine ow_iloadN C A49 d7_36 rfl rfl ?_
  refine ow_iloadN C A49 d7_37 rfl rfl ?_
  refine ow_isub C A49 d7_38 rfl ?_
  show OwnWP _ _ _ _ _ _ _ _ _ T48 (mkF m 39 #[.val (.ref a), .val (.int (0 : Int32)), .val (.ref b8), .val (.int (1 : Int32))] [(.int (1 : Int32)), (.int (2 : Int32)), (.ref b8)])
  refine ow_imul C A49 d7_39 rfl ?_
  show OwnWP _ _ _ _ _ _ _ _ _ T48 (mkF m 40 #[.val (.ref a), .val (.int (0 : Int32)), .val (.ref b8), .val (.int (1 : Int32))] [(.int (2 : Int32)), (.ref b8)])
  refine ow_iconst C A49 d7_40 (v := 1) rfl rfl ?_
  refine ow_iadd C A49 d7_41 rfl ?_
  show OwnWP _ _ _ _ _ _ _ _ _ T48 (mkF m 42 #[.val (.ref a), .val (.int (0 : Int32)), .val (.ref b8), .val (.int (1 : Int32))] [(.int (3 : Int32)), (.ref b8)])
  refine ow_aloadN C A49 d7_42 rfl rfl rfl ?_
  have f54 := ((f31.other W38 (Or.inl ne13)).other W51 (Or.inl ne13))
  refine ow_getF C A49 tw_12 Via.refl f54 d7_43 rfl ?_
  intro T55 A56
  refine ow_iloadN C A56 d7_46 rfl rfl ?_
  have f57 := ((f34.other W38 ne15).other W51 ne15)
  refine ow_laload C A56 f57 ⟨by decide, by decide⟩ (v := (.long n1)) rfl d7_47 rfl ?_
  refine ow_lastore C A56 V53 ⟨by decide, by decide⟩ (i := 3) rfl (Nat.le_of_ble_eq_true rfl) ows_b8 d7_48 rfl ?_
  intro T58 h60 W61 V62 A59
  have V63 : Arv Z h60 b8 kk9 .long (6 : Int32) [(.long k0), (.long n0), (.long k1), (.long n1), (.long (0 : Int64)), (.long (0 : Int64))] (.long (0 : Int64)) := V62
  refine ow_iinc C A59 d7_49 rfl (Ls' := #[.val (.ref a), .val (.int (0 : Int32)), .val (.ref b8), .val (.int (2 : Int32))]) rfl rfl ?_
  refine ow_goto C A59 d7_52 (by decide) (pc' := 13) (by decide) ?_
  refine ow_iloadN C A59 d7_13 rfl rfl ?_
  refine ow_aloadN C A59 d7_14 rfl rfl rfl ?_
  have f64 := ((f41.other W51 (Or.inl ne13)).other W61 (Or.inl ne13))
  refine ow_getF C A59 tw_32 Via.refl f64 d7_15 rfl ?_
  intro T65 A66
  refine ow_icmp_ge C A66 d7_18 (by decide) (pcY := 55) (by decide) (pcN := 21) rfl (fun zq => absurd (by decide) zq) (fun _ => ?_)
  refine ow_aloadN C A66 d7_21 rfl rfl rfl ?_
  refine ow_iconst C A66 d7_22 (v := 2) rfl rfl ?_
  refine ow_iloadN C A66 d7_23 rfl rfl ?_
  refine ow_iloadN C A66 d7_24 rfl rfl ?_
  refine ow_isub C A66 d7_25 rfl ?_
  show OwnWP _ _ _ _ _ _ _ _ _ T65 (mkF m 26 #[.val (.ref a), .val (.int (0 : Int32)), .val (.ref b8), .val (.int (2 : Int32))] [(.int (2 : Int32)), (.int (2 : Int32)), (.ref b8)])
  refine ow_imul C A66 d7_26 rfl ?_
  show OwnWP _ _ _ _ _ _ _ _ _ T65 (mkF m 27 #[.val (.ref a), .val (.int (0 : Int32)), .val (.ref b8), .val (.int (2 : Int32))] [(.int (4 : Int32)), (.ref b8)])
  refine ow_aloadN C A66 d7_27 rfl rfl rfl ?_
  have f67 := ((f44.other W51 (Or.inl ne13)).other W61 (Or.inl ne13))
  refine ow_getF C A66 tw_10 Via.refl f67 d7_28 rfl ?_
  intro T68 A69
  refine ow_iloadN C A69 d7_31 rfl rfl ?_
  have f70 := ((f47.other W51 ne14).other W61 ne14)
  refine ow_laload C A69 f70 ⟨by decide, by decide⟩ (v := (.long k2)) rfl d7_32 rfl ?_
  refine ow_lastore C A69 V63 ⟨by decide, by decide⟩ (i := 4) rfl (Nat.le_of_ble_eq_true rfl) ows_b8 d7_33 rfl ?_
  intro T71 h73 W74 V75 A72
  have V76 : Arv Z h73 b8 kk9 .long (6 : Int32) [(.long k0), (.long n0), (.long k1), (.long n1), (.long k2), (.long (0 : Int64))] (.long (0 : Int64)) := V75
  refine ow_aloadN C A72 d7_34 rfl rfl rfl ?_
  refine ow_iconst C A72 d7_35 (v := 2) rfl rfl ?_
  refine ow_iloadN C A72 d7_36 rfl rfl ?_
  refine ow_iloadN C A72 d7_37 rfl rfl ?_
  refine ow_isub C A72 d7_38 rfl ?_
  show OwnWP _ _ _ _ _ _ _ _ _ T71 (mkF m 39 #[.val (.ref a), .val (.int (0 : Int32)), .val (.ref b8), .val (.int (2 : Int32))] [(.int (2 : Int32)), (.int (2 : Int32)), (.ref b8)])
  refine ow_imul C A72 d7_39 rfl ?_
  show OwnWP _ _ _ _ _ _ _ _ _ T71 (mkF m 40 #[.val (.ref a), .val (.int (0 : Int32)), .val (.ref b8), .val (.int (2 : Int32))] [(.int (4 : Int32)), (.ref b8)])
  refine ow_iconst C A72 d7_40 (v := 1) rfl rfl ?_
  refine ow_iadd C A72 d7_41 rfl ?_
  show OwnWP _ _ _ _ _ _ _ _ _ T71 (mkF m 42 #[.val (.ref a), .val (.int (0 : Int32)), .val (.ref b8), .val (.int (2 : Int32))] [(.int (5 : Int32)), (.ref b8)])
  refine ow_aloadN C A72 d7_42 rfl rfl rfl ?_
  have f77 := ((f54.other W61 (Or.inl ne13)).other W74 (Or.inl ne13))
  refine ow_getF C A72 tw_12 Via.refl f77 d7_43 rfl ?_
  intro T78 A79
  refine ow_iloadN C A79 d7_46 rfl rfl ?_
  have f80 := ((f57.other W61 ne15).other W74 ne15)
  refine ow_laload C A79 f80 ⟨by decide, by decide⟩ (v := (.long n2)) rfl d7_47 rfl ?_
  refine ow_lastore C A79 V76 ⟨by decide, by decide⟩ (i := 5) rfl (Nat.le_of_ble_eq_true rfl) ows_b8 d7_48 rfl ?_
  intro T81 h83 W84 V85 A82
  have V86 : Arv Z h83 b8 kk9 .long (6 : Int32) [(.long k0), (.long n0), (.long k1), (.long n1), (.long k2), (.long n2)] (.long (0 : Int64)) := V85
  refine ow_iinc C A82 d7_49 rfl (Ls' := #[.val (.ref a), .val (.int (0 : Int32)), .val (.ref b8), .val (.int (3 : Int32))]) rfl rfl ?_
  refine ow_goto C A82 d7_52 (by decide) (pc' := 13) (by decide) ?_
  refine ow_iloadN C A82 d7_13 rfl rfl ?_
  refine ow_aloadN C A82 d7_14 rfl rfl rfl ?_
  have f87 := ((f64.other W74 (Or.inl ne13)).other W84 (Or.inl ne13))
  refine ow_getF C A82 tw_32 Via.refl f87 d7_15 rfl ?_
  intro T88 A89
  refine ow_icmp_ge C A89 d7_18 (by decide) (pcY := 55) (by decide) (pcN := 21) rfl (fun _ => ?_) (fun zq => absurd zq (by decide))
  refine ow_aloadN C A89 d7_55 rfl rfl rfl ?_
  refine ow_areturn C A89 (t := (.array .long)) rfl rfl rfl d7_56 (by decide) (by decide) ?_
  exact ⟨b8, kk9, rfl, V86⟩
set_option maxRecDepth 65536 in
set_option maxHeartbeats 40000000 in
theorem rm_at3_0_0 (l : Launch) (Z : State) (a0 : Array Value) (hw : ∀ d ∈ tables_1, d.before a0 Z = true) (pA uA vA : Addr) (d1 d2 d3 : ClassId) (k0 n0 : Int64) (k1 n1 : Int64) (k2 n2 : Int64) (h0 : Heap) (V1 : Arv Z h0 pA d1 .long (6 : Int32) [(.long k0), (.long n0), (.long k1), (.long n1), (.long k2), (.long n2)] (.long (0 : Int64))) (V2 : Arv Z h0 uA d2 .long (3 : Int32) [(.long k0), (.long k1), (.long k2)] (.long (0 : Int64))) (V3 : Arv Z h0 vA d3 .long (3 : Int32) [(.long n0), (.long n1), (.long n2)] (.long (0 : Int64))) (cs : List Jvm.Cond) :
    OwnCtr l Z (⟨"com/example/ratebook/ratebook/journal/RecentKeysPairsFromPinLaw", "at", "([J[J[JIII)Z"⟩ : MethodName) method_3_code 7 (some .boolean) rmz #[(.ref pA), (.ref uA), (.ref vA), (.int (0 : Int32)), (.int (3 : Int32)), (.int (0 : Int32))] h0 [] (QI 1 h0) cs := by
  refine ow_ctr pn_8 hw (Ls := #[.val (.ref pA), .val (.ref uA), .val (.ref vA), .val (.int (0 : Int32)), .val (.int (3 : Int32)), .val (.int (0 : Int32)), .unset]) (fun m => by first | (simp [entryFrame, mkF, argsToLocals, Value.category]; done) | rfl) ?_
  intro p e s m below meth c T0 C A0
  refine ow_iloadN C A0 d8_0 rfl rfl ?_
  refine ow_iload C A0 d8_1 rfl rfl ?_
  refine ow_iadd C A0 d8_3 rfl ?_
  show OwnWP _ _ _ _ _ _ _ _ _ T0 (mkF m 4 #[.val (.ref pA), .val (.ref uA), .val (.ref vA), .val (.int (0 : Int32)), .val (.int (3 : Int32)), .val (.int (0 : Int32)), .unset] [(.int (0 : Int32))])
  refine ow_istore C A0 d8_4 (Ls' := #[.val (.ref pA), .val (.ref uA), .val (.ref vA), .val (.int (0 : Int32)), .val (.int (3 : Int32)), .val (.int (0 : Int32)), .val (.int (0 : Int32))]) rfl rfl ?_
  refine ow_iload C A0 d8_6 rfl rfl ?_
  refine ow_iload C A0 d8_8 rfl rfl ?_
  refine ow_icmp_lt C A0 d8_10 (by decide) (pcY := 15) (by decide) (pcN := 13) rfl (fun _ => ?_) (fun zq => absurd (by decide) zq)
  refine ow_aloadN C A0 d8_15 rfl rfl rfl ?_
  refine ow_iconst C A0 d8_16 (v := 2) rfl rfl ?_
  refine ow_iload C A0 d8_17 rfl rfl ?_
  refine ow_imul C A0 d8_19 rfl ?_
  show OwnWP _ _ _ _ _ _ _ _ _ T0 (mkF m 20 #[.val (.ref pA), .val (.ref uA), .val (.ref vA), .val (.int (0 : Int32)), .val (.int (3 : Int32)), .val (.int (0 : Int32)), .val (.int (0 : Int32))] [(.int (0 : Int32)), (.ref pA)])
  refine ow_laload C A0 V1 ⟨by decide, by decide⟩ (v := (.long k0)) rfl d8_20 rfl ?_
  refine ow_aloadN C A0 d8_21 rfl rfl rfl ?_
  refine ow_iload C A0 d8_22 rfl rfl ?_
  refine ow_laload C A0 V2 ⟨by decide, by decide⟩ (v := (.long k0)) rfl d8_24 rfl ?_
  refine ow_lcmp_ne C A0 d8_25 rfl d8_26 (by decide) (pcY := 49) (by decide) (pcN := 29) rfl (fun zq => absurd (rfl) zq) (fun _ => ?_)
  refine ow_aloadN C A0 d8_29 rfl rfl rfl ?_
  refine ow_iconst C A0 d8_30 (v := 2) rfl rfl ?_
  refine ow_iload C A0 d8_31 rfl rfl ?_
  refine ow_imul C A0 d8_33 rfl ?_
  show OwnWP _ _ _ _ _ _ _ _ _ T0 (mkF m 34 #[.val (.ref pA), .val (.ref uA), .val (.ref vA), .val (.int (0 : Int32)), .val (.int (3 : Int32)), .val (.int (0 : Int32)), .val (.int (0 : Int32))] [(.int (0 : Int32)), (.ref pA)])
  refine ow_iconst C A0 d8_34 (v := 1) rfl rfl ?_
  refine ow_iadd C A0 d8_35 rfl ?_
  show OwnWP _ _ _ _ _ _ _ _ _ T0 (mkF m 36 #[.val (.ref pA), .val (.ref uA), .val (.ref vA), .val (.int (0 : Int32)), .val (.int (3 : Int32)), .val (.int (0 : Int32)), .val (.int (0 : Int32))] [(.int (1 : Int32)), (.ref pA)])
  refine ow_laload C A0 V1 ⟨by decide, by decide⟩ (v := (.long n0)) rfl d8_36 rfl ?_
  refine ow_aloadN C A0 d8_37 rfl rfl rfl ?_
  refine ow_iload C A0 d8_38 rfl rfl ?_
  refine ow_laload C A0 V3 ⟨by decide, by decide⟩ (v := (.long n0)) rfl d8_40 rfl ?_
  refine ow_lcmp_ne C A0 d8_41 rfl d8_42 (by decide) (pcY := 49) (by decide) (pcN := 45) rfl (fun zq => absurd (rfl) zq) (fun _ => ?_)
  refine ow_iconst C A0 d8_45 (v := 1) rfl rfl ?_
  refine ow_goto C A0 d8_46 (by decide) (pc' := 50) (by decide) ?_
  refine ow_ireturn C A0 (t := .boolean) rfl rfl (by simp) d8_50 (by decide) (by decide) ?_
  exact ⟨rfl, rfl⟩
set_option maxRecDepth 65536 in
set_option maxHeartbeats 40000000 in
theorem rm_at3_0_1 (l : Launch) (Z : State) (a0 : Array Value) (hw : ∀ d ∈ tables_1, d.before a0 Z = true) (pA uA vA : Addr) (d1 d2 d3 : ClassId) (k0 n0 : Int64) (k1 n1 : Int64) (k2 n2 : Int64) (h0 : Heap) (V1 : Arv Z h0 pA d1 .long (6 : Int32) [(.long k0), (.long n0), (.long k1), (.long n1), (.long k2), (.long n2)] (.long (0 : Int64))) (V2 : Arv Z h0 uA d2 .long (3 : Int32) [(.long k0), (.long k1), (.long k2)] (.long (0 : Int64))) (V3 : Arv Z h0 vA d3 .long (3 : Int32) [(.long n0), (.long n1), (.long n2)] (.long (0 : Int64))) (cs : List Jvm.Cond) :
    OwnCtr l Z (⟨"com/example/ratebook/ratebook/journal/RecentKeysPairsFromPinLaw", "at", "([J[J[JIII)Z"⟩ : MethodName) method_3_code 7 (some .boolean) rmz #[(.ref pA), (.ref uA), (.ref vA), (.int (0 : Int32)), (.int (3 : Int32)), (.int (1 : Int32))] h0 [] (QI 1 h0) cs := by
  refine ow_ctr pn_8 hw (Ls := #[.val (.ref pA), .val (.ref uA), .val (.ref vA), .val (.int (0 : Int32)), .val (.int (3 : Int32)), .val (.int (1 : Int32)), .unset]) (fun m => by first | (simp [entryFrame, mkF, argsToLocals, Value.category]; done) | rfl) ?_
  intro p e s m below meth c T0 C A0
  refine ow_iloadN C A0 d8_0 rfl rfl ?_
  refine ow_iload C A0 d8_1 rfl rfl ?_
  refine ow_iadd C A0 d8_3 rfl ?_
  show OwnWP _ _ _ _ _ _ _ _ _ T0 (mkF m 4 #[.val (.ref pA), .val (.ref uA), .val (.ref vA), .val (.int (0 : Int32)), .val (.int (3 : Int32)), .val (.int (1 : Int32)), .unset] [(.int (1 : Int32))])
  refine ow_istore C A0 d8_4 (Ls' := #[.val (.ref pA), .val (.ref uA), .val (.ref vA), .val (.int (0 : Int32)), .val (.int (3 : Int32)), .val (.int (1 : Int32)), .val (.int (1 : Int32))]) rfl rfl ?_
  refine ow_iload C A0 d8_6 rfl rfl ?_
  refine ow_iload C A0 d8_8 rfl rfl ?_
  refine ow_icmp_lt C A0 d8_10 (by decide) (pcY := 15) (by decide) (pcN := 13) rfl (fun _ => ?_) (fun zq => absurd (by decide) zq)
  refine ow_aloadN C A0 d8_15 rfl rfl rfl ?_
  refine ow_iconst C A0 d8_16 (v := 2) rfl rfl ?_
  refine ow_iload C A0 d8_17 rfl rfl ?_
  refine ow_imul C A0 d8_19 rfl ?_
  show OwnWP _ _ _ _ _ _ _ _ _ T0 (mkF m 20 #[.val (.ref pA), .val (.ref uA), .val (.ref vA), .val (.int (0 : Int32)), .val (.int (3 : Int32)), .val (.int (1 : Int32)), .val (.int (1 : Int32))] [(.int (2 : Int32)), (.ref pA)])
  refine ow_laload C A0 V1 ⟨by decide, by decide⟩ (v := (.long k1)) rfl d8_20 rfl ?_
  refine ow_aloadN C A0 d8_21 rfl rfl rfl ?_
  refine ow_iload C A0 d8_22 rfl rfl ?_
  refine ow_laload C A0 V2 ⟨by decide, by decide⟩ (v := (.long k1)) rfl d8_24 rfl ?_
  refine ow_lcmp_ne C A0 d8_25 rfl d8_26 (by decide) (pcY := 49) (by decide) (pcN := 29) rfl (fun zq => absurd (rfl) zq) (fun _ => ?_)
  refine ow_aloadN C A0 d8_29 rfl rfl rfl ?_
  refine ow_iconst C A0 d8_30 (v := 2) rfl rfl ?_
  refine ow_iload C A0 d8_31 rfl rfl ?_
  refine ow_imul C A0 d8_33 rfl ?_
  show OwnWP _ _ _ _ _ _ _ _ _ T0 (mkF m 34 #[.val (.ref pA), .val (.ref uA), .val (.ref vA), .val (.int (0 : Int32)), .val (.int (3 : Int32)), .val (.int (1 : Int32)), .val (.int (1 : Int32))] [(.int (2 : Int32)), (.ref pA)])
  refine ow_iconst C A0 d8_34 (v := 1) rfl rfl ?_
  refine ow_iadd C A0 d8_35 rfl ?_
  show OwnWP _ _ _ _ _ _ _ _ _ T0 (mkF m 36 #[.val (.ref pA), .val (.ref uA), .val (.ref vA), .val (.int (0 : Int32)), .val (.int (3 : Int32)), .val (.int (1 : Int32)), .val (.int (1 : Int32))] [(.int (3 : Int32)), (.ref pA)])
  refine ow_laload C A0 V1 ⟨by decide, by decide⟩ (v := (.long n1)) rfl d8_36 rfl ?_
  refine ow_aloadN C A0 d8_37 rfl rfl rfl ?_
  refine ow_iload C A0 d8_38 rfl rfl ?_
  refine ow_laload C A0 V3 ⟨by decide, by decide⟩ (v := (.long n1)) rfl d8_40 rfl ?_
  refine ow_lcmp_ne C A0 d8_41 rfl d8_42 (by decide) (pcY := 49) (by decide) (pcN := 45) rfl (fun zq => absurd (rfl) zq) (fun _ => ?_)
  refine ow_iconst C A0 d8_45 (v := 1) rfl rfl ?_
  refine ow_goto C A0 d8_46 (by decide) (pc' := 50) (by decide) ?_
  refine ow_ireturn C A0 (t := .boolean) rfl rfl (by simp) d8_50 (by decide) (by decide) ?_
  exact ⟨rfl, rfl⟩
set_option maxRecDepth 65536 in
set_option maxHeartbeats 40000000 in
theorem rm_at3_0_2 (l : Launch) (Z : State) (a0 : Array Value) (hw : ∀ d ∈ tables_1, d.before a0 Z = true) (pA uA vA : Addr) (d1 d2 d3 : ClassId) (k0 n0 : Int64) (k1 n1 : Int64) (k2 n2 : Int64) (h0 : Heap) (V1 : Arv Z h0 pA d1 .long (6 : Int32) [(.long k0), (.long n0), (.long k1), (.long n1), (.long k2), (.long n2)] (.long (0 : Int64))) (V2 : Arv Z h0 uA d2 .long (3 : Int32) [(.long k0), (.long k1), (.long k2)] (.long (0 : Int64))) (V3 : Arv Z h0 vA d3 .long (3 : Int32) [(.long n0), (.long n1), (.long n2)] (.long (0 : Int64))) (cs : List Jvm.Cond) :
    OwnCtr l Z (⟨"com/example/ratebook/ratebook/journal/RecentKeysPairsFromPinLaw", "at", "([J[J[JIII)Z"⟩ : MethodName) method_3_code 7 (some .boolean) rmz #[(.ref pA), (.ref uA), (.ref vA), (.int (0 : Int32)), (.int (3 : Int32)), (.int (2 : Int32))] h0 [] (QI 1 h0) cs := by
  refine ow_ctr pn_8 hw (Ls := #[.val (.ref pA), .val (.ref uA), .val (.ref vA), .val (.int (0 : Int32)), .val (.int (3 : Int32)), .val (.int (2 : Int32)), .unset]) (fun m => by first | (simp [entryFrame, mkF, argsToLocals, Value.category]; done) | rfl) ?_
  intro p e s m below meth c T0 C A0
  refine ow_iloadN C A0 d8_0 rfl rfl ?_
  refine ow_iload C A0 d8_1 rfl rfl ?_
  refine ow_iadd C A0 d8_3 rfl ?_
  show OwnWP _ _ _ _ _ _ _ _ _ T0 (mkF m 4 #[.val (.ref pA), .val (.ref uA), .val (.ref vA), .val (.int (0 : Int32)), .val (.int (3 : Int32)), .val (.int (2 : Int32)), .unset] [(.int (2 : Int32))])
  refine ow_istore C A0 d8_4 (Ls' := #[.val (.ref pA), .val (.ref uA), .val (.ref vA), .val (.int (0 : Int32)), .val (.int (3 : Int32)), .val (.int (2 : Int32)), .val (.int (2 : Int32))]) rfl rfl ?_
  refine ow_iload C A0 d8_6 rfl rfl ?_
  refine ow_iload C A0 d8_8 rfl rfl ?_
  refine ow_icmp_lt C A0 d8_10 (by decide) (pcY := 15) (by decide) (pcN := 13) rfl (fun _ => ?_) (fun zq => absurd (by decide) zq)
  refine ow_aloadN C A0 d8_15 rfl rfl rfl ?_
  refine ow_iconst C A0 d8_16 (v := 2) rfl rfl ?_
  refine ow_iload C A0 d8_17 rfl rfl ?_
  refine ow_imul C A0 d8_19 rfl ?_
  show OwnWP _ _ _ _ _ _ _ _ _ T0 (mkF m 20 #[.val (.ref pA), .val (.ref uA), .val (.ref vA), .val (.int (0 : Int32)), .val (.int (3 : Int32)), .val (.int (2 : Int32)), .val (.int (2 : Int32))] [(.int (4 : Int32)), (.ref pA)])
  refine ow_laload C A0 V1 ⟨by decide, by decide⟩ (v := (.long k2)) rfl d8_20 rfl ?_
  refine ow_aloadN C A0 d8_21 rfl rfl rfl ?_
  refine ow_iload C A0 d8_22 rfl rfl ?_
  refine ow_laload C A0 V2 ⟨by decide, by decide⟩ (v := (.long k2)) rfl d8_24 rfl ?_
  refine ow_lcmp_ne C A0 d8_25 rfl d8_26 (by decide) (pcY := 49) (by decide) (pcN := 29) rfl (fun zq => absurd (rfl) zq) (fun _ => ?_)
  refine ow_aloadN C A0 d8_29 rfl rfl rfl ?_
  refine ow_iconst C A0 d8_30 (v := 2) rfl rfl ?_
  refine ow_iload C A0 d8_31 rfl rfl ?_
  refine ow_imul C A0 d8_33 rfl ?_
  show OwnWP _ _ _ _ _ _ _ _ _ T0 (mkF m 34 #[.val (.ref pA), .val (.ref uA), .val (.ref vA), .val (.int (0 : Int32)), .val (.int (3 : Int32)), .val (.int (2 : Int32)), .val (.int (2 : Int32))] [(.int (4 : Int32)), (.ref pA)])
  refine ow_iconst C A0 d8_34 (v := 1) rfl rfl ?_
  refine ow_iadd C A0 d8_35 rfl ?_
  show OwnWP _ _ _ _ _ _ _ _ _ T0 (mkF m 36 #[.val (.ref pA), .val (.ref uA), .val (.ref vA), .val (.int (0 : Int32)), .val (.int (3 : Int32)), .val (.int (2 : Int32)), .val (.int (2 : Int32))] [(.int (5 : Int32)), (.ref pA)])
  refine ow_laload C A0 V1 ⟨by decide, by decide⟩ (v := (.long n2)) rfl d8_36 rfl ?_
  refine ow_aloadN C A0 d8_37 rfl rfl rfl ?_
  refine ow_iload C A0 d8_38 rfl rfl ?_
  refine ow_laload C A0 V3 ⟨by decide, by decide⟩ (v := (.long n2)) rfl d8_40 rfl ?_
  refine ow_lcmp_ne C A0 d8_41 rfl d8_42 (by decide) (pcY := 49) (by decide) (pcN := 45) rfl (fun zq => absurd (rfl) zq) (fun _ => ?_)
  refine ow_iconst C A0 d8_45 (v := 1) rfl rfl ?_
  refine ow_goto C A0 d8_46 (by decide) (pc' := 50) (by decide) ?_
  refine ow_ireturn C A0 (t := .boolean) rfl rfl (by simp) d8_50 (by decide) (by decide) ?_
  exact ⟨rfl, rfl⟩
set_option maxRecDepth 65536 in
set_option maxHeartbeats 40000000 in
theorem rm_pf3_1 (l : Launch) (Z : State) (a0 : Array Value) (hw : ∀ d ∈ tables_1, d.before a0 Z = true) (a kA nA sA : Addr) (c1 c2 c3 : ClassId) (k0 n0 : Int64) (k1 n1 : Int64) (k2 n2 : Int64) (h0 : Heap) (f : Nat → Int32) (O : Flds Z h0 a kA nA sA 3) (O2 : Arrs Z h0 kA nA sA c1 c2 c3 [(.long k0), (.long k1), (.long k2)] [(.long n0), (.long n1), (.long n2)] f) (cs : List Jvm.Cond) :
    OwnCtr l Z (⟨"com/example/ratebook/ratebook/journal/RecentKeys", "pairsFrom", "(I)[J"⟩ : MethodName) prog_11_method_5_code 4 (some (.array .long)) rmp #[(.ref a), (.int (1 : Int32))] h0 [] (QR Z (4 : Int32) [(.long k1), (.long n1), (.long k2), (.long n2)]) cs := by
  refine ow_ctr pn_7 hw (Ls := #[.val (.ref a), .val (.int (1 : Int32)), .unset, .unset]) (fun m => by first | (simp [entryFrame, mkF, argsToLocals, Value.category]; done) | rfl) ?_
  intro p e s m below meth c T0 C A0
  obtain ⟨xE1, xK1, xN1, xS1, xZ1⟩ := O
  obtain ⟨yK2, yN2, yS2⟩ := O2
  refine ow_iconst C A0 d7_0 (v := 2) rfl rfl ?_
  refine ow_aloadN C A0 d7_1 rfl rfl rfl ?_
  refine ow_getF C A0 tw_32 Via.refl xZ1 d7_2 rfl ?_
  intro T3 A4
  refine ow_iloadN C A4 d7_5 rfl rfl ?_
  refine ow_isub C A4 d7_6 rfl ?_
  show OwnWP _ _ _ _ _ _ _ _ _ T3 (mkF m 7 #[.val (.ref a), .val (.int (1 : Int32)), .unset, .unset] [(.int (2 : Int32)), (.int (2 : Int32))])
  refine ow_imul C A4 d7_7 rfl ?_
  show OwnWP _ _ _ _ _ _ _ _ _ T3 (mkF m 8 #[.val (.ref a), .val (.int (1 : Int32)), .unset, .unset] [(.int (4 : Int32))])
  refine ow_newA C A4 (ty := .long) rfl tw_0 d7_8 rfl (by decide) (cap := 4) (by decide) (by decide) (ck' := 1) (sk' := 4) rfl rfl (by decide) (by decide) ?_
  intro T5 h7 b8 kk9 g10 E11 V12 A6
  have ne13 : a ≠ b8 := Nat.ne_of_lt (Nat.lt_of_lt_of_le xE1.lt (Nat.le_of_eq g10.symm))
  have ne14 : kA ≠ b8 := Nat.ne_of_lt (Nat.lt_of_lt_of_le yK2.lt (Nat.le_of_eq g10.symm))
  have ne15 : nA ≠ b8 := Nat.ne_of_lt (Nat.lt_of_lt_of_le yN2.lt (Nat.le_of_eq g10.symm))
  have ne16 : sA ≠ b8 := Nat.ne_of_lt (Nat.lt_of_lt_of_le yS2.lt (Nat.le_of_eq g10.symm))
  have ows_b8 : b8 ∈ ([] : List Addr) ∨ h0.size ≤ b8 := Or.inr (Nat.le_trans (ow_le A4) (Nat.le_of_eq g10.symm))
  have V17 : Arv Z h7 b8 kk9 .long (4 : Int32) [(.long (0 : Int64)), (.long (0 : Int64)), (.long (0 : Int64)), (.long (0 : Int64))] (.long (0 : Int64)) := V12.pad (pad_rep [] (.long (0 : Int64)) 4)
  refine ow_astoreN C A6 d7_10 rfl (Ls' := #[.val (.ref a), .val (.int (1 : Int32)), .val (.ref b8), .unset]) rfl rfl ?_
  refine ow_iloadN C A6 d7_11 rfl rfl ?_
  refine ow_istoreN C A6 d7_12 (Ls' := #[.val (.ref a), .val (.int (1 : Int32)), .val (.ref b8), .val (.int (1 : Int32))]) rfl rfl ?_
  refine ow_iloadN C A6 d7_13 rfl rfl ?_
  refine ow_aloadN C A6 d7_14 rfl rfl rfl ?_
  have f18 := (xZ1.ext E11)
  refine ow_getF C A6 tw_32 Via.refl f18 d7_15 rfl ?_
  intro T19 A20
  refine ow_icmp_ge C A20 d7_18 (by decide) (pcY := 55) (by decide) (pcN := 21) rfl (fun zq => absurd (by decide) zq) (fun _ => ?_)
  refine ow_aloadN C A20 d7_21 rfl rfl rfl ?_
  refine ow_iconst C A20 d7_22 (v := 2) rfl rfl ?_
  refine ow_iloadN C A20 d7_23 rfl rfl ?_
  refine ow_iloadN C A20 d7_24 rfl rfl ?_
  refine ow_isub C A20 d7_25 rfl ?_
  show OwnWP _ _ _ _ _ _ _ _ _ T19 (mkF m 26 #[.val (.ref a), .val (.int (1 : Int32)), .val (.ref b8), .val (.int (1 : Int32))] [(.int (0 : Int32)), (.int (2 : Int32)), (.ref b8)])
  refine ow_imul C A20 d7_26 rfl ?_
  show OwnWP _ _ _ _ _ _ _ _ _ T19 (mkF m 27 #[.val (.ref a), .val (.int (1 : Int32)), .val (.ref b8), .val (.int (1 : Int32))] [(.int (0 : Int32)), (.ref b8)])
  refine ow_aloadN C A20 d7_27 rfl rfl rfl ?_
  have f21 := (xK1.ext E11)
  refine ow_getF C A20 tw_10 Via.refl f21 d7_28 rfl ?_
  intro T22 A23
  refine ow_iloadN C A23 d7_31 rfl rfl ?_
  have f24 := (yK2.ext E11)
  refine ow_laload C A23 f24 ⟨by decide, by decide⟩ (v := (.long k1)) rfl d7_32 rfl ?_
  refine ow_lastore C A23 V17 ⟨by decide, by decide⟩ (i := 0) rfl (Nat.le_of_ble_eq_true rfl) ows_b8 d7_33 rfl ?_
  intro T25 h27 W28 V29 A26
  have V30 : Arv Z h27 b8 kk9 .long (4 : Int32) [(.long k1), (.long (0 : Int64)), (.long (0 : Int64)), (.long (0 : Int64))] (.long (0 : Int64)) := V29
  refine ow_aloadN C A26 d7_34 rfl rfl rfl ?_
  refine ow_iconst C A26 d7_35 (v := 2) rfl rfl ?_
  refine ow_iloadN C A26 d7_36 rfl rfl ?_
  refine ow_iloadN C A26 d7_37 rfl rfl ?_
  refine ow_isub C A26 d7_38 rfl ?_
  show OwnWP _ _ _ _ _ _ _ _ _ T25 (mkF m 39 #[.val (.ref a), .val (.int (1 : Int32)), .val (.ref b8), .val (.int (1 : Int32))] [(.int (0 : Int32)), (.int (2 : Int32)), (.ref b8)])
  refine ow_imul C A26 d7_39 rfl ?_
  show OwnWP _ _ _ _ _ _ _ _ _ T25 (mkF m 40 #[.val (.ref a), .val (.int (1 : Int32)), .val (.ref b8), .val (.int (1 : Int32))] [(.int (0 : Int32)), (.ref b8)])
  refine ow_iconst C A26 d7_40 (v := 1) rfl rfl ?_
  refine ow_iadd C A26 d7_41 rfl ?_
  show OwnWP _ _ _ _ _ _ _ _ _ T25 (mkF m 42 #[.val (.ref a), .val (.int (1 : Int32)), .val (.ref b8), .val (.int (1 : Int32))] [(.int (1 : Int32)), (.ref b8)])
  refine ow_aloadN C A26 d7_42 rfl rfl rfl ?_
  have f31 := ((xN1.ext E11).other W28 (Or.inl ne13))
  refine ow_getF C A26 tw_12 Via.refl f31 d7_43 rfl ?_
  intro T32 A33
  refine ow_iloadN C A33 d7_46 rfl rfl ?_
  have f34 := ((yN2.ext E11).other W28 ne15)
  refine ow_laload C A33 f34 ⟨by decide, by decide⟩ (v := (.long n1)) rfl d7_47 rfl ?_
  refine ow_lastore C A33 V30 ⟨by decide, by decide⟩ (i := 1) rfl (Nat.le_of_ble_eq_true rfl) ows_b8 d7_48 rfl ?_
  intro T35 h37 W38 V39 A36
  have V40 : Arv Z h37 b8 kk9 .long (4 : Int32) [(.long k1), (.long n1), (.long (0 : Int64)), (.long (0 : Int64))] (.long (0 : Int64)) := V39
  refine ow_iinc C A36 d7_49 rfl (Ls' := #[.val (.ref a), .val (.int (1 : Int32)), .val (.ref b8), .val (.int (2 : Int32))]) rfl rfl ?_
  refine ow_goto C A36 d7_52 (by decide) (pc' := 13) (by decide) ?_
  refine ow_iloadN C A36 d7_13 rfl rfl ?_
  refine ow_aloadN C A36 d7_14 rfl rfl rfl ?_
  have f41 := ((f18.other W28 (Or.inl ne13)).other W38 (Or.inl ne13))
  refine ow_getF C A36 tw_32 Via.refl f41 d7_15 rfl ?_
  intro T42 A43
  refine ow_icmp_ge C A43 d7_18 (by decide) (pcY := 55) (by decide) (pcN := 21) rfl (fun zq => absurd (by decide) zq) (fun _ => ?_)
  refine ow_aloadN C A43 d7_21 rfl rfl rfl ?_
  refine ow_iconst C A43 d7_22 (v := 2) rfl rfl ?_
  refine ow_iloadN C A43 d7_23 rfl rfl ?_
  refine ow_iloadN C A43 d7_24 rfl rfl ?_
  refine ow_isub C A43 d7_25 rfl ?_
  show OwnWP _ _ _ _ _ _ _ _ _ T42 (mkF m 26 #[.val (.ref a), .val (.int (1 : Int32)), .val (.ref b8), .val (.int (2 : Int32))] [(.int (1 : Int32)), (.int (2 : Int32)), (.ref b8)])
  refine ow_imul C A43 d7_26 rfl ?_
  show OwnWP _ _ _ _ _ _ _ _ _ T42 (mkF m 27 #[.val (.ref a), .val (.int (1 : Int32)), .val (.ref b8), .val (.int (2 : Int32))] [(.int (2 : Int32)), (.ref b8)])
  refine ow_aloadN C A43 d7_27 rfl rfl rfl ?_
  have f44 := ((f21.other W28 (Or.inl ne13)).other W38 (Or.inl ne13))
  refine ow_getF C A43 tw_10 Via.refl f44 d7_28 rfl ?_
  intro T45 A46
  refine ow_iloadN C A46 d7_31 rfl rfl ?_
  have f47 := ((f24.other W28 ne14).other W38 ne14)
  refine ow_laload C A46 f47 ⟨by decide, by decide⟩ (v := (.long k2)) rfl d7_32 rfl ?_
  refine ow_lastore C A46 V40 ⟨by decide, by decide⟩ (i := 2) rfl (Nat.le_of_ble_eq_true rfl) ows_b8 d7_33 rfl ?_
  intro T48 h50 W51 V52 A49
  have V53 : Arv Z h50 b8 kk9 .long (4 : Int32) [(.long k1), (.long n1), (.long k2), (.long (0 : Int64))] (.long (0 : Int64)) := V52
  refine ow_aloadN C A49 d7_34 rfl rfl rfl ?_
  refine ow_iconst C A49 d7_35 (v := 2) rfl rfl ?_
  refine ow_iloadN C A49 d7_36 rfl rfl ?_
  refine ow_iloadN C A49 d7_37 rfl rfl ?_
  refine ow_isub C A49 d7_38 rfl ?_
  show OwnWP _ _ _ _ _ _ _ _ _ T48 (mkF m 39 #[.val (.ref a), .val (.int (1 : Int32)), .val (.ref b8), .val (.int (2 : Int32))] [(.int (1 : Int32)), (.int (2 : Int32)), (.ref b8)])
  refine ow_imul C A49 d7_39 rfl ?_
  show OwnWP _ _ _ _ _ _ _ _ _ T48 (mkF m 40 #[.val (.ref a), .val (.int (1 : Int32)), .val (.ref b8), .val (.int (2 : Int32))] [(.int (2 : Int32)), (.ref b8)])
  refine ow_iconst C A49 d7_40 (v := 1) rfl rfl ?_
  refine ow_iadd C A49 d7_41 rfl ?_
  show OwnWP _ _ _ _ _ _ _ _ _ T48 (mkF m 42 #[.val (.ref a), .val (.int (1 : Int32)), .val (.ref b8), .val (.int (2 : Int32))] [(.int (3 : Int32)), (.ref b8)])
  refine ow_aloadN C A49 d7_42 rfl rfl rfl ?_
  have f54 := ((f31.other W38 (Or.inl ne13)).other W51 (Or.inl ne13))
  refine ow_getF C A49 tw_12 Via.refl f54 d7_43 rfl ?_
  intro T55 A56
  refine ow_iloadN C A56 d7_46 rfl rfl ?_
  have f57 := ((f34.other W38 ne15).other W51 ne15)
  refine ow_laload C A56 f57 ⟨by decide, by decide⟩ (v := (.long n2)) rfl d7_47 rfl ?_
  refine ow_lastore C A56 V53 ⟨by decide, by decide⟩ (i := 3) rfl (Nat.le_of_ble_eq_true rfl) ows_b8 d7_48 rfl ?_
  intro T58 h60 W61 V62 A59
  have V63 : Arv Z h60 b8 kk9 .long (4 : Int32) [(.long k1), (.long n1), (.long k2), (.long n2)] (.long (0 : Int64)) := V62
  refine ow_iinc C A59 d7_49 rfl (Ls' := #[.val (.ref a), .val (.int (1 : Int32)), .val (.ref b8), .val (.int (3 : Int32))]) rfl rfl ?_
  refine ow_goto C A59 d7_52 (by decide) (pc' := 13) (by decide) ?_
  refine ow_iloadN C A59 d7_13 rfl rfl ?_
  refine ow_aloadN C A59 d7_14 rfl rfl rfl ?_
  have f64 := ((f41.other W51 (Or.inl ne13)).other W61 (Or.inl ne13))
  refine ow_getF C A59 tw_32 Via.refl f64 d7_15 rfl ?_
  intro T65 A66
  refine ow_icmp_ge C A66 d7_18 (by decide) (pcY := 55) (by decide) (pcN := 21) rfl (fun _ => ?_) (fun zq => absurd zq (by decide))
  refine ow_aloadN C A66 d7_55 rfl rfl rfl ?_
  refine ow_areturn C A66 (t := (.array .long)) rfl rfl rfl d7_56 (by decide) (by decide) ?_
  exact ⟨b8, kk9, rfl, V63⟩
set_option maxRecDepth 65536 in
set_option maxHeartbeats 40000000 in
theorem rm_at3_1_0 (l : Launch) (Z : State) (a0 : Array Value) (hw : ∀ d ∈ tables_1, d.before a0 Z = true) (pA uA vA : Addr) (d1 d2 d3 : ClassId) (k0 n0 : Int64) (k1 n1 : Int64) (k2 n2 : Int64) (h0 : Heap) (V1 : Arv Z h0 pA d1 .long (4 : Int32) [(.long k1), (.long n1), (.long k2), (.long n2)] (.long (0 : Int64))) (V2 : Arv Z h0 uA d2 .long (3 : Int32) [(.long k0), (.long k1), (.long k2)] (.long (0 : Int64))) (V3 : Arv Z h0 vA d3 .long (3 : Int32) [(.long n0), (.long n1), (.long n2)] (.long (0 : Int64))) (cs : List Jvm.Cond) :
    OwnCtr l Z (⟨"com/example/ratebook/ratebook/journal/RecentKeysPairsFromPinLaw", "at", "([J[J[JIII)Z"⟩ : MethodName) method_3_code 7 (some .boolean) rmz #[(.ref pA), (.ref uA), (.ref vA), (.int (1 : Int32)), (.int (3 : Int32)), (.int (0 : Int32))] h0 [] (QI 1 h0) cs := by
  refine ow_ctr pn_8 hw (Ls := #[.val (.ref pA), .val (.ref uA), .val (.ref vA), .val (.int (1 : Int32)), .val (.int (3 : Int32)), .val (.int (0 : Int32)), .unset]) (fun m => by first | (simp [entryFrame, mkF, argsToLocals, Value.category]; done) | rfl) ?_
  intro p e s m below meth c T0 C A0
  refine ow_iloadN C A0 d8_0 rfl rfl ?_
  refine ow_iload C A0 d8_1 rfl rfl ?_
  refine ow_iadd C A0 d8_3 rfl ?_
  show OwnWP _ _ _ _ _ _ _ _ _ T0 (mkF m 4 #[.val (.ref pA), .val (.ref uA), .val (.ref vA), .val (.int (1 : Int32)), .val (.int (3 : Int32)), .val (.int (0 : Int32)), .unset] [(.int (1 : Int32))])
  refine ow_istore C A0 d8_4 (Ls' := #[.val (.ref pA), .val (.ref uA), .val (.ref vA), .val (.int (1 : Int32)), .val (.int (3 : Int32)), .val (.int (0 : Int32)), .val (.int (1 : Int32))]) rfl rfl ?_
  refine ow_iload C A0 d8_6 rfl rfl ?_
  refine ow_iload C A0 d8_8 rfl rfl ?_
  refine ow_icmp_lt C A0 d8_10 (by decide) (pcY := 15) (by decide) (pcN := 13) rfl (fun _ => ?_) (fun zq => absurd (by decide) zq)
  refine ow_aloadN C A0 d8_15 rfl rfl rfl ?_
  refine ow_iconst C A0 d8_16 (v := 2) rfl rfl ?_
  refine ow_iload C A0 d8_17 rfl rfl ?_
  refine ow_imul C A0 d8_19 rfl ?_
  show OwnWP _ _ _ _ _ _ _ _ _ T0 (mkF m 20 #[.val (.ref pA), .val (.ref uA), .val (.ref vA), .val (.int (1 : Int32)), .val (.int (3 : Int32)), .val (.int (0 : Int32)), .val (.int (1 : Int32))] [(.int (0 : Int32)), (.ref pA)])
  refine ow_laload C A0 V1 ⟨by decide, by decide⟩ (v := (.long k1)) rfl d8_20 rfl ?_
  refine ow_aloadN C A0 d8_21 rfl rfl rfl ?_
  refine ow_iload C A0 d8_22 rfl rfl ?_
  refine ow_laload C A0 V2 ⟨by decide, by decide⟩ (v := (.long k1)) rfl d8_24 rfl ?_
  refine ow_lcmp_ne C A0 d8_25 rfl d8_26 (by decide) (pcY := 49) (by decide) (pcN := 29) rfl (fun zq => absurd (rfl) zq) (fun _ => ?_)
  refine ow_aloadN C A0 d8_29 rfl rfl rfl ?_
  refine ow_iconst C A0 d8_30 (v := 2) rfl rfl ?_
  refine ow_iload C A0 d8_31 rfl rfl ?_
  refine ow_imul C A0 d8_33 rfl ?_
  show OwnWP _ _ _ _ _ _ _ _ _ T0 (mkF m 34 #[.val (.ref pA), .val (.ref uA), .val (.ref vA), .val (.int (1 : Int32)), .val (.int (3 : Int32)), .val (.int (0 : Int32)), .val (.int (1 : Int32))] [(.int (0 : Int32)), (.ref pA)])
  refine ow_iconst C A0 d8_34 (v := 1) rfl rfl ?_
  refine ow_iadd C A0 d8_35 rfl ?_
  show OwnWP _ _ _ _ _ _ _ _ _ T0 (mkF m 36 #[.val (.ref pA), .val (.ref uA), .val (.ref vA), .val (.int (1 : Int32)), .val (.int (3 : Int32)), .val (.int (0 : Int32)), .val (.int (1 : Int32))] [(.int (1 : Int32)), (.ref pA)])
  refine ow_laload C A0 V1 ⟨by decide, by decide⟩ (v := (.long n1)) rfl d8_36 rfl ?_
  refine ow_aloadN C A0 d8_37 rfl rfl rfl ?_
  refine ow_iload C A0 d8_38 rfl rfl ?_
  refine ow_laload C A0 V3 ⟨by decide, by decide⟩ (v := (.long n1)) rfl d8_40 rfl ?_
  refine ow_lcmp_ne C A0 d8_41 rfl d8_42 (by decide) (pcY := 49) (by decide) (pcN := 45) rfl (fun zq => absurd (rfl) zq) (fun _ => ?_)
  refine ow_iconst C A0 d8_45 (v := 1) rfl rfl ?_
  refine ow_goto C A0 d8_46 (by decide) (pc' := 50) (by decide) ?_
  refine ow_ireturn C A0 (t := .boolean) rfl rfl (by simp) d8_50 (by decide) (by decide) ?_
  exact ⟨rfl, rfl⟩
set_option maxRecDepth 65536 in
set_option maxHeartbeats 40000000 in
theorem rm_at3_1_1 (l : Launch) (Z : State) (a0 : Array Value) (hw : ∀ d ∈ tables_1, d.before a0 Z = true) (pA uA vA : Addr) (d1 d2 d3 : ClassId) (k0 n0 : Int64) (k1 n1 : Int64) (k2 n2 : Int64) (h0 : Heap) (V1 : Arv Z h0 pA d1 .long (4 : Int32) [(.long k1), (.long n1), (.long k2), (.long n2)] (.long (0 : Int64))) (V2 : Arv Z h0 uA d2 .long (3 : Int32) [(.long k0), (.long k1), (.long k2)] (.long (0 : Int64))) (V3 : Arv Z h0 vA d3 .long (3 : Int32) [(.long n0), (.long n1), (.long n2)] (.long (0 : Int64))) (cs : List Jvm.Cond) :
    OwnCtr l Z (⟨"com/example/ratebook/ratebook/journal/RecentKeysPairsFromPinLaw", "at", "([J[J[JIII)Z"⟩ : MethodName) method_3_code 7 (some .boolean) rmz #[(.ref pA), (.ref uA), (.ref vA), (.int (1 : Int32)), (.int (3 : Int32)), (.int (1 : Int32))] h0 [] (QI 1 h0) cs := by
  refine ow_ctr pn_8 hw (Ls := #[.val (.ref pA), .val (.ref uA), .val (.ref vA), .val (.int (1 : Int32)), .val (.int (3 : Int32)), .val (.int (1 : Int32)), .unset]) (fun m => by first | (simp [entryFrame, mkF, argsToLocals, Value.category]; done) | rfl) ?_
  intro p e s m below meth c T0 C A0
  refine ow_iloadN C A0 d8_0 rfl rfl ?_
  refine ow_iload C A0 d8_1 rfl rfl ?_
  refine ow_iadd C A0 d8_3 rfl ?_
  show OwnWP _ _ _ _ _ _ _ _ _ T0 (mkF m 4 #[.val (.ref pA), .val (.ref uA), .val (.ref vA), .val (.int (1 : Int32)), .val (.int (3 : Int32)), .val (.int (1 : Int32)), .unset] [(.int (2 : Int32))])
  refine ow_istore C A0 d8_4 (Ls' := #[.val (.ref pA), .val (.ref uA), .val (.ref vA), .val (.int (1 : Int32)), .val (.int (3 : Int32)), .val (.int (1 : Int32)), .val (.int (2 : Int32))]) rfl rfl ?_
  refine ow_iload C A0 d8_6 rfl rfl ?_
  refine ow_iload C A0 d8_8 rfl rfl ?_
  refine ow_icmp_lt C A0 d8_10 (by decide) (pcY := 15) (by decide) (pcN := 13) rfl (fun _ => ?_) (fun zq => absurd (by decide) zq)
  refine ow_aloadN C A0 d8_15 rfl rfl rfl ?_
  refine ow_iconst C A0 d8_16 (v := 2) rfl rfl ?_
  refine ow_iload C A0 d8_17 rfl rfl ?_
  refine ow_imul C A0 d8_19 rfl ?_
  show OwnWP _ _ _ _ _ _ _ _ _ T0 (mkF m 20 #[.val (.ref pA), .val (.ref uA), .val (.ref vA), .val (.int (1 : Int32)), .val (.int (3 : Int32)), .val (.int (1 : Int32)), .val (.int (2 : Int32))] [(.int (2 : Int32)), (.ref pA)])
  refine ow_laload C A0 V1 ⟨by decide, by decide⟩ (v := (.long k2)) rfl d8_20 rfl ?_
  refine ow_aloadN C A0 d8_21 rfl rfl rfl ?_
  refine ow_iload C A0 d8_22 rfl rfl ?_
  refine ow_laload C A0 V2 ⟨by decide, by decide⟩ (v := (.long k2)) rfl d8_24 rfl ?_
  refine ow_lcmp_ne C A0 d8_25 rfl d8_26 (by decide) (pcY := 49) (by decide) (pcN := 29) rfl (fun zq => absurd (rfl) zq) (fun _ => ?_)
  refine ow_aloadN C A0 d8_29 rfl rfl rfl ?_
  refine ow_iconst C A0 d8_30 (v := 2) rfl rfl ?_
  refine ow_iload C A0 d8_31 rfl rfl ?_
  refine ow_imul C A0 d8_33 rfl ?_
  show OwnWP _ _ _ _ _ _ _ _ _ T0 (mkF m 34 #[.val (.ref pA), .val (.ref uA), .val (.ref vA), .val (.int (1 : Int32)), .val (.int (3 : Int32)), .val (.int (1 : Int32)), .val (.int (2 : Int32))] [(.int (2 : Int32)), (.ref pA)])
  refine ow_iconst C A0 d8_34 (v := 1) rfl rfl ?_
  refine ow_iadd C A0 d8_35 rfl ?_
  show OwnWP _ _ _ _ _ _ _ _ _ T0 (mkF m 36 #[.val (.ref pA), .val (.ref uA), .val (.ref vA), .val (.int (1 : Int32)), .val (.int (3 : Int32)), .val (.int (1 : Int32)), .val (.int (2 : Int32))] [(.int (3 : Int32)), (.ref pA)])
  refine ow_laload C A0 V1 ⟨by decide, by decide⟩ (v := (.long n2)) rfl d8_36 rfl ?_
  refine ow_aloadN C A0 d8_37 rfl rfl rfl ?_
  refine ow_iload C A0 d8_38 rfl rfl ?_
  refine ow_laload C A0 V3 ⟨by decide, by decide⟩ (v := (.long n2)) rfl d8_40 rfl ?_
  refine ow_lcmp_ne C A0 d8_41 rfl d8_42 (by decide) (pcY := 49) (by decide) (pcN := 45) rfl (fun zq => absurd (rfl) zq) (fun _ => ?_)
  refine ow_iconst C A0 d8_45 (v := 1) rfl rfl ?_
  refine ow_goto C A0 d8_46 (by decide) (pc' := 50) (by decide) ?_
  refine ow_ireturn C A0 (t := .boolean) rfl rfl (by simp) d8_50 (by decide) (by decide) ?_
  exact ⟨rfl, rfl⟩
set_option maxRecDepth 65536 in
set_option maxHeartbeats 40000000 in
theorem rm_at3_1_2 (l : Launch) (Z : State) (a0 : Array Value) (hw : ∀ d ∈ tables_1, d.before a0 Z = true) (pA uA vA : Addr) (d1 d2 d3 : ClassId) (k0 n0 : Int64) (k1 n1 : Int64) (k2 n2 : Int64) (h0 : Heap) (V1 : Arv Z h0 pA d1 .long (4 : Int32) [(.long k1), (.long n1), (.long k2), (.long n2)] (.long (0 : Int64))) (V2 : Arv Z h0 uA d2 .long (3 : Int32) [(.long k0), (.long k1), (.long k2)] (.long (0 : Int64))) (V3 : Arv Z h0 vA d3 .long (3 : Int32) [(.long n0), (.long n1), (.long n2)] (.long (0 : Int64))) (cs : List Jvm.Cond) :
    OwnCtr l Z (⟨"com/example/ratebook/ratebook/journal/RecentKeysPairsFromPinLaw", "at", "([J[J[JIII)Z"⟩ : MethodName) method_3_code 7 (some .boolean) rmz #[(.ref pA), (.ref uA), (.ref vA), (.int (1 : Int32)), (.int (3 : Int32)), (.int (2 : Int32))] h0 [] (QI 1 h0) cs := by
  refine ow_ctr pn_8 hw (Ls := #[.val (.ref pA), .val (.ref uA), .val (.ref vA), .val (.int (1 : Int32)), .val (.int (3 : Int32)), .val (.int (2 : Int32)), .unset]) (fun m => by first | (simp [entryFrame, mkF, argsToLocals, Value.category]; done) | rfl) ?_
  intro p e s m below meth c T0 C A0
  refine ow_iloadN C A0 d8_0 rfl rfl ?_
  refine ow_iload C A0 d8_1 rfl rfl ?_
  refine ow_iadd C A0 d8_3 rfl ?_
  show OwnWP _ _ _ _ _ _ _ _ _ T0 (mkF m 4 #[.val (.ref pA), .val (.ref uA), .val (.ref vA), .val (.int (1 : Int32)), .val (.int (3 : Int32)), .val (.int (2 : Int32)), .unset] [(.int (3 : Int32))])
  refine ow_istore C A0 d8_4 (Ls' := #[.val (.ref pA), .val (.ref uA), .val (.ref vA), .val (.int (1 : Int32)), .val (.int (3 : Int32)), .val (.int (2 : Int32)), .val (.int (3 : Int32))]) rfl rfl ?_
  refine ow_iload C A0 d8_6 rfl rfl ?_
  refine ow_iload C A0 d8_8 rfl rfl ?_
  refine ow_icmp_lt C A0 d8_10 (by decide) (pcY := 15) (by decide) (pcN := 13) rfl (fun zq => absurd zq (by decide)) (fun _ => ?_)
  refine ow_iconst C A0 d8_13 (v := 1) rfl rfl ?_
  refine ow_ireturn C A0 (t := .boolean) rfl rfl (by simp) d8_14 (by decide) (by decide) ?_
  exact ⟨rfl, rfl⟩
set_option maxRecDepth 65536 in
set_option maxHeartbeats 40000000 in
theorem rm_pf3_2 (l : Launch) (Z : State) (a0 : Array Value) (hw : ∀ d ∈ tables_1, d.before a0 Z = true) (a kA nA sA : Addr) (c1 c2 c3 : ClassId) (k0 n0 : Int64) (k1 n1 : Int64) (k2 n2 : Int64) (h0 : Heap) (f : Nat → Int32) (O : Flds Z h0 a kA nA sA 3) (O2 : Arrs Z h0 kA nA sA c1 c2 c3 [(.long k0), (.long k1), (.long k2)] [(.long n0), (.long n1), (.long n2)] f) (cs : List Jvm.Cond) :
    OwnCtr l Z (⟨"com/example/ratebook/ratebook/journal/RecentKeys", "pairsFrom", "(I)[J"⟩ : MethodName) prog_11_method_5_code 4 (some (.array .long)) rmp #[(.ref a), (.int (2 : Int32))] h0 [] (QR Z (2 : Int32) [(.long k2), (.long n2)]) cs := by
  refine ow_ctr pn_7 hw (Ls := #[.val (.ref a), .val (.int (2 : Int32)), .unset, .unset]) (fun m => by first | (simp [entryFrame, mkF, argsToLocals, Value.category]; done) | rfl) ?_
  intro p e s m below meth c T0 C A0
  obtain ⟨xE1, xK1, xN1, xS1, xZ1⟩ := O
  obtain ⟨yK2, yN2, yS2⟩ := O2
  refine ow_iconst C A0 d7_0 (v := 2) rfl rfl ?_
  refine ow_aloadN C A0 d7_1 rfl rfl rfl ?_
  refine ow_getF C A0 tw_32 Via.refl xZ1 d7_2 rfl ?_
  intro T3 A4
  refine ow_iloadN C A4 d7_5 rfl rfl ?_
  refine ow_isub C A4 d7_6 rfl ?_
  show OwnWP _ _ _ _ _ _ _ _ _ T3 (mkF m 7 #[.val (.ref a), .val (.int (2 : Int32)), .unset, .unset] [(.int (1 : Int32)), (.int (2 : Int32))])
  refine ow_imul C A4 d7_7 rfl ?_
  show OwnWP _ _ _ _ _ _ _ _ _ T3 (mkF m 8 #[.val (.ref a), .val (.int (2 : Int32)), .unset, .unset] [(.int (2 : Int32))])
  refine ow_newA C A4 (ty := .long) rfl tw_0 d7_8 rfl (by decide) (cap := 2) (by decide) (by decide) (ck' := 1) (sk' := 2) rfl rfl (by decide) (by decide) ?_
  intro T5 h7 b8 kk9 g10 E11 V12 A6
  have ne13 : a ≠ b8 := Nat.ne_of_lt (Nat.lt_of_lt_of_le xE1.lt (Nat.le_of_eq g10.symm))
  have ne14 : kA ≠ b8 := Nat.ne_of_lt (Nat.lt_of_lt_of_le yK2.lt (Nat.le_of_eq g10.symm))
  have ne15 : nA ≠ b8 := Nat.ne_of_lt (Nat.lt_of_lt_of_le yN2.lt (Nat.le_of_eq g10.symm))
  have ne16 : sA ≠ b8 := Nat.ne_of_lt (Nat.lt_of_lt_of_le yS2.lt (Nat.le_of_eq g10.symm))
  have ows_b8 : b8 ∈ ([] : List Addr) ∨ h0.size ≤ b8 := Or.inr (Nat.le_trans (ow_le A4) (Nat.le_of_eq g10.symm))
  have V17 : Arv Z h7 b8 kk9 .long (2 : Int32) [(.long (0 : Int64)), (.long (0 : Int64))] (.long (0 : Int64)) := V12.pad (pad_rep [] (.long (0 : Int64)) 2)
  refine ow_astoreN C A6 d7_10 rfl (Ls' := #[.val (.ref a), .val (.int (2 : Int32)), .val (.ref b8), .unset]) rfl rfl ?_
  refine ow_iloadN C A6 d7_11 rfl rfl ?_
  refine ow_istoreN C A6 d7_12 (Ls' := #[.val (.ref a), .val (.int (2 : Int32)), .val (.ref b8), .val (.int (2 : Int32))]) rfl rfl ?_
  refine ow_iloadN C A6 d7_13 rfl rfl ?_
  refine ow_aloadN C A6 d7_14 rfl rfl rfl ?_
  have f18 := (xZ1.ext E11)
  refine ow_getF C A6 tw_32 Via.refl f18 d7_15 rfl ?_
  intro T19 A20
  refine ow_icmp_ge C A20 d7_18 (by decide) (pcY := 55) (by decide) (pcN := 21) rfl (fun zq => absurd (by decide) zq) (fun _ => ?_)
  refine ow_aloadN C A20 d7_21 rfl rfl rfl ?_
  refine ow_iconst C A20 d7_22 (v := 2) rfl rfl ?_
  refine ow_iloadN C A20 d7_23 rfl rfl ?_
  refine ow_iloadN C A20 d7_24 rfl rfl ?_
  refine ow_isub C A20 d7_25 rfl ?_
  show OwnWP _ _ _ _ _ _ _ _ _ T19 (mkF m 26 #[.val (.ref a), .val (.int (2 : Int32)), .val (.ref b8), .val (.int (2 : Int32))] [(.int (0 : Int32)), (.int (2 : Int32)), (.ref b8)])
  refine ow_imul C A20 d7_26 rfl ?_
  show OwnWP _ _ _ _ _ _ _ _ _ T19 (mkF m 27 #[.val (.ref a), .val (.int (2 : Int32)), .val (.ref b8), .val (.int (2 : Int32))] [(.int (0 : Int32)), (.ref b8)])
  refine ow_aloadN C A20 d7_27 rfl rfl rfl ?_
  have f21 := (xK1.ext E11)
  refine ow_getF C A20 tw_10 Via.refl f21 d7_28 rfl ?_
  intro T22 A23
  refine ow_iloadN C A23 d7_31 rfl rfl ?_
  have f24 := (yK2.ext E11)
  refine ow_laload C A23 f24 ⟨by decide, by decide⟩ (v := (.long k2)) rfl d7_32 rfl ?_
  refine ow_lastore C A23 V17 ⟨by decide, by decide⟩ (i := 0) rfl (Nat.le_of_ble_eq_true rfl) ows_b8 d7_33 rfl ?_
  intro T25 h27 W28 V29 A26
  have V30 : Arv Z h27 b8 kk9 .long (2 : Int32) [(.long k2), (.long (0 : Int64))] (.long (0 : Int64)) := V29
  refine ow_aloadN C A26 d7_34 rfl rfl rfl ?_
  refine ow_iconst C A26 d7_35 (v := 2) rfl rfl ?_
  refine ow_iloadN C A26 d7_36 rfl rfl ?_
  refine ow_iloadN C A26 d7_37 rfl rfl ?_
  refine ow_isub C A26 d7_38 rfl ?_
  show OwnWP _ _ _ _ _ _ _ _ _ T25 (mkF m 39 #[.val (.ref a), .val (.int (2 : Int32)), .val (.ref b8), .val (.int (2 : Int32))] [(.int (0 : Int32)), (.int (2 : Int32)), (.ref b8)])
  refine ow_imul C A26 d7_39 rfl ?_
  show OwnWP _ _ _ _ _ _ _ _ _ T25 (mkF m 40 #[.val (.ref a), .val (.int (2 : Int32)), .val (.ref b8), .val (.int (2 : Int32))] [(.int (0 : Int32)), (.ref b8)])
  refine ow_iconst C A26 d7_40 (v := 1) rfl rfl ?_
  refine ow_iadd C A26 d7_41 rfl ?_
  show OwnWP _ _ _ _ _ _ _ _ _ T25 (mkF m 42 #[.val (.ref a), .val (.int (2 : Int32)), .val (.ref b8), .val (.int (2 : Int32))] [(.int (1 : Int32)), (.ref b8)])
  refine ow_aloadN C A26 d7_42 rfl rfl rfl ?_
  have f31 := ((xN1.ext E11).other W28 (Or.inl ne13))
  refine ow_getF C A26 tw_12 Via.refl f31 d7_43 rfl ?_
  intro T32 A33
  refine ow_iloadN C A33 d7_46 rfl rfl ?_
  have f34 := ((yN2.ext E11).other W28 ne15)
  refine ow_laload C A33 f34 ⟨by decide, by decide⟩ (v := (.long n2)) rfl d7_47 rfl ?_
  refine ow_lastore C A33 V30 ⟨by decide, by decide⟩ (i := 1) rfl (Nat.le_of_ble_eq_true rfl) ows_b8 d7_48 rfl ?_
  intro T35 h37 W38 V39 A36
  have V40 : Arv Z h37 b8 kk9 .long (2 : Int32) [(.long k2), (.long n2)] (.long (0 : Int64)) := V39
  refine ow_iinc C A36 d7_49 rfl (Ls' := #[.val (.ref a), .val (.int (2 : Int32)), .val (.ref b8), .val (.int (3 : Int32))]) rfl rfl ?_
  refine ow_goto C A36 d7_52 (by decide) (pc' := 13) (by decide) ?_
  refine ow_iloadN C A36 d7_13 rfl rfl ?_
  refine ow_aloadN C A36 d7_14 rfl rfl rfl ?_
  have f41 := ((f18.other W28 (Or.inl ne13)).other W38 (Or.inl ne13))
  refine ow_getF C A36 tw_32 Via.refl f41 d7_15 rfl ?_
  intro T42 A43
  refine ow_icmp_ge C A43 d7_18 (by decide) (pcY := 55) (by decide) (pcN := 21) rfl (fun _ => ?_) (fun zq => absurd zq (by decide))
  refine ow_aloadN C A43 d7_55 rfl rfl rfl ?_
  refine ow_areturn C A43 (t := (.array .long)) rfl rfl rfl d7_56 (by decide) (by decide) ?_
  exact ⟨b8, kk9, rfl, V40⟩
set_option maxRecDepth 65536 in
set_option maxHeartbeats 40000000 in
theorem rm_at3_2_0 (l : Launch) (Z : State) (a0 : Array Value) (hw : ∀ d ∈ tables_1, d.before a0 Z = true) (pA uA vA : Addr) (d1 d2 d3 : ClassId) (k0 n0 : Int64) (k1 n1 : Int64) (k2 n2 : Int64) (h0 : Heap) (V1 : Arv Z h0 pA d1 .long (2 : Int32) [(.long k2), (.long n2)] (.long (0 : Int64))) (V2 : Arv Z h0 uA d2 .long (3 : Int32) [(.long k0), (.long k1), (.long k2)] (.long (0 : Int64))) (V3 : Arv Z h0 vA d3 .long (3 : Int32) [(.long n0), (.long n1), (.long n2)] (.long (0 : Int64))) (cs : List Jvm.Cond) :
    OwnCtr l Z (⟨"com/example/ratebook/ratebook/journal/RecentKeysPairsFromPinLaw", "at", "([J[J[JIII)Z"⟩ : MethodName) method_3_code 7 (some .boolean) rmz #[(.ref pA), (.ref uA), (.ref vA), (.int (2 : Int32)), (.int (3 : Int32)), (.int (0 : Int32))] h0 [] (QI 1 h0) cs := by
  refine ow_ctr pn_8 hw (Ls := #[.val (.ref pA), .val (.ref uA), .val (.ref vA), .val (.int (2 : Int32)), .val (.int (3 : Int32)), .val (.int (0 : Int32)), .unset]) (fun m => by first | (simp [entryFrame, mkF, argsToLocals, Value.category]; done) | rfl) ?_
  intro p e s m below meth c T0 C A0
  refine ow_iloadN C A0 d8_0 rfl rfl ?_
  refine ow_iload C A0 d8_1 rfl rfl ?_
  refine ow_iadd C A0 d8_3 rfl ?_
  show OwnWP _ _ _ _ _ _ _ _ _ T0 (mkF m 4 #[.val (.ref pA), .val (.ref uA), .val (.ref vA), .val (.int (2 : Int32)), .val (.int (3 : Int32)), .val (.int (0 : Int32)), .unset] [(.int (2 : Int32))])
  refine ow_istore C A0 d8_4 (Ls' := #[.val (.ref pA), .val (.ref uA), .val (.ref vA), .val (.int (2 : Int32)), .val (.int (3 : Int32)), .val (.int (0 : Int32)), .val (.int (2 : Int32))]) rfl rfl ?_
  refine ow_iload C A0 d8_6 rfl rfl ?_
  refine ow_iload C A0 d8_8 rfl rfl ?_
  refine ow_icmp_lt C A0 d8_10 (by decide) (pcY := 15) (by decide) (pcN := 13) rfl (fun _ => ?_) (fun zq => absurd (by decide) zq)
  refine ow_aloadN C A0 d8_15 rfl rfl rfl ?_
  refine ow_iconst C A0 d8_16 (v := 2) rfl rfl ?_
  refine ow_iload C A0 d8_17 rfl rfl ?_
  refine ow_imul C A0 d8_19 rfl ?_
  show OwnWP _ _ _ _ _ _ _ _ _ T0 (mkF m 20 #[.val (.ref pA), .val (.ref uA), .val (.ref vA), .val (.int (2 : Int32)), .val (.int (3 : Int32)), .val (.int (0 : Int32)), .val (.int (2 : Int32))] [(.int (0 : Int32)), (.ref pA)])
  refine ow_laload C A0 V1 ⟨by decide, by decide⟩ (v := (.long k2)) rfl d8_20 rfl ?_
  refine ow_aloadN C A0 d8_21 rfl rfl rfl ?_
  refine ow_iload C A0 d8_22 rfl rfl ?_
  refine ow_laload C A0 V2 ⟨by decide, by decide⟩ (v := (.long k2)) rfl d8_24 rfl ?_
  refine ow_lcmp_ne C A0 d8_25 rfl d8_26 (by decide) (pcY := 49) (by decide) (pcN := 29) rfl (fun zq => absurd (rfl) zq) (fun _ => ?_)
  refine ow_aloadN C A0 d8_29 rfl rfl rfl ?_
  refine ow_iconst C A0 d8_30 (v := 2) rfl rfl ?_
  refine ow_iload C A0 d8_31 rfl rfl ?_
  refine ow_imul C A0 d8_33 rfl ?_
  show OwnWP _ _ _ _ _ _ _ _ _ T0 (mkF m 34 #[.val (.ref pA), .val (.ref uA), .val (.ref vA), .val (.int (2 : Int32)), .val (.int (3 : Int32)), .val (.int (0 : Int32)), .val (.int (2 : Int32))] [(.int (0 : Int32)), (.ref pA)])
  refine ow_iconst C A0 d8_34 (v := 1) rfl rfl ?_
  refine ow_iadd C A0 d8_35 rfl ?_
  show OwnWP _ _ _ _ _ _ _ _ _ T0 (mkF m 36 #[.val (.ref pA), .val (.ref uA), .val (.ref vA), .val (.int (2 : Int32)), .val (.int (3 : Int32)), .val (.int (0 : Int32)), .val (.int (2 : Int32))] [(.int (1 : Int32)), (.ref pA)])
  refine ow_laload C A0 V1 ⟨by decide, by decide⟩ (v := (.long n2)) rfl d8_36 rfl ?_
  refine ow_aloadN C A0 d8_37 rfl rfl rfl ?_
  refine ow_iload C A0 d8_38 rfl rfl ?_
  refine ow_laload C A0 V3 ⟨by decide, by decide⟩ (v := (.long n2)) rfl d8_40 rfl ?_
  refine ow_lcmp_ne C A0 d8_41 rfl d8_42 (by decide) (pcY := 49) (by decide) (pcN := 45) rfl (fun zq => absurd (rfl) zq) (fun _ => ?_)
  refine ow_iconst C A0 d8_45 (v := 1) rfl rfl ?_
  refine ow_goto C A0 d8_46 (by decide) (pc' := 50) (by decide) ?_
  refine ow_ireturn C A0 (t := .boolean) rfl rfl (by simp) d8_50 (by decide) (by decide) ?_
  exact ⟨rfl, rfl⟩
set_option maxRecDepth 65536 in
set_option maxHeartbeats 40000000 in
theorem rm_at3_2_1 (l : Launch) (Z : State) (a0 : Array Value) (hw : ∀ d ∈ tables_1, d.before a0 Z = true) (pA uA vA : Addr) (d1 d2 d3 : ClassId) (k0 n0 : Int64) (k1 n1 : Int64) (k2 n2 : Int64) (h0 : Heap) (V1 : Arv Z h0 pA d1 .long (2 : Int32) [(.long k2), (.long n2)] (.long (0 : Int64))) (V2 : Arv Z h0 uA d2 .long (3 : Int32) [(.long k0), (.long k1), (.long k2)] (.long (0 : Int64))) (V3 : Arv Z h0 vA d3 .long (3 : Int32) [(.long n0), (.long n1), (.long n2)] (.long (0 : Int64))) (cs : List Jvm.Cond) :
    OwnCtr l Z (⟨"com/example/ratebook/ratebook/journal/RecentKeysPairsFromPinLaw", "at", "([J[J[JIII)Z"⟩ : MethodName) method_3_code 7 (some .boolean) rmz #[(.ref pA), (.ref uA), (.ref vA), (.int (2 : Int32)), (.int (3 : Int32)), (.int (1 : Int32))] h0 [] (QI 1 h0) cs := by
  refine ow_ctr pn_8 hw (Ls := #[.val (.ref pA), .val (.ref uA), .val (.ref vA), .val (.int (2 : Int32)), .val (.int (3 : Int32)), .val (.int (1 : Int32)), .unset]) (fun m => by first | (simp [entryFrame, mkF, argsToLocals, Value.category]; done) | rfl) ?_
  intro p e s m below meth c T0 C A0
  refine ow_iloadN C A0 d8_0 rfl rfl ?_
  refine ow_iload C A0 d8_1 rfl rfl ?_
  refine ow_iadd C A0 d8_3 rfl ?_
  show OwnWP _ _ _ _ _ _ _ _ _ T0 (mkF m 4 #[.val (.ref pA), .val (.ref uA), .val (.ref vA), .val (.int (2 : Int32)), .val (.int (3 : Int32)), .val (.int (1 : Int32)), .unset] [(.int (3 : Int32))])
  refine ow_istore C A0 d8_4 (Ls' := #[.val (.ref pA), .val (.ref uA), .val (.ref vA), .val (.int (2 : Int32)), .val (.int (3 : Int32)), .val (.int (1 : Int32)), .val (.int (3 : Int32))]) rfl rfl ?_
  refine ow_iload C A0 d8_6 rfl rfl ?_
  refine ow_iload C A0 d8_8 rfl rfl ?_
  refine ow_icmp_lt C A0 d8_10 (by decide) (pcY := 15) (by decide) (pcN := 13) rfl (fun zq => absurd zq (by decide)) (fun _ => ?_)
  refine ow_iconst C A0 d8_13 (v := 1) rfl rfl ?_
  refine ow_ireturn C A0 (t := .boolean) rfl rfl (by simp) d8_14 (by decide) (by decide) ?_
  exact ⟨rfl, rfl⟩
set_option maxRecDepth 65536 in
set_option maxHeartbeats 40000000 in
theorem rm_at3_2_2 (l : Launch) (Z : State) (a0 : Array Value) (hw : ∀ d ∈ tables_1, d.before a0 Z = true) (pA uA vA : Addr) (d1 d2 d3 : ClassId) (k0 n0 : Int64) (k1 n1 : Int64) (k2 n2 : Int64) (h0 : Heap) (V1 : Arv Z h0 pA d1 .long (2 : Int32) [(.long k2), (.long n2)] (.long (0 : Int64))) (V2 : Arv Z h0 uA d2 .long (3 : Int32) [(.long k0), (.long k1), (.long k2)] (.long (0 : Int64))) (V3 : Arv Z h0 vA d3 .long (3 : Int32) [(.long n0), (.long n1), (.long n2)] (.long (0 : Int64))) (cs : List Jvm.Cond) :
    OwnCtr l Z (⟨"com/example/ratebook/ratebook/journal/RecentKeysPairsFromPinLaw", "at", "([J[J[JIII)Z"⟩ : MethodName) method_3_code 7 (some .boolean) rmz #[(.ref pA), (.ref uA), (.ref vA), (.int (2 : Int32)), (.int (3 : Int32)), (.int (2 : Int32))] h0 [] (QI 1 h0) cs := by
  refine ow_ctr pn_8 hw (Ls := #[.val (.ref pA), .val (.ref uA), .val (.ref vA), .val (.int (2 : Int32)), .val (.int (3 : Int32)), .val (.int (2 : Int32)), .unset]) (fun m => by first | (simp [entryFrame, mkF, argsToLocals, Value.category]; done) | rfl) ?_
  intro p e s m below meth c T0 C A0
  refine ow_iloadN C A0 d8_0 rfl rfl ?_
  refine ow_iload C A0 d8_1 rfl rfl ?_
  refine ow_iadd C A0 d8_3 rfl ?_
  show OwnWP _ _ _ _ _ _ _ _ _ T0 (mkF m 4 #[.val (.ref pA), .val (.ref uA), .val (.ref vA), .val (.int (2 : Int32)), .val (.int (3 : Int32)), .val (.int (2 : Int32)), .unset] [(.int (4 : Int32))])
  refine ow_istore C A0 d8_4 (Ls' := #[.val (.ref pA), .val (.ref uA), .val (.ref vA), .val (.int (2 : Int32)), .val (.int (3 : Int32)), .val (.int (2 : Int32)), .val (.int (4 : Int32))]) rfl rfl ?_
  refine ow_iload C A0 d8_6 rfl rfl ?_
  refine ow_iload C A0 d8_8 rfl rfl ?_
  refine ow_icmp_lt C A0 d8_10 (by decide) (pcY := 15) (by decide) (pcN := 13) rfl (fun zq => absurd zq (by decide)) (fun _ => ?_)
  refine ow_iconst C A0 d8_13 (v := 1) rfl rfl ?_
  refine ow_ireturn C A0 (t := .boolean) rfl rfl (by simp) d8_14 (by decide) (by decide) ?_
  exact ⟨rfl, rfl⟩
set_option maxRecDepth 65536 in
set_option maxHeartbeats 40000000 in
theorem rm_pf3_3 (l : Launch) (Z : State) (a0 : Array Value) (hw : ∀ d ∈ tables_1, d.before a0 Z = true) (a kA nA sA : Addr) (c1 c2 c3 : ClassId) (k0 n0 : Int64) (k1 n1 : Int64) (k2 n2 : Int64) (h0 : Heap) (f : Nat → Int32) (O : Flds Z h0 a kA nA sA 3) (O2 : Arrs Z h0 kA nA sA c1 c2 c3 [(.long k0), (.long k1), (.long k2)] [(.long n0), (.long n1), (.long n2)] f) (cs : List Jvm.Cond) :
    OwnCtr l Z (⟨"com/example/ratebook/ratebook/journal/RecentKeys", "pairsFrom", "(I)[J"⟩ : MethodName) prog_11_method_5_code 4 (some (.array .long)) rmp #[(.ref a), (.int (3 : Int32))] h0 [] (QR Z (0 : Int32) []) cs := by
  refine ow_ctr pn_7 hw (Ls := #[.val (.ref a), .val (.int (3 : Int32)), .unset, .unset]) (fun m => by first | (simp [entryFrame, mkF, argsToLocals, Value.category]; done) | rfl) ?_
  intro p e s m below meth c T0 C A0
  obtain ⟨xE1, xK1, xN1, xS1, xZ1⟩ := O
  obtain ⟨yK2, yN2, yS2⟩ := O2
  refine ow_iconst C A0 d7_0 (v := 2) rfl rfl ?_
  refine ow_aloadN C A0 d7_1 rfl rfl rfl ?_
  refine ow_getF C A0 tw_32 Via.refl xZ1 d7_2 rfl ?_
  intro T3 A4
  refine ow_iloadN C A4 d7_5 rfl rfl ?_
  refine ow_isub C A4 d7_6 rfl ?_
  show OwnWP _ _ _ _ _ _ _ _ _ T3 (mkF m 7 #[.val (.ref a), .val (.int (3 : Int32)), .unset, .unset] [(.int (0 : Int32)), (.int (2 : Int32))])
  refine ow_imul C A4 d7_7 rfl ?_
  show OwnWP _ _ _ _ _ _ _ _ _ T3 (mkF m 8 #[.val (.ref a), .val (.int (3 : Int32)), .unset, .unset] [(.int (0 : Int32))])
  refine ow_newA C A4 (ty := .long) rfl tw_0 d7_8 rfl (by decide) (cap := 0) (by decide) (by decide) (ck' := 1) (sk' := 0) rfl rfl (by decide) (by decide) ?_
  intro T5 h7 b8 kk9 g10 E11 V12 A6
  have ne13 : a ≠ b8 := Nat.ne_of_lt (Nat.lt_of_lt_of_le xE1.lt (Nat.le_of_eq g10.symm))
  have ne14 : kA ≠ b8 := Nat.ne_of_lt (Nat.lt_of_lt_of_le yK2.lt (Nat.le_of_eq g10.symm))
  have ne15 : nA ≠ b8 := Nat.ne_of_lt (Nat.lt_of_lt_of_le yN2.lt (Nat.le_of_eq g10.symm))
  have ne16 : sA ≠ b8 := Nat.ne_of_lt (Nat.lt_of_lt_of_le yS2.lt (Nat.le_of_eq g10.symm))
  have ows_b8 : b8 ∈ ([] : List Addr) ∨ h0.size ≤ b8 := Or.inr (Nat.le_trans (ow_le A4) (Nat.le_of_eq g10.symm))
  have V17 : Arv Z h7 b8 kk9 .long (0 : Int32) [] (.long (0 : Int64)) := V12.pad (pad_rep [] (.long (0 : Int64)) 0)
  refine ow_astoreN C A6 d7_10 rfl (Ls' := #[.val (.ref a), .val (.int (3 : Int32)), .val (.ref b8), .unset]) rfl rfl ?_
  refine ow_iloadN C A6 d7_11 rfl rfl ?_
  refine ow_istoreN C A6 d7_12 (Ls' := #[.val (.ref a), .val (.int (3 : Int32)), .val (.ref b8), .val (.int (3 : Int32))]) rfl rfl ?_
  refine ow_iloadN C A6 d7_13 rfl rfl ?_
  refine ow_aloadN C A6 d7_14 rfl rfl rfl ?_
  have f18 := (xZ1.ext E11)
  refine ow_getF C A6 tw_32 Via.refl f18 d7_15 rfl ?_
  intro T19 A20
  refine ow_icmp_ge C A20 d7_18 (by decide) (pcY := 55) (by decide) (pcN := 21) rfl (fun _ => ?_) (fun zq => absurd zq (by decide))
  refine ow_aloadN C A20 d7_55 rfl rfl rfl ?_
  refine ow_areturn C A20 (t := (.array .long)) rfl rfl rfl d7_56 (by decide) (by decide) ?_
  exact ⟨b8, kk9, rfl, V17⟩
set_option maxRecDepth 65536 in
set_option maxHeartbeats 40000000 in
theorem rm_at3_3_0 (l : Launch) (Z : State) (a0 : Array Value) (hw : ∀ d ∈ tables_1, d.before a0 Z = true) (pA uA vA : Addr) (d1 d2 d3 : ClassId) (k0 n0 : Int64) (k1 n1 : Int64) (k2 n2 : Int64) (h0 : Heap) (V1 : Arv Z h0 pA d1 .long (0 : Int32) [] (.long (0 : Int64))) (V2 : Arv Z h0 uA d2 .long (3 : Int32) [(.long k0), (.long k1), (.long k2)] (.long (0 : Int64))) (V3 : Arv Z h0 vA d3 .long (3 : Int32) [(.long n0), (.long n1), (.long n2)] (.long (0 : Int64))) (cs : List Jvm.Cond) :
    OwnCtr l Z (⟨"com/example/ratebook/ratebook/journal/RecentKeysPairsFromPinLaw", "at", "([J[J[JIII)Z"⟩ : MethodName) method_3_code 7 (some .boolean) rmz #[(.ref pA), (.ref uA), (.ref vA), (.int (3 : Int32)), (.int (3 : Int32)), (.int (0 : Int32))] h0 [] (QI 1 h0) cs := by
  refine ow_ctr pn_8 hw (Ls := #[.val (.ref pA), .val (.ref uA), .val (.ref vA), .val (.int (3 : Int32)), .val (.int (3 : Int32)), .val (.int (0 : Int32)), .unset]) (fun m => by first | (simp [entryFrame, mkF, argsToLocals, Value.category]; done) | rfl) ?_
  intro p e s m below meth c T0 C A0
  refine ow_iloadN C A0 d8_0 rfl rfl ?_
  refine ow_iload C A0 d8_1 rfl rfl ?_
  refine ow_iadd C A0 d8_3 rfl ?_
  show OwnWP _ _ _ _ _ _ _ _ _ T0 (mkF m 4 #[.val (.ref pA), .val (.ref uA), .val (.ref vA), .val (.int (3 : Int32)), .val (.int (3 : Int32)), .val (.int (0 : Int32)), .unset] [(.int (3 : Int32))])
  refine ow_istore C A0 d8_4 (Ls' := #[.val (.ref pA), .val (.ref uA), .val (.ref vA), .val (.int (3 : Int32)), .val (.int (3 : Int32)), .val (.int (0 : Int32)), .val (.int (3 : Int32))]) rfl rfl ?_
  refine ow_iload C A0 d8_6 rfl rfl ?_
  refine ow_iload C A0 d8_8 rfl rfl ?_
  refine ow_icmp_lt C A0 d8_10 (by decide) (pcY := 15) (by decide) (pcN := 13) rfl (fun zq => absurd zq (by decide)) (fun _ => ?_)
  refine ow_iconst C A0 d8_13 (v := 1) rfl rfl ?_
  refine ow_ireturn C A0 (t := .boolean) rfl rfl (by simp) d8_14 (by decide) (by decide) ?_
  exact ⟨rfl, rfl⟩
set_option maxRecDepth 65536 in
set_option maxHeartbeats 40000000 in
theorem rm_at3_3_1 (l : Launch) (Z : State) (a0 : Array Value) (hw : ∀ d ∈ tables_1, d.before a0 Z = true) (pA uA vA : Addr) (d1 d2 d3 : ClassId) (k0 n0 : Int64) (k1 n1 : Int64) (k2 n2 : Int64) (h0 : Heap) (V1 : Arv Z h0 pA d1 .long (0 : Int32) [] (.long (0 : Int64))) (V2 : Arv Z h0 uA d2 .long (3 : Int32) [(.long k0), (.long k1), (.long k2)] (.long (0 : Int64))) (V3 : Arv Z h0 vA d3 .long (3 : Int32) [(.long n0), (.long n1), (.long n2)] (.long (0 : Int64))) (cs : List Jvm.Cond) :
    OwnCtr l Z (⟨"com/example/ratebook/ratebook/journal/RecentKeysPairsFromPinLaw", "at", "([J[J[JIII)Z"⟩ : MethodName) method_3_code 7 (some .boolean) rmz #[(.ref pA), (.ref uA), (.ref vA), (.int (3 : Int32)), (.int (3 : Int32)), (.int (1 : Int32))] h0 [] (QI 1 h0) cs := by
  refine ow_ctr pn_8 hw (Ls := #[.val (.ref pA), .val (.ref uA), .val (.ref vA), .val (.int (3 : Int32)), .val (.int (3 : Int32)), .val (.int (1 : Int32)), .unset]) (fun m => by first | (simp [entryFrame, mkF, argsToLocals, Value.category]; done) | rfl) ?_
  intro p e s m below meth c T0 C A0
  refine ow_iloadN C A0 d8_0 rfl rfl ?_
  refine ow_iload C A0 d8_1 rfl rfl ?_
  refine ow_iadd C A0 d8_3 rfl ?_
  show OwnWP _ _ _ _ _ _ _ _ _ T0 (mkF m 4 #[.val (.ref pA), .val (.ref uA), .val (.ref vA), .val (.int (3 : Int32)), .val (.int (3 : Int32)), .val (.int (1 : Int32)), .unset] [(.int (4 : Int32))])
  refine ow_istore C A0 d8_4 (Ls' := #[.val (.ref pA), .val (.ref uA), .val (.ref vA), .val (.int (3 : Int32)), .val (.int (3 : Int32)), .val (.int (1 : Int32)), .val (.int (4 : Int32))]) rfl rfl ?_
  refine ow_iload C A0 d8_6 rfl rfl ?_
  refine ow_iload C A0 d8_8 rfl rfl ?_
  refine ow_icmp_lt C A0 d8_10 (by decide) (pcY := 15) (by decide) (pcN := 13) rfl (fun zq => absurd zq (by decide)) (fun _ => ?_)
  refine ow_iconst C A0 d8_13 (v := 1) rfl rfl ?_
  refine ow_ireturn C A0 (t := .boolean) rfl rfl (by simp) d8_14 (by decide) (by decide) ?_
  exact ⟨rfl, rfl⟩
set_option maxRecDepth 65536 in
set_option maxHeartbeats 40000000 in
theorem rm_at3_3_2 (l : Launch) (Z : State) (a0 : Array Value) (hw : ∀ d ∈ tables_1, d.before a0 Z = true) (pA uA vA : Addr) (d1 d2 d3 : ClassId) (k0 n0 : Int64) (k1 n1 : Int64) (k2 n2 : Int64) (h0 : Heap) (V1 : Arv Z h0 pA d1 .long (0 : Int32) [] (.long (0 : Int64))) (V2 : Arv Z h0 uA d2 .long (3 : Int32) [(.long k0), (.long k1), (.long k2)] (.long (0 : Int64))) (V3 : Arv Z h0 vA d3 .long (3 : Int32) [(.long n0), (.long n1), (.long n2)] (.long (0 : Int64))) (cs : List Jvm.Cond) :
    OwnCtr l Z (⟨"com/example/ratebook/ratebook/journal/RecentKeysPairsFromPinLaw", "at", "([J[J[JIII)Z"⟩ : MethodName) method_3_code 7 (some .boolean) rmz #[(.ref pA), (.ref uA), (.ref vA), (.int (3 : Int32)), (.int (3 : Int32)), (.int (2 : Int32))] h0 [] (QI 1 h0) cs := by
  refine ow_ctr pn_8 hw (Ls := #[.val (.ref pA), .val (.ref uA), .val (.ref vA), .val (.int (3 : Int32)), .val (.int (3 : Int32)), .val (.int (2 : Int32)), .unset]) (fun m => by first | (simp [entryFrame, mkF, argsToLocals, Value.category]; done) | rfl) ?_
  intro p e s m below meth c T0 C A0
  refine ow_iloadN C A0 d8_0 rfl rfl ?_
  refine ow_iload C A0 d8_1 rfl rfl ?_
  refine ow_iadd C A0 d8_3 rfl ?_
  show OwnWP _ _ _ _ _ _ _ _ _ T0 (mkF m 4 #[.val (.ref pA), .val (.ref uA), .val (.ref vA), .val (.int (3 : Int32)), .val (.int (3 : Int32)), .val (.int (2 : Int32)), .unset] [(.int (5 : Int32))])
  refine ow_istore C A0 d8_4 (Ls' := #[.val (.ref pA), .val (.ref uA), .val (.ref vA), .val (.int (3 : Int32)), .val (.int (3 : Int32)), .val (.int (2 : Int32)), .val (.int (5 : Int32))]) rfl rfl ?_
  refine ow_iload C A0 d8_6 rfl rfl ?_
  refine ow_iload C A0 d8_8 rfl rfl ?_
  refine ow_icmp_lt C A0 d8_10 (by decide) (pcY := 15) (by decide) (pcN := 13) rfl (fun zq => absurd zq (by decide)) (fun _ => ?_)
  refine ow_iconst C A0 d8_13 (v := 1) rfl rfl ?_
  refine ow_ireturn C A0 (t := .boolean) rfl rfl (by simp) d8_14 (by decide) (by decide) ?_
  exact ⟨rfl, rfl⟩
set_option maxRecDepth 65536 in
set_option maxHeartbeats 40000000 in
theorem rm0 (l : Launch) (Z : State) (a0 : Array Value) (hw : ∀ d ∈ tables_1, d.before a0 Z = true) (q0 q1 q2 q3 q4 : Int64) (p5 : Int32) (h0 : Heap)  (cs : List Jvm.Cond) :
    OwnCtr l Z x code maxLocals ret room_1 #[(.long q0), (.long q1), (.long q2), (.long q3), (.long q4), (.int p5)] h0 [] Q0 cs := by
  refine ow_ctr pn_0 hw (Ls := #[.val (.long q0), .second, .val (.long q1), .second, .val (.long q2), .second, .val (.long q3), .second, .val (.long q4), .second, .val (.int p5), .unset, .unset, .unset, .unset, .unset, .unset, .unset, .unset]) (fun m => by first | (simp [entryFrame, mkF, argsToLocals, Value.category, maxLocals]; done) | rfl) ?_
  intro p e s m below meth c T0 C A0
  refine ow_iload C A0 at_0 rfl rfl ?_
  refine ow_iconst C A0 at_2 (v := 3) rfl rfl ?_
  refine ow_iand C A0 at_3 rfl ?_
  rcases own_and3 p5 with hn | hn | hn | hn
  · rw [hn]
    refine ow_istore C A0 at_4 (Ls' := #[.val (.long q0), .second, .val (.long q1), .second, .val (.long q2), .second, .val (.long q3), .second, .val (.long q4), .second, .val (.int p5), .val (.int (0 : Int32)), .unset, .unset, .unset, .unset, .unset, .unset, .unset]) rfl rfl ?_
    refine ow_lload C A0 at_6 rfl rfl ?_
    refine ow_lloadN C A0 at_8 rfl rfl ?_
    refine ow_lsub C A0 at_9 rfl ?_
    refine ow_lstore C A0 at_10 (Ls' := #[.val (.long q0), .second, .val (.long q1), .second, .val (.long q2), .second, .val (.long q3), .second, .val (.long q4), .second, .val (.int p5), .val (.int (0 : Int32)), .val (.long (q3 - q1)), .second, .unset, .unset, .unset, .unset, .unset]) rfl rfl ?_
    refine ow_iload C A0 at_12 rfl rfl ?_
    refine ow_iconst C A0 at_14 (v := 2) rfl rfl ?_
    refine ow_icmp_lt C A0 at_15 (by decide) (pcY := 27) (by decide) (pcN := 18) rfl (fun _ => ?_) (fun zq => absurd (by decide) zq)
    refine ow_iload C A0 at_27 rfl rfl ?_
    refine ow_iconst C A0 at_29 (v := 3) rfl rfl ?_
    refine ow_icmp_lt C A0 at_30 (by decide) (pcY := 50) (by decide) (pcN := 33) rfl (fun _ => ?_) (fun zq => absurd (by decide) zq)
    refine ow_iload C A0 at_50 rfl rfl ?_
    refine ow_iconst C A0 at_52 (v := 2) rfl rfl ?_
    refine ow_iushr C A0 at_53 rfl ?_
    refine ow_iconst C A0 at_54 (v := 3) rfl rfl ?_
    refine ow_iand C A0 at_55 rfl ?_
    refine ow_iload C A0 at_56 rfl rfl ?_
    refine ow_iconst C A0 at_58 (v := 1) rfl rfl ?_
    refine ow_iadd C A0 at_59 rfl ?_
    show OwnWP _ _ _ _ _ _ _ _ _ T0 (mkF m 60 #[.val (.long q0), .second, .val (.long q1), .second, .val (.long q2), .second, .val (.long q3), .second, .val (.long q4), .second, .val (.int p5), .val (.int (0 : Int32)), .val (.long (q3 - q1)), .second, .unset, .unset, .unset, .unset, .unset] [(.int (1 : Int32)), (.int ((own_ushr p5 (2 : Int32)) &&& (3 : Int32)))])
    refine ow_irem C A0 at_60 (by decide) rfl ?_
    rw [own_from1 (own_ushr p5 (2 : Int32))]
    refine ow_istore C A0 at_61 (Ls' := #[.val (.long q0), .second, .val (.long q1), .second, .val (.long q2), .second, .val (.long q3), .second, .val (.long q4), .second, .val (.int p5), .val (.int (0 : Int32)), .val (.long (q3 - q1)), .second, .val (.int (0 : Int32)), .unset, .unset, .unset, .unset]) rfl rfl ?_
    refine ow_iconst C A0 at_63 (v := 3) rfl rfl ?_
    refine ow_newA C A0 (ty := .long) rfl tw_0 at_64 rfl (by decide) (cap := 3) (by decide) (by decide) (ck' := 1) (sk' := 3) rfl rfl (by decide) (by decide) ?_
    intro T1 h3 b4 kk5 g6 E7 V8 A2
    have ows_b4 : b4 ∈ ([] : List Addr) ∨ h0.size ≤ b4 := Or.inr (Nat.le_trans (ow_le A0) (Nat.le_of_eq g6.symm))
    have V9 : Arv Z h3 b4 kk5 .long (3 : Int32) [(.long (0 : Int64)), (.long (0 : Int64)), (.long (0 : Int64))] (.long (0 : Int64)) := V8.pad (pad_rep [] (.long (0 : Int64)) 3)
    refine ow_dup C A2 at_66 rfl rfl ?_
    refine ow_iconst C A2 at_67 (v := 0) rfl rfl ?_
    refine ow_lloadN C A2 at_68 rfl rfl ?_
    refine ow_lastore C A2 V9 ⟨by decide, by decide⟩ (i := 0) rfl (Nat.le_of_ble_eq_true rfl) ows_b4 at_69 rfl ?_
    intro T10 h12 W13 V14 A11
    have V15 : Arv Z h12 b4 kk5 .long (3 : Int32) [(.long q0), (.long (0 : Int64)), (.long (0 : Int64))] (.long (0 : Int64)) := V14
    refine ow_dup C A11 at_70 rfl rfl ?_
    refine ow_iconst C A11 at_71 (v := 1) rfl rfl ?_
    refine ow_lload C A11 at_72 rfl rfl ?_
    refine ow_lastore C A11 V15 ⟨by decide, by decide⟩ (i := 1) rfl (Nat.le_of_ble_eq_true rfl) ows_b4 at_74 rfl ?_
    intro T16 h18 W19 V20 A17
    have V21 : Arv Z h18 b4 kk5 .long (3 : Int32) [(.long q0), (.long q2), (.long (0 : Int64))] (.long (0 : Int64)) := V20
    refine ow_dup C A17 at_75 rfl rfl ?_
    refine ow_iconst C A17 at_76 (v := 2) rfl rfl ?_
    refine ow_lload C A17 at_77 rfl rfl ?_
    refine ow_lastore C A17 V21 ⟨by decide, by decide⟩ (i := 2) rfl (Nat.le_of_ble_eq_true rfl) ows_b4 at_79 rfl ?_
    intro T22 h24 W25 V26 A23
    have V27 : Arv Z h24 b4 kk5 .long (3 : Int32) [(.long q0), (.long q2), (.long q4)] (.long (0 : Int64)) := V26
    refine ow_astore C A23 at_80 rfl (Ls' := #[.val (.long q0), .second, .val (.long q1), .second, .val (.long q2), .second, .val (.long q3), .second, .val (.long q4), .second, .val (.int p5), .val (.int (0 : Int32)), .val (.long (q3 - q1)), .second, .val (.int (0 : Int32)), .val (.ref b4), .unset, .unset, .unset]) rfl rfl ?_
    refine ow_iconst C A23 at_82 (v := 3) rfl rfl ?_
    refine ow_newA C A23 (ty := .long) rfl tw_0 at_83 rfl (by decide) (cap := 3) (by decide) (by decide) (ck' := 2) (sk' := 6) rfl rfl (by decide) (by decide) ?_
    intro T28 h30 b31 kk32 g33 E34 V35 A29
    have ne36 : b4 ≠ b31 := Nat.ne_of_lt (Nat.lt_of_lt_of_le V27.lt (Nat.le_of_eq g33.symm))
    have ows_b31 : b31 ∈ ([] : List Addr) ∨ h0.size ≤ b31 := Or.inr (Nat.le_trans (ow_le A23) (Nat.le_of_eq g33.symm))
    have V37 : Arv Z h30 b31 kk32 .long (3 : Int32) [(.long (0 : Int64)), (.long (0 : Int64)), (.long (0 : Int64))] (.long (0 : Int64)) := V35.pad (pad_rep [] (.long (0 : Int64)) 3)
    refine ow_dup C A29 at_85 rfl rfl ?_
    refine ow_iconst C A29 at_86 (v := 0) rfl rfl ?_
    refine ow_lloadN C A29 at_87 rfl rfl ?_
    refine ow_lastore C A29 V37 ⟨by decide, by decide⟩ (i := 0) rfl (Nat.le_of_ble_eq_true rfl) ows_b31 at_88 rfl ?_
    intro T38 h40 W41 V42 A39
    have V43 : Arv Z h40 b31 kk32 .long (3 : Int32) [(.long q1), (.long (0 : Int64)), (.long (0 : Int64))] (.long (0 : Int64)) := V42
    refine ow_dup C A39 at_89 rfl rfl ?_
    refine ow_iconst C A39 at_90 (v := 1) rfl rfl ?_
    refine ow_lload C A39 at_91 rfl rfl ?_
    refine ow_lastore C A39 V43 ⟨by decide, by decide⟩ (i := 1) rfl (Nat.le_of_ble_eq_true rfl) ows_b31 at_93 rfl ?_
    intro T44 h46 W47 V48 A45
    have V49 : Arv Z h46 b31 kk32 .long (3 : Int32) [(.long q1), (.long q3), (.long (0 : Int64))] (.long (0 : Int64)) := V48
    refine ow_dup C A45 at_94 rfl rfl ?_
    refine ow_iconst C A45 at_95 (v := 2) rfl rfl ?_
    refine ow_lload C A45 at_96 rfl rfl ?_
    refine ow_lastore C A45 V49 ⟨by decide, by decide⟩ (i := 2) rfl (Nat.le_of_ble_eq_true rfl) ows_b31 at_98 rfl ?_
    intro T50 h52 W53 V54 A51
    have V55 : Arv Z h52 b31 kk32 .long (3 : Int32) [(.long q1), (.long q3), (.long (q3 - q1))] (.long (0 : Int64)) := V54
    refine ow_astore C A51 at_99 rfl (Ls' := #[.val (.long q0), .second, .val (.long q1), .second, .val (.long q2), .second, .val (.long q3), .second, .val (.long q4), .second, .val (.int p5), .val (.int (0 : Int32)), .val (.long (q3 - q1)), .second, .val (.int (0 : Int32)), .val (.ref b4), .val (.ref b31), .unset, .unset]) rfl rfl ?_
    refine ow_new C A51 tw_1 tw_2 tw_3 at_101 rfl (ck' := 3) (sk' := 10) rfl rfl (by decide) (by decide) ?_
    intro T56 h58 b59 g60 E61 X62 D63 A57
    have f64 := ((((V27.ext E34).other W41 ne36).other W47 ne36).other W53 ne36)
    have ne65 : b4 ≠ b59 := Nat.ne_of_lt (Nat.lt_of_lt_of_le f64.lt (Nat.le_of_eq g60.symm))
    have ne66 : b31 ≠ b59 := Nat.ne_of_lt (Nat.lt_of_lt_of_le V55.lt (Nat.le_of_eq g60.symm))
    have ows_b59 : b59 ∈ ([] : List Addr) ∨ h0.size ≤ b59 := Or.inr (Nat.le_trans (ow_le A51) (Nat.le_of_eq g60.symm))
    have f67 : Fld Z h58 b59 "com/example/ratebook/ratebook/journal/RecentKeys" "keys" "[J" .null := D63 (Or.inl (hw _ tw_11)) (ty := (.array .long)) (by decide)
    have f68 : Fld Z h58 b59 "com/example/ratebook/ratebook/journal/RecentKeys" "numbers" "[J" .null := D63 (Or.inl (hw _ tw_13)) (ty := (.array .long)) (by decide)
    have f69 : Fld Z h58 b59 "com/example/ratebook/ratebook/journal/RecentKeys" "slots" "[I" .null := D63 (Or.inl (hw _ tw_16)) (ty := (.array .int)) (by decide)
    have f70 : Fld Z h58 b59 "com/example/ratebook/ratebook/journal/RecentKeys" "size" "I" (.int (0 : Int32)) := D63 (Or.inl (hw _ tw_33)) (ty := .int) (by decide)
    refine ow_dup C A57 at_104 rfl rfl ?_
    have f71 := (f64.ext E61)
    have f72 := (V55.ext E61)
    refine ow_callI C A57 (argsL := []) (a := b59) (rm_init l Z a0 hw b59 h58 X62 f67 f68 f69 f70 []) rfl tw_4 tw_5 tw_3 tw_6 (by decide) (allS ows_b59 all0) (by decide) (by decide) (ck' := 6) (sk' := 2058) rfl rfl (by decide) (by decide) rfl (lenOf pd_3 rfl) (S := [(.ref b59)]) rfl (W := 1) (Nat.le_of_eq rfl) at_105 rfl ?_
    intro T73 v73 K73 hQ73 A73
    obtain ⟨rfl, kA73, nA73, sA73, c173, c273, c373, O73, O273, U73, g73_k, g73_n, g73_s⟩ := hQ73
    show OwnWP _ _ _ _ _ _ _ _ _ T73 (mkF m 108 #[.val (.long q0), .second, .val (.long q1), .second, .val (.long q2), .second, .val (.long q3), .second, .val (.long q4), .second, .val (.int p5), .val (.int (0 : Int32)), .val (.long (q3 - q1)), .second, .val (.int (0 : Int32)), .val (.ref b4), .val (.ref b31), .unset, .unset] [(.ref b59)])
    obtain ⟨xE74, xK74, xN74, xS74, xZ74⟩ := O73
    obtain ⟨yK75, yN75, yS75⟩ := O273
    have U73' := U73
    obtain ⟨u76_0, u76_1, u76_2, u76_3, u76_4, u76_5⟩ := U73
    have ne77 : b4 ≠ kA73 := Nat.ne_of_lt (Nat.lt_of_lt_of_le f71.lt g73_k)
    have ne78 : b31 ≠ kA73 := Nat.ne_of_lt (Nat.lt_of_lt_of_le f72.lt g73_k)
    have ne79 : b4 ≠ nA73 := Nat.ne_of_lt (Nat.lt_of_lt_of_le f71.lt g73_n)
    have ne80 : b31 ≠ nA73 := Nat.ne_of_lt (Nat.lt_of_lt_of_le f72.lt g73_n)
    have ne81 : b4 ≠ sA73 := Nat.ne_of_lt (Nat.lt_of_lt_of_le f71.lt g73_s)
    have ne82 : b31 ≠ sA73 := Nat.ne_of_lt (Nat.lt_of_lt_of_le f72.lt g73_s)
    refine ow_astore C A73 at_108 rfl (Ls' := #[.val (.long q0), .second, .val (.long q1), .second, .val (.long q2), .second, .val (.long q3), .second, .val (.long q4), .second, .val (.int p5), .val (.int (0 : Int32)), .val (.long (q3 - q1)), .second, .val (.int (0 : Int32)), .val (.ref b4), .val (.ref b31), .val (.ref b59), .unset]) rfl rfl ?_
    refine ow_iload C A73 at_110 rfl rfl ?_
    refine ow_iconst C A73 at_112 (v := 1) rfl rfl ?_
    refine ow_icmp_lt C A73 at_113 (by decide) (pcY := 123) (by decide) (pcN := 116) rfl (fun _ => ?_) (fun zq => absurd (by decide) zq)
    refine ow_iload C A73 at_123 rfl rfl ?_
    refine ow_iconst C A73 at_125 (v := 2) rfl rfl ?_
    refine ow_icmp_lt C A73 at_126 (by decide) (pcY := 138) (by decide) (pcN := 129) rfl (fun _ => ?_) (fun zq => absurd (by decide) zq)
    refine ow_iload C A73 at_138 rfl rfl ?_
    refine ow_iconst C A73 at_140 (v := 3) rfl rfl ?_
    refine ow_icmp_lt C A73 at_141 (by decide) (pcY := 153) (by decide) (pcN := 144) rfl (fun _ => ?_) (fun zq => absurd (by decide) zq)
    refine ow_aload C A73 at_153 rfl rfl rfl ?_
    refine ow_iload C A73 at_155 rfl rfl ?_
    refine ow_callV C A73 (argsL := [(.int (0 : Int32))]) xE74 (rm_pf0_0 l Z a0 hw b59 kA73 nA73 sA73 c173 c273 c373  T73.heap own_f0 ⟨xE74, xK74, xN74, xS74, xZ74⟩ ⟨yK75, yN75, yS75⟩ []) tw_38 tw_39 (ow_nf hw tw_41) tw_41 tw_40 tw_3 tw_42 (by decide) all0 (by decide) (by decide) (ck' := 7) (sk' := 2064) rfl rfl (by decide) (by decide) rfl (lenOf pd_4 rfl) (S := []) rfl (W := 0) (Nat.le_of_eq rfl) at_157 rfl ?_
    intro T83 v83 K83 hQ83 A83
    obtain ⟨rr83, kr83, rfl, yR83⟩ := hQ83
    show OwnWP _ _ _ _ _ _ _ _ _ T83 (mkF m 160 #[.val (.long q0), .second, .val (.long q1), .second, .val (.long q2), .second, .val (.long q3), .second, .val (.long q4), .second, .val (.int p5), .val (.int (0 : Int32)), .val (.long (q3 - q1)), .second, .val (.int (0 : Int32)), .val (.ref b4), .val (.ref b31), .val (.ref b59), .unset] [(.ref rr83)])
    refine ow_astore C A83 at_160 rfl (Ls' := #[.val (.long q0), .second, .val (.long q1), .second, .val (.long q2), .second, .val (.long q3), .second, .val (.long q4), .second, .val (.int p5), .val (.int (0 : Int32)), .val (.long (q3 - q1)), .second, .val (.int (0 : Int32)), .val (.ref b4), .val (.ref b31), .val (.ref b59), .val (.ref rr83)]) rfl rfl ?_
    refine ow_aload C A83 at_162 rfl rfl rfl ?_
    refine ow_alen C A83 yR83 at_164 rfl ?_
    refine ow_iconst C A83 at_165 (v := 2) rfl rfl ?_
    refine ow_iload C A83 at_166 rfl rfl ?_
    refine ow_iload C A83 at_168 rfl rfl ?_
    refine ow_isub C A83 at_170 rfl ?_
    show OwnWP _ _ _ _ _ _ _ _ _ T83 (mkF m 171 #[.val (.long q0), .second, .val (.long q1), .second, .val (.long q2), .second, .val (.long q3), .second, .val (.long q4), .second, .val (.int p5), .val (.int (0 : Int32)), .val (.long (q3 - q1)), .second, .val (.int (0 : Int32)), .val (.ref b4), .val (.ref b31), .val (.ref b59), .val (.ref rr83)] [(.int (0 : Int32)), (.int (2 : Int32)), (.int (0 : Int32))])
    refine ow_imul C A83 at_171 rfl ?_
    show OwnWP _ _ _ _ _ _ _ _ _ T83 (mkF m 172 #[.val (.long q0), .second, .val (.long q1), .second, .val (.long q2), .second, .val (.long q3), .second, .val (.long q4), .second, .val (.int p5), .val (.int (0 : Int32)), .val (.long (q3 - q1)), .second, .val (.int (0 : Int32)), .val (.ref b4), .val (.ref b31), .val (.ref b59), .val (.ref rr83)] [(.int (0 : Int32)), (.int (0 : Int32))])
    refine ow_icmp_eq C A83 at_172 (by decide) (pcY := 177) (by decide) (pcN := 175) rfl (fun _ => ?_) (fun zq => absurd (by decide) zq)
    refine ow_aload C A83 at_177 rfl rfl rfl ?_
    refine ow_aload C A83 at_179 rfl rfl rfl ?_
    refine ow_aload C A83 at_181 rfl rfl rfl ?_
    refine ow_iload C A83 at_183 rfl rfl ?_
    refine ow_iload C A83 at_185 rfl rfl ?_
    refine ow_iconst C A83 at_187 (v := 0) rfl rfl ?_
    have f84 := ((f71.keep K73 (ninS ne65 nin0)).keep K83 nin0)
    have f85 := ((f72.keep K73 (ninS ne66 nin0)).keep K83 nin0)
    refine ow_callS C A83 (argsL := [(.ref rr83), (.ref b4), (.ref b31), (.int (0 : Int32)), (.int (0 : Int32)), (.int (0 : Int32))]) (rm_at0_0_0 l Z a0 hw rr83 b4 b31 kr83 kk5 kk32 q0 q1 q2 q3 q4 (q3 - q1) T83.heap yR83 f84 f85 []) tw_43 tw_44 tw_45 tw_46 (by decide) all0 (by decide) (by decide) (ck' := 7) (sk' := 2064) rfl rfl (by decide) (by decide) rfl (lenOf pd_5 rfl) (S := []) rfl (W := 0) (Nat.le_of_eq rfl) at_188 rfl ?_
    intro T86 v86 K86 hQ86 A86
    obtain ⟨rfl, ee86⟩ := hQ86
    rw [ee86] at A86 K86
    show OwnWP _ _ _ _ _ _ _ _ _ T86 (mkF m 191 #[.val (.long q0), .second, .val (.long q1), .second, .val (.long q2), .second, .val (.long q3), .second, .val (.long q4), .second, .val (.int p5), .val (.int (0 : Int32)), .val (.long (q3 - q1)), .second, .val (.int (0 : Int32)), .val (.ref b4), .val (.ref b31), .val (.ref b59), .val (.ref rr83)] [(.int (1 : Int32))])
    refine ow_if_eq C A86 at_191 (by decide) (pcY := 242) (by decide) (pcN := 194) rfl (fun zq => absurd zq (by decide)) (fun _ => ?_)
    refine ow_aload C A86 at_194 rfl rfl rfl ?_
    refine ow_aload C A86 at_196 rfl rfl rfl ?_
    refine ow_aload C A86 at_198 rfl rfl rfl ?_
    refine ow_iload C A86 at_200 rfl rfl ?_
    refine ow_iload C A86 at_202 rfl rfl ?_
    refine ow_iconst C A86 at_204 (v := 1) rfl rfl ?_
    refine ow_callS C A86 (argsL := [(.ref rr83), (.ref b4), (.ref b31), (.int (0 : Int32)), (.int (0 : Int32)), (.int (1 : Int32))]) (rm_at0_0_1 l Z a0 hw rr83 b4 b31 kr83 kk5 kk32 q0 q1 q2 q3 q4 (q3 - q1) T83.heap yR83 f84 f85 []) tw_43 tw_44 tw_45 tw_46 (by decide) all0 (by decide) (by decide) (ck' := 7) (sk' := 2064) rfl rfl (by decide) (by decide) rfl (lenOf pd_5 rfl) (S := []) rfl (W := 0) (Nat.le_of_eq rfl) at_205 rfl ?_
    intro T87 v87 K87 hQ87 A87
    obtain ⟨rfl, ee87⟩ := hQ87
    rw [ee87] at A87 K87
    show OwnWP _ _ _ _ _ _ _ _ _ T87 (mkF m 208 #[.val (.long q0), .second, .val (.long q1), .second, .val (.long q2), .second, .val (.long q3), .second, .val (.long q4), .second, .val (.int p5), .val (.int (0 : Int32)), .val (.long (q3 - q1)), .second, .val (.int (0 : Int32)), .val (.ref b4), .val (.ref b31), .val (.ref b59), .val (.ref rr83)] [(.int (1 : Int32))])
    refine ow_if_eq C A87 at_208 (by decide) (pcY := 242) (by decide) (pcN := 211) rfl (fun zq => absurd zq (by decide)) (fun _ => ?_)
    refine ow_aload C A87 at_211 rfl rfl rfl ?_
    refine ow_aload C A87 at_213 rfl rfl rfl ?_
    refine ow_aload C A87 at_215 rfl rfl rfl ?_
    refine ow_iload C A87 at_217 rfl rfl ?_
    refine ow_iload C A87 at_219 rfl rfl ?_
    refine ow_iconst C A87 at_221 (v := 2) rfl rfl ?_
    refine ow_callS C A87 (argsL := [(.ref rr83), (.ref b4), (.ref b31), (.int (0 : Int32)), (.int (0 : Int32)), (.int (2 : Int32))]) (rm_at0_0_2 l Z a0 hw rr83 b4 b31 kr83 kk5 kk32 q0 q1 q2 q3 q4 (q3 - q1) T83.heap yR83 f84 f85 []) tw_43 tw_44 tw_45 tw_46 (by decide) all0 (by decide) (by decide) (ck' := 7) (sk' := 2064) rfl rfl (by decide) (by decide) rfl (lenOf pd_5 rfl) (S := []) rfl (W := 0) (Nat.le_of_eq rfl) at_222 rfl ?_
    intro T88 v88 K88 hQ88 A88
    obtain ⟨rfl, ee88⟩ := hQ88
    rw [ee88] at A88 K88
    show OwnWP _ _ _ _ _ _ _ _ _ T88 (mkF m 225 #[.val (.long q0), .second, .val (.long q1), .second, .val (.long q2), .second, .val (.long q3), .second, .val (.long q4), .second, .val (.int p5), .val (.int (0 : Int32)), .val (.long (q3 - q1)), .second, .val (.int (0 : Int32)), .val (.ref b4), .val (.ref b31), .val (.ref b59), .val (.ref rr83)] [(.int (1 : Int32))])
    refine ow_if_eq C A88 at_225 (by decide) (pcY := 242) (by decide) (pcN := 228) rfl (fun zq => absurd zq (by decide)) (fun _ => ?_)
    refine ow_aload C A88 at_228 rfl rfl rfl ?_
    have f89 := (xZ74.keep K83 nin0)
    have f91 := (xE74.keep K83)
    refine ow_callV C A88 (argsL := []) f91 (rm_size l Z a0 hw b59 (0 : Int32) T83.heap f89 []) tw_47 tw_48 (ow_nf hw tw_50) tw_50 tw_49 tw_3 tw_51 (by decide) all0 (by decide) (by decide) (ck' := 7) (sk' := 2064) rfl rfl (by decide) (by decide) rfl (lenOf pd_6 rfl) (S := []) rfl (W := 0) (Nat.le_of_eq rfl) at_230 rfl ?_
    intro T90 v90 K90 hQ90 A90
    obtain ⟨rfl, ee90⟩ := hQ90
    rw [ee90] at A90 K90
    show OwnWP _ _ _ _ _ _ _ _ _ T90 (mkF m 233 #[.val (.long q0), .second, .val (.long q1), .second, .val (.long q2), .second, .val (.long q3), .second, .val (.long q4), .second, .val (.int p5), .val (.int (0 : Int32)), .val (.long (q3 - q1)), .second, .val (.int (0 : Int32)), .val (.ref b4), .val (.ref b31), .val (.ref b59), .val (.ref rr83)] [(.int (0 : Int32))])
    refine ow_iload C A90 at_233 rfl rfl ?_
    refine ow_icmp_ne C A90 at_235 (by decide) (pcY := 242) (by decide) (pcN := 238) rfl (fun zq => absurd (by decide) zq) (fun _ => ?_)
    refine ow_iconst C A90 at_238 (v := 1) rfl rfl ?_
    refine ow_goto C A90 at_239 (by decide) (pc' := 243) (by decide) ?_
    refine ow_ireturn C A90 (t := .boolean) rfl rfl (by simp) at_243 (by decide) (by decide) ?_
    exact rfl
  · rw [hn]
    refine ow_istore C A0 at_4 (Ls' := #[.val (.long q0), .second, .val (.long q1), .second, .val (.long q2), .second, .val (.long q3), .second, .val (.long q4), .second, .val (.int p5), .val (.int (1 : Int32)), .unset, .unset, .unset, .unset, .unset, .unset, .unset]) rfl rfl ?_
    refine ow_lload C A0 at_6 rfl rfl ?_
    refine ow_lloadN C A0 at_8 rfl rfl ?_
    refine ow_lsub C A0 at_9 rfl ?_
    refine ow_lstore C A0 at_10 (Ls' := #[.val (.long q0), .second, .val (.long q1), .second, .val (.long q2), .second, .val (.long q3), .second, .val (.long q4), .second, .val (.int p5), .val (.int (1 : Int32)), .val (.long (q3 - q1)), .second, .unset, .unset, .unset, .unset, .unset]) rfl rfl ?_
    refine ow_iload C A0 at_12 rfl rfl ?_
    refine ow_iconst C A0 at_14 (v := 2) rfl rfl ?_
    refine ow_icmp_lt C A0 at_15 (by decide) (pcY := 27) (by decide) (pcN := 18) rfl (fun _ => ?_) (fun zq => absurd (by decide) zq)
    refine ow_iload C A0 at_27 rfl rfl ?_
    refine ow_iconst C A0 at_29 (v := 3) rfl rfl ?_
    refine ow_icmp_lt C A0 at_30 (by decide) (pcY := 50) (by decide) (pcN := 33) rfl (fun _ => ?_) (fun zq => absurd (by decide) zq)
    refine ow_iload C A0 at_50 rfl rfl ?_
    refine ow_iconst C A0 at_52 (v := 2) rfl rfl ?_
    refine ow_iushr C A0 at_53 rfl ?_
    refine ow_iconst C A0 at_54 (v := 3) rfl rfl ?_
    refine ow_iand C A0 at_55 rfl ?_
    refine ow_iload C A0 at_56 rfl rfl ?_
    refine ow_iconst C A0 at_58 (v := 1) rfl rfl ?_
    refine ow_iadd C A0 at_59 rfl ?_
    show OwnWP _ _ _ _ _ _ _ _ _ T0 (mkF m 60 #[.val (.long q0), .second, .val (.long q1), .second, .val (.long q2), .second, .val (.long q3), .second, .val (.long q4), .second, .val (.int p5), .val (.int (1 : Int32)), .val (.long (q3 - q1)), .second, .unset, .unset, .unset, .unset, .unset] [(.int (2 : Int32)), (.int ((own_ushr p5 (2 : Int32)) &&& (3 : Int32)))])
    refine ow_irem C A0 at_60 (by decide) rfl ?_
    rcases own_from2 (own_ushr p5 (2 : Int32)) with hf | hf
    · rw [hf]
      refine ow_istore C A0 at_61 (Ls' := #[.val (.long q0), .second, .val (.long q1), .second, .val (.long q2), .second, .val (.long q3), .second, .val (.long q4), .second, .val (.int p5), .val (.int (1 : Int32)), .val (.long (q3 - q1)), .second, .val (.int (0 : Int32)), .unset, .unset, .unset, .unset]) rfl rfl ?_
      refine ow_iconst C A0 at_63 (v := 3) rfl rfl ?_
      refine ow_newA C A0 (ty := .long) rfl tw_0 at_64 rfl (by decide) (cap := 3) (by decide) (by decide) (ck' := 1) (sk' := 3) rfl rfl (by decide) (by decide) ?_
      intro T92 h94 b95 kk96 g97 E98 V99 A93
      have ows_b95 : b95 ∈ ([] : List Addr) ∨ h0.size ≤ b95 := Or.inr (Nat.le_trans (ow_le A0) (Nat.le_of_eq g97.symm))
      have V100 : Arv Z h94 b95 kk96 .long (3 : Int32) [(.long (0 : Int64)), (.long (0 : Int64)), (.long (0 : Int64))] (.long (0 : Int64)) := V99.pad (pad_rep [] (.long (0 : Int64)) 3)
      refine ow_dup C A93 at_66 rfl rfl ?_
      refine ow_iconst C A93 at_67 (v := 0) rfl rfl ?_
      refine ow_lloadN C A93 at_68 rfl rfl ?_
      refine ow_lastore C A93 V100 ⟨by decide, by decide⟩ (i := 0) rfl (Nat.le_of_ble_eq_true rfl) ows_b95 at_69 rfl ?_
      intro T101 h103 W104 V105 A102
      have V106 : Arv Z h103 b95 kk96 .long (3 : Int32) [(.long q0), (.long (0 : Int64)), (.long (0 : Int64))] (.long (0 : Int64)) := V105
      refine ow_dup C A102 at_70 rfl rfl ?_
      refine ow_iconst C A102 at_71 (v := 1) rfl rfl ?_
      refine ow_lload C A102 at_72 rfl rfl ?_
      refine ow_lastore C A102 V106 ⟨by decide, by decide⟩ (i := 1) rfl (Nat.le_of_ble_eq_true rfl) ows_b95 at_74 rfl ?_
      intro T107 h109 W110 V111 A108
      have V112 : Arv Z h109 b95 kk96 .long (3 : Int32) [(.long q0), (.long q2), (.long (0 : Int64))] (.long (0 : Int64)) := V111
      refine ow_dup C A108 at_75 rfl rfl ?_
      refine ow_iconst C A108 at_76 (v := 2) rfl rfl ?_
      refine ow_lload C A108 at_77 rfl rfl ?_
      refine ow_lastore C A108 V112 ⟨by decide, by decide⟩ (i := 2) rfl (Nat.le_of_ble_eq_true rfl) ows_b95 at_79 rfl ?_
      intro T113 h115 W116 V117 A114
      have V118 : Arv Z h115 b95 kk96 .long (3 : Int32) [(.long q0), (.long q2), (.long q4)] (.long (0 : Int64)) := V117
      refine ow_astore C A114 at_80 rfl (Ls' := #[.val (.long q0), .second, .val (.long q1), .second, .val (.long q2), .second, .val (.long q3), .second, .val (.long q4), .second, .val (.int p5), .val (.int (1 : Int32)), .val (.long (q3 - q1)), .second, .val (.int (0 : Int32)), .val (.ref b95), .unset, .unset, .unset]) rfl rfl ?_
      refine ow_iconst C A114 at_82 (v := 3) rfl rfl ?_
      refine ow_newA C A114 (ty := .long) rfl tw_0 at_83 rfl (by decide) (cap := 3) (by decide) (by decide) (ck' := 2) (sk' := 6) rfl rfl (by decide) (by decide) ?_
      intro T119 h121 b122 kk123 g124 E125 V126 A120
      have ne127 : b95 ≠ b122 := Nat.ne_of_lt (Nat.lt_of_lt_of_le V118.lt (Nat.le_of_eq g124.symm))
      have ows_b122 : b122 ∈ ([] : List Addr) ∨ h0.size ≤ b122 := Or.inr (Nat.le_trans (ow_le A114) (Nat.le_of_eq g124.symm))
      have V128 : Arv Z h121 b122 kk123 .long (3 : Int32) [(.long (0 : Int64)), (.long (0 : Int64)), (.long (0 : Int64))] (.long (0 : Int64)) := V126.pad (pad_rep [] (.long (0 : Int64)) 3)
      refine ow_dup C A120 at_85 rfl rfl ?_
      refine ow_iconst C A120 at_86 (v := 0) rfl rfl ?_
      refine ow_lloadN C A120 at_87 rfl rfl ?_
      refine ow_lastore C A120 V128 ⟨by decide, by decide⟩ (i := 0) rfl (Nat.le_of_ble_eq_true rfl) ows_b122 at_88 rfl ?_
      intro T129 h131 W132 V133 A130
      have V134 : Arv Z h131 b122 kk123 .long (3 : Int32) [(.long q1), (.long (0 : Int64)), (.long (0 : Int64))] (.long (0 : Int64)) := V133
      refine ow_dup C A130 at_89 rfl rfl ?_
      refine ow_iconst C A130 at_90 (v := 1) rfl rfl ?_
      refine ow_lload C A130 at_91 rfl rfl ?_
      refine ow_lastore C A130 V134 ⟨by decide, by decide⟩ (i := 1) rfl (Nat.le_of_ble_eq_true rfl) ows_b122 at_93 rfl ?_
      intro T135 h137 W138 V139 A136
      have V140 : Arv Z h137 b122 kk123 .long (3 : Int32) [(.long q1), (.long q3), (.long (0 : Int64))] (.long (0 : Int64)) := V139
      refine ow_dup C A136 at_94 rfl rfl ?_
      refine ow_iconst C A136 at_95 (v := 2) rfl rfl ?_
      refine ow_lload C A136 at_96 rfl rfl ?_
      refine ow_lastore C A136 V140 ⟨by decide, by decide⟩ (i := 2) rfl (Nat.le_of_ble_eq_true rfl) ows_b122 at_98 rfl ?_
      intro T141 h143 W144 V145 A142
      have V146 : Arv Z h143 b122 kk123 .long (3 : Int32) [(.long q1), (.long q3), (.long (q3 - q1))] (.long (0 : Int64)) := V145
      refine ow_astore C A142 at_99 rfl (Ls' := #[.val (.long q0), .second, .val (.long q1), .second, .val (.long q2), .second, .val (.long q3), .second, .val (.long q4), .second, .val (.int p5), .val (.int (1 : Int32)), .val (.long (q3 - q1)), .second, .val (.int (0 : Int32)), .val (.ref b95), .val (.ref b122), .unset, .unset]) rfl rfl ?_
      refine ow_new C A142 tw_1 tw_2 tw_3 at_101 rfl (ck' := 3) (sk' := 10) rfl rfl (by decide) (by decide) ?_
      intro T147 h149 b150 g151 E152 X153 D154 A148
      have f155 := ((((V118.ext E125).other W132 ne127).other W138 ne127).other W144 ne127)
      have ne156 : b95 ≠ b150 := Nat.ne_of_lt (Nat.lt_of_lt_of_le f155.lt (Nat.le_of_eq g151.symm))
      have ne157 : b122 ≠ b150 := Nat.ne_of_lt (Nat.lt_of_lt_of_le V146.lt (Nat.le_of_eq g151.symm))
      have ows_b150 : b150 ∈ ([] : List Addr) ∨ h0.size ≤ b150 := Or.inr (Nat.le_trans (ow_le A142) (Nat.le_of_eq g151.symm))
      have f158 : Fld Z h149 b150 "com/example/ratebook/ratebook/journal/RecentKeys" "keys" "[J" .null := D154 (Or.inl (hw _ tw_11)) (ty := (.array .long)) (by decide)
      have f159 : Fld Z h149 b150 "com/example/ratebook/ratebook/journal/RecentKeys" "numbers" "[J" .null := D154 (Or.inl (hw _ tw_13)) (ty := (.array .long)) (by decide)
      have f160 : Fld Z h149 b150 "com/example/ratebook/ratebook/journal/RecentKeys" "slots" "[I" .null := D154 (Or.inl (hw _ tw_16)) (ty := (.array .int)) (by decide)
      have f161 : Fld Z h149 b150 "com/example/ratebook/ratebook/journal/RecentKeys" "size" "I" (.int (0 : Int32)) := D154 (Or.inl (hw _ tw_33)) (ty := .int) (by decide)
      refine ow_dup C A148 at_104 rfl rfl ?_
      have f162 := (f155.ext E152)
      have f163 := (V146.ext E152)
      refine ow_callI C A148 (argsL := []) (a := b150) (rm_init l Z a0 hw b150 h149 X153 f158 f159 f160 f161 []) rfl tw_4 tw_5 tw_3 tw_6 (by decide) (allS ows_b150 all0) (by decide) (by decide) (ck' := 6) (sk' := 2058) rfl rfl (by decide) (by decide) rfl (lenOf pd_3 rfl) (S := [(.ref b150)]) rfl (W := 1) (Nat.le_of_eq rfl) at_105 rfl ?_
      intro T164 v164 K164 hQ164 A164
      obtain ⟨rfl, kA164, nA164, sA164, c1164, c2164, c3164, O164, O2164, U164, g164_k, g164_n, g164_s⟩ := hQ164
      show OwnWP _ _ _ _ _ _ _ _ _ T164 (mkF m 108 #[.val (.long q0), .second, .val (.long q1), .second, .val (.long q2), .second, .val (.long q3), .second, .val (.long q4), .second, .val (.int p5), .val (.int (1 : Int32)), .val (.long (q3 - q1)), .second, .val (.int (0 : Int32)), .val (.ref b95), .val (.ref b122), .unset, .unset] [(.ref b150)])
      obtain ⟨xE165, xK165, xN165, xS165, xZ165⟩ := O164
      obtain ⟨yK166, yN166, yS166⟩ := O2164
      have U164' := U164
      obtain ⟨u167_0, u167_1, u167_2, u167_3, u167_4, u167_5⟩ := U164
      have ne168 : b95 ≠ kA164 := Nat.ne_of_lt (Nat.lt_of_lt_of_le f162.lt g164_k)
      have ne169 : b122 ≠ kA164 := Nat.ne_of_lt (Nat.lt_of_lt_of_le f163.lt g164_k)
      have ne170 : b95 ≠ nA164 := Nat.ne_of_lt (Nat.lt_of_lt_of_le f162.lt g164_n)
      have ne171 : b122 ≠ nA164 := Nat.ne_of_lt (Nat.lt_of_lt_of_le f163.lt g164_n)
      have ne172 : b95 ≠ sA164 := Nat.ne_of_lt (Nat.lt_of_lt_of_le f162.lt g164_s)
      have ne173 : b122 ≠ sA164 := Nat.ne_of_lt (Nat.lt_of_lt_of_le f163.lt g164_s)
      refine ow_astore C A164 at_108 rfl (Ls' := #[.val (.long q0), .second, .val (.long q1), .second, .val (.long q2), .second, .val (.long q3), .second, .val (.long q4), .second, .val (.int p5), .val (.int (1 : Int32)), .val (.long (q3 - q1)), .second, .val (.int (0 : Int32)), .val (.ref b95), .val (.ref b122), .val (.ref b150), .unset]) rfl rfl ?_
      refine ow_iload C A164 at_110 rfl rfl ?_
      refine ow_iconst C A164 at_112 (v := 1) rfl rfl ?_
      refine ow_icmp_lt C A164 at_113 (by decide) (pcY := 123) (by decide) (pcN := 116) rfl (fun zq => absurd zq (by decide)) (fun _ => ?_)
      refine ow_aload C A164 at_116 rfl rfl rfl ?_
      refine ow_lloadN C A164 at_118 rfl rfl ?_
      refine ow_lloadN C A164 at_119 rfl rfl ?_
      refine ow_callV C A164 (argsL := [(.long q0), (.long q1)]) xE165 (rm_add0 l Z a0 hw b150 kA164 nA164 sA164 c1164 c2164 c3164 q0 q1  T164.heap ⟨xE165, xK165, xN165, xS165, xZ165⟩ ⟨yK166, yN166, yS166⟩ U164'    []) tw_17 tw_18 (ow_nf hw tw_20) tw_20 tw_19 tw_3 tw_21 (by decide) (allS ows_b150 (allS (Or.inr (Nat.le_trans (ow_le A148) g164_k)) (allS (Or.inr (Nat.le_trans (ow_le A148) g164_n)) (allS (Or.inr (Nat.le_trans (ow_le A148) g164_s)) all0)))) (by decide) (by decide) (ck' := 6) (sk' := 2058) rfl rfl (by decide) (by decide) rfl (lenOf pd_7 rfl) (S := []) rfl (W := 0) (Nat.le_of_eq rfl) at_120 rfl ?_
      intro T174 v174 K174 hQ174 A174
      obtain ⟨rfl, pp174, O174, O2174⟩ := hQ174
      show OwnWP _ _ _ _ _ _ _ _ _ T174 (mkF m 123 #[.val (.long q0), .second, .val (.long q1), .second, .val (.long q2), .second, .val (.long q3), .second, .val (.long q4), .second, .val (.int p5), .val (.int (1 : Int32)), .val (.long (q3 - q1)), .second, .val (.int (0 : Int32)), .val (.ref b95), .val (.ref b122), .val (.ref b150), .unset] [])
      obtain ⟨xE175, xK175, xN175, xS175, xZ175⟩ := O174
      obtain ⟨yK176, yN176, yS176⟩ := O2174
      refine ow_iload C A174 at_123 rfl rfl ?_
      refine ow_iconst C A174 at_125 (v := 2) rfl rfl ?_
      refine ow_icmp_lt C A174 at_126 (by decide) (pcY := 138) (by decide) (pcN := 129) rfl (fun _ => ?_) (fun zq => absurd (by decide) zq)
      refine ow_iload C A174 at_138 rfl rfl ?_
      refine ow_iconst C A174 at_140 (v := 3) rfl rfl ?_
      refine ow_icmp_lt C A174 at_141 (by decide) (pcY := 153) (by decide) (pcN := 144) rfl (fun _ => ?_) (fun zq => absurd (by decide) zq)
      refine ow_aload C A174 at_153 rfl rfl rfl ?_
      refine ow_iload C A174 at_155 rfl rfl ?_
      refine ow_callV C A174 (argsL := [(.int (0 : Int32))]) xE175 (rm_pf1_0 l Z a0 hw b150 kA164 nA164 sA164 c1164 c2164 c3164 q0 q1 T174.heap (own_f1 pp174) ⟨xE175, xK175, xN175, xS175, xZ175⟩ ⟨yK176, yN176, yS176⟩ []) tw_38 tw_39 (ow_nf hw tw_41) tw_41 tw_40 tw_3 tw_42 (by decide) all0 (by decide) (by decide) (ck' := 7) (sk' := 2064) rfl rfl (by decide) (by decide) rfl (lenOf pd_4 rfl) (S := []) rfl (W := 0) (Nat.le_of_eq rfl) at_157 rfl ?_
      intro T177 v177 K177 hQ177 A177
      obtain ⟨rr177, kr177, rfl, yR177⟩ := hQ177
      show OwnWP _ _ _ _ _ _ _ _ _ T177 (mkF m 160 #[.val (.long q0), .second, .val (.long q1), .second, .val (.long q2), .second, .val (.long q3), .second, .val (.long q4), .second, .val (.int p5), .val (.int (1 : Int32)), .val (.long (q3 - q1)), .second, .val (.int (0 : Int32)), .val (.ref b95), .val (.ref b122), .val (.ref b150), .unset] [(.ref rr177)])
      refine ow_astore C A177 at_160 rfl (Ls' := #[.val (.long q0), .second, .val (.long q1), .second, .val (.long q2), .second, .val (.long q3), .second, .val (.long q4), .second, .val (.int p5), .val (.int (1 : Int32)), .val (.long (q3 - q1)), .second, .val (.int (0 : Int32)), .val (.ref b95), .val (.ref b122), .val (.ref b150), .val (.ref rr177)]) rfl rfl ?_
      refine ow_aload C A177 at_162 rfl rfl rfl ?_
      refine ow_alen C A177 yR177 at_164 rfl ?_
      refine ow_iconst C A177 at_165 (v := 2) rfl rfl ?_
      refine ow_iload C A177 at_166 rfl rfl ?_
      refine ow_iload C A177 at_168 rfl rfl ?_
      refine ow_isub C A177 at_170 rfl ?_
      show OwnWP _ _ _ _ _ _ _ _ _ T177 (mkF m 171 #[.val (.long q0), .second, .val (.long q1), .second, .val (.long q2), .second, .val (.long q3), .second, .val (.long q4), .second, .val (.int p5), .val (.int (1 : Int32)), .val (.long (q3 - q1)), .second, .val (.int (0 : Int32)), .val (.ref b95), .val (.ref b122), .val (.ref b150), .val (.ref rr177)] [(.int (1 : Int32)), (.int (2 : Int32)), (.int (2 : Int32))])
      refine ow_imul C A177 at_171 rfl ?_
      show OwnWP _ _ _ _ _ _ _ _ _ T177 (mkF m 172 #[.val (.long q0), .second, .val (.long q1), .second, .val (.long q2), .second, .val (.long q3), .second, .val (.long q4), .second, .val (.int p5), .val (.int (1 : Int32)), .val (.long (q3 - q1)), .second, .val (.int (0 : Int32)), .val (.ref b95), .val (.ref b122), .val (.ref b150), .val (.ref rr177)] [(.int (2 : Int32)), (.int (2 : Int32))])
      refine ow_icmp_eq C A177 at_172 (by decide) (pcY := 177) (by decide) (pcN := 175) rfl (fun _ => ?_) (fun zq => absurd (by decide) zq)
      refine ow_aload C A177 at_177 rfl rfl rfl ?_
      refine ow_aload C A177 at_179 rfl rfl rfl ?_
      refine ow_aload C A177 at_181 rfl rfl rfl ?_
      refine ow_iload C A177 at_183 rfl rfl ?_
      refine ow_iload C A177 at_185 rfl rfl ?_
      refine ow_iconst C A177 at_187 (v := 0) rfl rfl ?_
      have f178 := (((f162.keep K164 (ninS ne156 nin0)).keep K174 (ninS ne156 (ninS ne168 (ninS ne170 (ninS ne172 nin0))))).keep K177 nin0)
      have f179 := (((f163.keep K164 (ninS ne157 nin0)).keep K174 (ninS ne157 (ninS ne169 (ninS ne171 (ninS ne173 nin0))))).keep K177 nin0)
      refine ow_callS C A177 (argsL := [(.ref rr177), (.ref b95), (.ref b122), (.int (0 : Int32)), (.int (1 : Int32)), (.int (0 : Int32))]) (rm_at1_0_0 l Z a0 hw rr177 b95 b122 kr177 kk96 kk123 q0 q1 q2 q3 q4 (q3 - q1) T177.heap yR177 f178 f179 []) tw_43 tw_44 tw_45 tw_46 (by decide) all0 (by decide) (by decide) (ck' := 7) (sk' := 2064) rfl rfl (by decide) (by decide) rfl (lenOf pd_5 rfl) (S := []) rfl (W := 0) (Nat.le_of_eq rfl) at_188 rfl ?_
      intro T180 v180 K180 hQ180 A180
      obtain ⟨rfl, ee180⟩ := hQ180
      rw [ee180] at A180 K180
      show OwnWP _ _ _ _ _ _ _ _ _ T180 (mkF m 191 #[.val (.long q0), .second, .val (.long q1), .second, .val (.long q2), .second, .val (.long q3), .second, .val (.long q4), .second, .val (.int p5), .val (.int (1 : Int32)), .val (.long (q3 - q1)), .second, .val (.int (0 : Int32)), .val (.ref b95), .val (.ref b122), .val (.ref b150), .val (.ref rr177)] [(.int (1 : Int32))])
      refine ow_if_eq C A180 at_191 (by decide) (pcY := 242) (by decide) (pcN := 194) rfl (fun zq => absurd zq (by decide)) (fun _ => ?_)
      refine ow_aload C A180 at_194 rfl rfl rfl ?_
      refine ow_aload C A180 at_196 rfl rfl rfl ?_
      refine ow_aload C A180 at_198 rfl rfl rfl ?_
      refine ow_iload C A180 at_200 rfl rfl ?_
      refine ow_iload C A180 at_202 rfl rfl ?_
      refine ow_iconst C A180 at_204 (v := 1) rfl rfl ?_
      refine ow_callS C A180 (argsL := [(.ref rr177), (.ref b95), (.ref b122), (.int (0 : Int32)), (.int (1 : Int32)), (.int (1 : Int32))]) (rm_at1_0_1 l Z a0 hw rr177 b95 b122 kr177 kk96 kk123 q0 q1 q2 q3 q4 (q3 - q1) T177.heap yR177 f178 f179 []) tw_43 tw_44 tw_45 tw_46 (by decide) all0 (by decide) (by decide) (ck' := 7) (sk' := 2064) rfl rfl (by decide) (by decide) rfl (lenOf pd_5 rfl) (S := []) rfl (W := 0) (Nat.le_of_eq rfl) at_205 rfl ?_
      intro T181 v181 K181 hQ181 A181
      obtain ⟨rfl, ee181⟩ := hQ181
      rw [ee181] at A181 K181
      show OwnWP _ _ _ _ _ _ _ _ _ T181 (mkF m 208 #[.val (.long q0), .second, .val (.long q1), .second, .val (.long q2), .second, .val (.long q3), .second, .val (.long q4), .second, .val (.int p5), .val (.int (1 : Int32)), .val (.long (q3 - q1)), .second, .val (.int (0 : Int32)), .val (.ref b95), .val (.ref b122), .val (.ref b150), .val (.ref rr177)] [(.int (1 : Int32))])
      refine ow_if_eq C A181 at_208 (by decide) (pcY := 242) (by decide) (pcN := 211) rfl (fun zq => absurd zq (by decide)) (fun _ => ?_)
      refine ow_aload C A181 at_211 rfl rfl rfl ?_
      refine ow_aload C A181 at_213 rfl rfl rfl ?_
      refine ow_aload C A181 at_215 rfl rfl rfl ?_
      refine ow_iload C A181 at_217 rfl rfl ?_
      refine ow_iload C A181 at_219 rfl rfl ?_
      refine ow_iconst C A181 at_221 (v := 2) rfl rfl ?_
      refine ow_callS C A181 (argsL := [(.ref rr177), (.ref b95), (.ref b122), (.int (0 : Int32)), (.int (1 : Int32)), (.int (2 : Int32))]) (rm_at1_0_2 l Z a0 hw rr177 b95 b122 kr177 kk96 kk123 q0 q1 q2 q3 q4 (q3 - q1) T177.heap yR177 f178 f179 []) tw_43 tw_44 tw_45 tw_46 (by decide) all0 (by decide) (by decide) (ck' := 7) (sk' := 2064) rfl rfl (by decide) (by decide) rfl (lenOf pd_5 rfl) (S := []) rfl (W := 0) (Nat.le_of_eq rfl) at_222 rfl ?_
      intro T182 v182 K182 hQ182 A182
      obtain ⟨rfl, ee182⟩ := hQ182
      rw [ee182] at A182 K182
      show OwnWP _ _ _ _ _ _ _ _ _ T182 (mkF m 225 #[.val (.long q0), .second, .val (.long q1), .second, .val (.long q2), .second, .val (.long q3), .second, .val (.long q4), .second, .val (.int p5), .val (.int (1 : Int32)), .val (.long (q3 - q1)), .second, .val (.int (0 : Int32)), .val (.ref b95), .val (.ref b122), .val (.ref b150), .val (.ref rr177)] [(.int (1 : Int32))])
      refine ow_if_eq C A182 at_225 (by decide) (pcY := 242) (by decide) (pcN := 228) rfl (fun zq => absurd zq (by decide)) (fun _ => ?_)
      refine ow_aload C A182 at_228 rfl rfl rfl ?_
      have f183 := (xZ175.keep K177 nin0)
      have f185 := (xE175.keep K177)
      refine ow_callV C A182 (argsL := []) f185 (rm_size l Z a0 hw b150 (1 : Int32) T177.heap f183 []) tw_47 tw_48 (ow_nf hw tw_50) tw_50 tw_49 tw_3 tw_51 (by decide) all0 (by decide) (by decide) (ck' := 7) (sk' := 2064) rfl rfl (by decide) (by decide) rfl (lenOf pd_6 rfl) (S := []) rfl (W := 0) (Nat.le_of_eq rfl) at_230 rfl ?_
      intro T184 v184 K184 hQ184 A184
      obtain ⟨rfl, ee184⟩ := hQ184
      rw [ee184] at A184 K184
      show OwnWP _ _ _ _ _ _ _ _ _ T184 (mkF m 233 #[.val (.long q0), .second, .val (.long q1), .second, .val (.long q2), .second, .val (.long q3), .second, .val (.long q4), .second, .val (.int p5), .val (.int (1 : Int32)), .val (.long (q3 - q1)), .second, .val (.int (0 : Int32)), .val (.ref b95), .val (.ref b122), .val (.ref b150), .val (.ref rr177)] [(.int (1 : Int32))])
      refine ow_iload C A184 at_233 rfl rfl ?_
      refine ow_icmp_ne C A184 at_235 (by decide) (pcY := 242) (by decide) (pcN := 238) rfl (fun zq => absurd (by decide) zq) (fun _ => ?_)
      refine ow_iconst C A184 at_238 (v := 1) rfl rfl ?_
      refine ow_goto C A184 at_239 (by decide) (pc' := 243) (by decide) ?_
      refine ow_ireturn C A184 (t := .boolean) rfl rfl (by simp) at_243 (by decide) (by decide) ?_
      exact rfl
    · rw [hf]
      refine ow_istore C A0 at_61 (Ls' := #[.val (.long q0), .second, .val (.long q1), .second, .val (.long q2), .second, .val (.long q3), .second, .val (.long q4), .second, .val (.int p5), .val (.int (1 : Int32)), .val (.long (q3 - q1)), .second, .val (.int (1 : Int32)), .unset, .unset, .unset, .unset]) rfl rfl ?_
      refine ow_iconst C A0 at_63 (v := 3) rfl rfl ?_
      refine ow_newA C A0 (ty := .long) rfl tw_0 at_64 rfl (by decide) (cap := 3) (by decide) (by decide) (ck' := 1) (sk' := 3) rfl rfl (by decide) (by decide) ?_
      intro T186 h188 b189 kk190 g191 E192 V193 A187
      have ows_b189 : b189 ∈ ([] : List Addr) ∨ h0.size ≤ b189 := Or.inr (Nat.le_trans (ow_le A0) (Nat.le_of_eq g191.symm))
      have V194 : Arv Z h188 b189 kk190 .long (3 : Int32) [(.long (0 : Int64)), (.long (0 : Int64)), (.long (0 : Int64))] (.long (0 : Int64)) := V193.pad (pad_rep [] (.long (0 : Int64)) 3)
      refine ow_dup C A187 at_66 rfl rfl ?_
      refine ow_iconst C A187 at_67 (v := 0) rfl rfl ?_
      refine ow_lloadN C A187 at_68 rfl rfl ?_
      refine ow_lastore C A187 V194 ⟨by decide, by decide⟩ (i := 0) rfl (Nat.le_of_ble_eq_true rfl) ows_b189 at_69 rfl ?_
      intro T195 h197 W198 V199 A196
      have V200 : Arv Z h197 b189 kk190 .long (3 : Int32) [(.long q0), (.long (0 : Int64)), (.long (0 : Int64))] (.long (0 : Int64)) := V199
      refine ow_dup C A196 at_70 rfl rfl ?_
      refine ow_iconst C A196 at_71 (v := 1) rfl rfl ?_
      refine ow_lload C A196 at_72 rfl rfl ?_
      refine ow_lastore C A196 V200 ⟨by decide, by decide⟩ (i := 1) rfl (Nat.le_of_ble_eq_true rfl) ows_b189 at_74 rfl ?_
      intro T201 h203 W204 V205 A202
      have V206 : Arv Z h203 b189 kk190 .long (3 : Int32) [(.long q0), (.long q2), (.long (0 : Int64))] (.long (0 : Int64)) := V205
      refine ow_dup C A202 at_75 rfl rfl ?_
      refine ow_iconst C A202 at_76 (v := 2) rfl rfl ?_
      refine ow_lload C A202 at_77 rfl rfl ?_
      refine ow_lastore C A202 V206 ⟨by decide, by decide⟩ (i := 2) rfl (Nat.le_of_ble_eq_true rfl) ows_b189 at_79 rfl ?_
      intro T207 h209 W210 V211 A208
      have V212 : Arv Z h209 b189 kk190 .long (3 : Int32) [(.long q0), (.long q2), (.long q4)] (.long (0 : Int64)) := V211
      refine ow_astore C A208 at_80 rfl (Ls' := #[.val (.long q0), .second, .val (.long q1), .second, .val (.long q2), .second, .val (.long q3), .second, .val (.long q4), .second, .val (.int p5), .val (.int (1 : Int32)), .val (.long (q3 - q1)), .second, .val (.int (1 : Int32)), .val (.ref b189), .unset, .unset, .unset]) rfl rfl ?_
      refine ow_iconst C A208 at_82 (v := 3) rfl rfl ?_
      refine ow_newA C A208 (ty := .long) rfl tw_0 at_83 rfl (by decide) (cap := 3) (by decide) (by decide) (ck' := 2) (sk' := 6) rfl rfl (by decide) (by decide) ?_
      intro T213 h215 b216 kk217 g218 E219 V220 A214
      have ne221 : b189 ≠ b216 := Nat.ne_of_lt (Nat.lt_of_lt_of_le V212.lt (Nat.le_of_eq g218.symm))
      have ows_b216 : b216 ∈ ([] : List Addr) ∨ h0.size ≤ b216 := Or.inr (Nat.le_trans (ow_le A208) (Nat.le_of_eq g218.symm))
      have V222 : Arv Z h215 b216 kk217 .long (3 : Int32) [(.long (0 : Int64)), (.long (0 : Int64)), (.long (0 : Int64))] (.long (0 : Int64)) := V220.pad (pad_rep [] (.long (0 : Int64)) 3)
      refine ow_dup C A214 at_85 rfl rfl ?_
      refine ow_iconst C A214 at_86 (v := 0) rfl rfl ?_
      refine ow_lloadN C A214 at_87 rfl rfl ?_
      refine ow_lastore C A214 V222 ⟨by decide, by decide⟩ (i := 0) rfl (Nat.le_of_ble_eq_true rfl) ows_b216 at_88 rfl ?_
      intro T223 h225 W226 V227 A224
      have V228 : Arv Z h225 b216 kk217 .long (3 : Int32) [(.long q1), (.long (0 : Int64)), (.long (0 : Int64))] (.long (0 : Int64)) := V227
      refine ow_dup C A224 at_89 rfl rfl ?_
      refine ow_iconst C A224 at_90 (v := 1) rfl rfl ?_
      refine ow_lload C A224 at_91 rfl rfl ?_
      refine ow_lastore C A224 V228 ⟨by decide, by decide⟩ (i := 1) rfl (Nat.le_of_ble_eq_true rfl) ows_b216 at_93 rfl ?_
      intro T229 h231 W232 V233 A230
      have V234 : Arv Z h231 b216 kk217 .long (3 : Int32) [(.long q1), (.long q3), (.long (0 : Int64))] (.long (0 : Int64)) := V233
      refine ow_dup C A230 at_94 rfl rfl ?_
      refine ow_iconst C A230 at_95 (v := 2) rfl rfl ?_
      refine ow_lload C A230 at_96 rfl rfl ?_
      refine ow_lastore C A230 V234 ⟨by decide, by decide⟩ (i := 2) rfl (Nat.le_of_ble_eq_true rfl) ows_b216 at_98 rfl ?_
      intro T235 h237 W238 V239 A236
      have V240 : Arv Z h237 b216 kk217 .long (3 : Int32) [(.long q1), (.long q3), (.long (q3 - q1))] (.long (0 : Int64)) := V239
      refine ow_astore C A236 at_99 rfl (Ls' := #[.val (.long q0), .second, .val (.long q1), .second, .val (.long q2), .second, .val (.long q3), .second, .val (.long q4), .second, .val (.int p5), .val (.int (1 : Int32)), .val (.long (q3 - q1)), .second, .val (.int (1 : Int32)), .val (.ref b189), .val (.ref b216), .unset, .unset]) rfl rfl ?_
      refine ow_new C A236 tw_1 tw_2 tw_3 at_101 rfl (ck' := 3) (sk' := 10) rfl rfl (by decide) (by decide) ?_
      intro T241 h243 b244 g245 E246 X247 D248 A242
      have f249 := ((((V212.ext E219).other W226 ne221).other W232 ne221).other W238 ne221)
      have ne250 : b189 ≠ b244 := Nat.ne_of_lt (Nat.lt_of_lt_of_le f249.lt (Nat.le_of_eq g245.symm))
      have ne251 : b216 ≠ b244 := Nat.ne_of_lt (Nat.lt_of_lt_of_le V240.lt (Nat.le_of_eq g245.symm))
      have ows_b244 : b244 ∈ ([] : List Addr) ∨ h0.size ≤ b244 := Or.inr (Nat.le_trans (ow_le A236) (Nat.le_of_eq g245.symm))
      have f252 : Fld Z h243 b244 "com/example/ratebook/ratebook/journal/RecentKeys" "keys" "[J" .null := D248 (Or.inl (hw _ tw_11)) (ty := (.array .long)) (by decide)
      have f253 : Fld Z h243 b244 "com/example/ratebook/ratebook/journal/RecentKeys" "numbers" "[J" .null := D248 (Or.inl (hw _ tw_13)) (ty := (.array .long)) (by decide)
      have f254 : Fld Z h243 b244 "com/example/ratebook/ratebook/journal/RecentKeys" "slots" "[I" .null := D248 (Or.inl (hw _ tw_16)) (ty := (.array .int)) (by decide)
      have f255 : Fld Z h243 b244 "com/example/ratebook/ratebook/journal/RecentKeys" "size" "I" (.int (0 : Int32)) := D248 (Or.inl (hw _ tw_33)) (ty := .int) (by decide)
      refine ow_dup C A242 at_104 rfl rfl ?_
      have f256 := (f249.ext E246)
      have f257 := (V240.ext E246)
      refine ow_callI C A242 (argsL := []) (a := b244) (rm_init l Z a0 hw b244 h243 X247 f252 f253 f254 f255 []) rfl tw_4 tw_5 tw_3 tw_6 (by decide) (allS ows_b244 all0) (by decide) (by decide) (ck' := 6) (sk' := 2058) rfl rfl (by decide) (by decide) rfl (lenOf pd_3 rfl) (S := [(.ref b244)]) rfl (W := 1) (Nat.le_of_eq rfl) at_105 rfl ?_
      intro T258 v258 K258 hQ258 A258
      obtain ⟨rfl, kA258, nA258, sA258, c1258, c2258, c3258, O258, O2258, U258, g258_k, g258_n, g258_s⟩ := hQ258
      show OwnWP _ _ _ _ _ _ _ _ _ T258 (mkF m 108 #[.val (.long q0), .second, .val (.long q1), .second, .val (.long q2), .second, .val (.long q3), .second, .val (.long q4), .second, .val (.int p5), .val (.int (1 : Int32)), .val (.long (q3 - q1)), .second, .val (.int (1 : Int32)), .val (.ref b189), .val (.ref b216), .unset, .unset] [(.ref b244)])
      obtain ⟨xE259, xK259, xN259, xS259, xZ259⟩ := O258
      obtain ⟨yK260, yN260, yS260⟩ := O2258
      have U258' := U258
      obtain ⟨u261_0, u261_1, u261_2, u261_3, u261_4, u261_5⟩ := U258
      have ne262 : b189 ≠ kA258 := Nat.ne_of_lt (Nat.lt_of_lt_of_le f256.lt g258_k)
      have ne263 : b216 ≠ kA258 := Nat.ne_of_lt (Nat.lt_of_lt_of_le f257.lt g258_k)
      have ne264 : b189 ≠ nA258 := Nat.ne_of_lt (Nat.lt_of_lt_of_le f256.lt g258_n)
      have ne265 : b216 ≠ nA258 := Nat.ne_of_lt (Nat.lt_of_lt_of_le f257.lt g258_n)
      have ne266 : b189 ≠ sA258 := Nat.ne_of_lt (Nat.lt_of_lt_of_le f256.lt g258_s)
      have ne267 : b216 ≠ sA258 := Nat.ne_of_lt (Nat.lt_of_lt_of_le f257.lt g258_s)
      refine ow_astore C A258 at_108 rfl (Ls' := #[.val (.long q0), .second, .val (.long q1), .second, .val (.long q2), .second, .val (.long q3), .second, .val (.long q4), .second, .val (.int p5), .val (.int (1 : Int32)), .val (.long (q3 - q1)), .second, .val (.int (1 : Int32)), .val (.ref b189), .val (.ref b216), .val (.ref b244), .unset]) rfl rfl ?_
      refine ow_iload C A258 at_110 rfl rfl ?_
      refine ow_iconst C A258 at_112 (v := 1) rfl rfl ?_
      refine ow_icmp_lt C A258 at_113 (by decide) (pcY := 123) (by decide) (pcN := 116) rfl (fun zq => absurd zq (by decide)) (fun _ => ?_)
      refine ow_aload C A258 at_116 rfl rfl rfl ?_
      refine ow_lloadN C A258 at_118 rfl rfl ?_
      refine ow_lloadN C A258 at_119 rfl rfl ?_
      refine ow_callV C A258 (argsL := [(.long q0), (.long q1)]) xE259 (rm_add0 l Z a0 hw b244 kA258 nA258 sA258 c1258 c2258 c3258 q0 q1  T258.heap ⟨xE259, xK259, xN259, xS259, xZ259⟩ ⟨yK260, yN260, yS260⟩ U258'    []) tw_17 tw_18 (ow_nf hw tw_20) tw_20 tw_19 tw_3 tw_21 (by decide) (allS ows_b244 (allS (Or.inr (Nat.le_trans (ow_le A242) g258_k)) (allS (Or.inr (Nat.le_trans (ow_le A242) g258_n)) (allS (Or.inr (Nat.le_trans (ow_le A242) g258_s)) all0)))) (by decide) (by decide) (ck' := 6) (sk' := 2058) rfl rfl (by decide) (by decide) rfl (lenOf pd_7 rfl) (S := []) rfl (W := 0) (Nat.le_of_eq rfl) at_120 rfl ?_
      intro T268 v268 K268 hQ268 A268
      obtain ⟨rfl, pp268, O268, O2268⟩ := hQ268
      show OwnWP _ _ _ _ _ _ _ _ _ T268 (mkF m 123 #[.val (.long q0), .second, .val (.long q1), .second, .val (.long q2), .second, .val (.long q3), .second, .val (.long q4), .second, .val (.int p5), .val (.int (1 : Int32)), .val (.long (q3 - q1)), .second, .val (.int (1 : Int32)), .val (.ref b189), .val (.ref b216), .val (.ref b244), .unset] [])
      obtain ⟨xE269, xK269, xN269, xS269, xZ269⟩ := O268
      obtain ⟨yK270, yN270, yS270⟩ := O2268
      refine ow_iload C A268 at_123 rfl rfl ?_
      refine ow_iconst C A268 at_125 (v := 2) rfl rfl ?_
      refine ow_icmp_lt C A268 at_126 (by decide) (pcY := 138) (by decide) (pcN := 129) rfl (fun _ => ?_) (fun zq => absurd (by decide) zq)
      refine ow_iload C A268 at_138 rfl rfl ?_
      refine ow_iconst C A268 at_140 (v := 3) rfl rfl ?_
      refine ow_icmp_lt C A268 at_141 (by decide) (pcY := 153) (by decide) (pcN := 144) rfl (fun _ => ?_) (fun zq => absurd (by decide) zq)
      refine ow_aload C A268 at_153 rfl rfl rfl ?_
      refine ow_iload C A268 at_155 rfl rfl ?_
      refine ow_callV C A268 (argsL := [(.int (1 : Int32))]) xE269 (rm_pf1_1 l Z a0 hw b244 kA258 nA258 sA258 c1258 c2258 c3258 q0 q1 T268.heap (own_f1 pp268) ⟨xE269, xK269, xN269, xS269, xZ269⟩ ⟨yK270, yN270, yS270⟩ []) tw_38 tw_39 (ow_nf hw tw_41) tw_41 tw_40 tw_3 tw_42 (by decide) all0 (by decide) (by decide) (ck' := 7) (sk' := 2064) rfl rfl (by decide) (by decide) rfl (lenOf pd_4 rfl) (S := []) rfl (W := 0) (Nat.le_of_eq rfl) at_157 rfl ?_
      intro T271 v271 K271 hQ271 A271
      obtain ⟨rr271, kr271, rfl, yR271⟩ := hQ271
      show OwnWP _ _ _ _ _ _ _ _ _ T271 (mkF m 160 #[.val (.long q0), .second, .val (.long q1), .second, .val (.long q2), .second, .val (.long q3), .second, .val (.long q4), .second, .val (.int p5), .val (.int (1 : Int32)), .val (.long (q3 - q1)), .second, .val (.int (1 : Int32)), .val (.ref b189), .val (.ref b216), .val (.ref b244), .unset] [(.ref rr271)])
      refine ow_astore C A271 at_160 rfl (Ls' := #[.val (.long q0), .second, .val (.long q1), .second, .val (.long q2), .second, .val (.long q3), .second, .val (.long q4), .second, .val (.int p5), .val (.int (1 : Int32)), .val (.long (q3 - q1)), .second, .val (.int (1 : Int32)), .val (.ref b189), .val (.ref b216), .val (.ref b244), .val (.ref rr271)]) rfl rfl ?_
      refine ow_aload C A271 at_162 rfl rfl rfl ?_
      refine ow_alen C A271 yR271 at_164 rfl ?_
      refine ow_iconst C A271 at_165 (v := 2) rfl rfl ?_
      refine ow_iload C A271 at_166 rfl rfl ?_
      refine ow_iload C A271 at_168 rfl rfl ?_
      refine ow_isub C A271 at_170 rfl ?_
      show OwnWP _ _ _ _ _ _ _ _ _ T271 (mkF m 171 #[.val (.long q0), .second, .val (.long q1), .second, .val (.long q2), .second, .val (.long q3), .second, .val (.long q4), .second, .val (.int p5), .val (.int (1 : Int32)), .val (.long (q3 - q1)), .second, .val (.int (1 : Int32)), .val (.ref b189), .val (.ref b216), .val (.ref b244), .val (.ref rr271)] [(.int (0 : Int32)), (.int (2 : Int32)), (.int (0 : Int32))])
      refine ow_imul C A271 at_171 rfl ?_
      show OwnWP _ _ _ _ _ _ _ _ _ T271 (mkF m 172 #[.val (.long q0), .second, .val (.long q1), .second, .val (.long q2), .second, .val (.long q3), .second, .val (.long q4), .second, .val (.int p5), .val (.int (1 : Int32)), .val (.long (q3 - q1)), .second, .val (.int (1 : Int32)), .val (.ref b189), .val (.ref b216), .val (.ref b244), .val (.ref rr271)] [(.int (0 : Int32)), (.int (0 : Int32))])
      refine ow_icmp_eq C A271 at_172 (by decide) (pcY := 177) (by decide) (pcN := 175) rfl (fun _ => ?_) (fun zq => absurd (by decide) zq)
      refine ow_aload C A271 at_177 rfl rfl rfl ?_
      refine ow_aload C A271 at_179 rfl rfl rfl ?_
      refine ow_aload C A271 at_181 rfl rfl rfl ?_
      refine ow_iload C A271 at_183 rfl rfl ?_
      refine ow_iload C A271 at_185 rfl rfl ?_
      refine ow_iconst C A271 at_187 (v := 0) rfl rfl ?_
      have f272 := (((f256.keep K258 (ninS ne250 nin0)).keep K268 (ninS ne250 (ninS ne262 (ninS ne264 (ninS ne266 nin0))))).keep K271 nin0)
      have f273 := (((f257.keep K258 (ninS ne251 nin0)).keep K268 (ninS ne251 (ninS ne263 (ninS ne265 (ninS ne267 nin0))))).keep K271 nin0)
      refine ow_callS C A271 (argsL := [(.ref rr271), (.ref b189), (.ref b216), (.int (1 : Int32)), (.int (1 : Int32)), (.int (0 : Int32))]) (rm_at1_1_0 l Z a0 hw rr271 b189 b216 kr271 kk190 kk217 q0 q1 q2 q3 q4 (q3 - q1) T271.heap yR271 f272 f273 []) tw_43 tw_44 tw_45 tw_46 (by decide) all0 (by decide) (by decide) (ck' := 7) (sk' := 2064) rfl rfl (by decide) (by decide) rfl (lenOf pd_5 rfl) (S := []) rfl (W := 0) (Nat.le_of_eq rfl) at_188 rfl ?_
      intro T274 v274 K274 hQ274 A274
      obtain ⟨rfl, ee274⟩ := hQ274
      rw [ee274] at A274 K274
      show OwnWP _ _ _ _ _ _ _ _ _ T274 (mkF m 191 #[.val (.long q0), .second, .val (.long q1), .second, .val (.long q2), .second, .val (.long q3), .second, .val (.long q4), .second, .val (.int p5), .val (.int (1 : Int32)), .val (.long (q3 - q1)), .second, .val (.int (1 : Int32)), .val (.ref b189), .val (.ref b216), .val (.ref b244), .val (.ref rr271)] [(.int (1 : Int32))])
      refine ow_if_eq C A274 at_191 (by decide) (pcY := 242) (by decide) (pcN := 194) rfl (fun zq => absurd zq (by decide)) (fun _ => ?_)
      refine ow_aload C A274 at_194 rfl rfl rfl ?_
      refine ow_aload C A274 at_196 rfl rfl rfl ?_
      refine ow_aload C A274 at_198 rfl rfl rfl ?_
      refine ow_iload C A274 at_200 rfl rfl ?_
      refine ow_iload C A274 at_202 rfl rfl ?_
      refine ow_iconst C A274 at_204 (v := 1) rfl rfl ?_
      refine ow_callS C A274 (argsL := [(.ref rr271), (.ref b189), (.ref b216), (.int (1 : Int32)), (.int (1 : Int32)), (.int (1 : Int32))]) (rm_at1_1_1 l Z a0 hw rr271 b189 b216 kr271 kk190 kk217 q0 q1 q2 q3 q4 (q3 - q1) T271.heap yR271 f272 f273 []) tw_43 tw_44 tw_45 tw_46 (by decide) all0 (by decide) (by decide) (ck' := 7) (sk' := 2064) rfl rfl (by decide) (by decide) rfl (lenOf pd_5 rfl) (S := []) rfl (W := 0) (Nat.le_of_eq rfl) at_205 rfl ?_
      intro T275 v275 K275 hQ275 A275
      obtain ⟨rfl, ee275⟩ := hQ275
      rw [ee275] at A275 K275
      show OwnWP _ _ _ _ _ _ _ _ _ T275 (mkF m 208 #[.val (.long q0), .second, .val (.long q1), .second, .val (.long q2), .second, .val (.long q3), .second, .val (.long q4), .second, .val (.int p5), .val (.int (1 : Int32)), .val (.long (q3 - q1)), .second, .val (.int (1 : Int32)), .val (.ref b189), .val (.ref b216), .val (.ref b244), .val (.ref rr271)] [(.int (1 : Int32))])
      refine ow_if_eq C A275 at_208 (by decide) (pcY := 242) (by decide) (pcN := 211) rfl (fun zq => absurd zq (by decide)) (fun _ => ?_)
      refine ow_aload C A275 at_211 rfl rfl rfl ?_
      refine ow_aload C A275 at_213 rfl rfl rfl ?_
      refine ow_aload C A275 at_215 rfl rfl rfl ?_
      refine ow_iload C A275 at_217 rfl rfl ?_
      refine ow_iload C A275 at_219 rfl rfl ?_
      refine ow_iconst C A275 at_221 (v := 2) rfl rfl ?_
      refine ow_callS C A275 (argsL := [(.ref rr271), (.ref b189), (.ref b216), (.int (1 : Int32)), (.int (1 : Int32)), (.int (2 : Int32))]) (rm_at1_1_2 l Z a0 hw rr271 b189 b216 kr271 kk190 kk217 q0 q1 q2 q3 q4 (q3 - q1) T271.heap yR271 f272 f273 []) tw_43 tw_44 tw_45 tw_46 (by decide) all0 (by decide) (by decide) (ck' := 7) (sk' := 2064) rfl rfl (by decide) (by decide) rfl (lenOf pd_5 rfl) (S := []) rfl (W := 0) (Nat.le_of_eq rfl) at_222 rfl ?_
      intro T276 v276 K276 hQ276 A276
      obtain ⟨rfl, ee276⟩ := hQ276
      rw [ee276] at A276 K276
      show OwnWP _ _ _ _ _ _ _ _ _ T276 (mkF m 225 #[.val (.long q0), .second, .val (.long q1), .second, .val (.long q2), .second, .val (.long q3), .second, .val (.long q4), .second, .val (.int p5), .val (.int (1 : Int32)), .val (.long (q3 - q1)), .second, .val (.int (1 : Int32)), .val (.ref b189), .val (.ref b216), .val (.ref b244), .val (.ref rr271)] [(.int (1 : Int32))])
      refine ow_if_eq C A276 at_225 (by decide) (pcY := 242) (by decide) (pcN := 228) rfl (fun zq => absurd zq (by decide)) (fun _ => ?_)
      refine ow_aload C A276 at_228 rfl rfl rfl ?_
      have f277 := (xZ269.keep K271 nin0)
      have f279 := (xE269.keep K271)
      refine ow_callV C A276 (argsL := []) f279 (rm_size l Z a0 hw b244 (1 : Int32) T271.heap f277 []) tw_47 tw_48 (ow_nf hw tw_50) tw_50 tw_49 tw_3 tw_51 (by decide) all0 (by decide) (by decide) (ck' := 7) (sk' := 2064) rfl rfl (by decide) (by decide) rfl (lenOf pd_6 rfl) (S := []) rfl (W := 0) (Nat.le_of_eq rfl) at_230 rfl ?_
      intro T278 v278 K278 hQ278 A278
      obtain ⟨rfl, ee278⟩ := hQ278
      rw [ee278] at A278 K278
      show OwnWP _ _ _ _ _ _ _ _ _ T278 (mkF m 233 #[.val (.long q0), .second, .val (.long q1), .second, .val (.long q2), .second, .val (.long q3), .second, .val (.long q4), .second, .val (.int p5), .val (.int (1 : Int32)), .val (.long (q3 - q1)), .second, .val (.int (1 : Int32)), .val (.ref b189), .val (.ref b216), .val (.ref b244), .val (.ref rr271)] [(.int (1 : Int32))])
      refine ow_iload C A278 at_233 rfl rfl ?_
      refine ow_icmp_ne C A278 at_235 (by decide) (pcY := 242) (by decide) (pcN := 238) rfl (fun zq => absurd (by decide) zq) (fun _ => ?_)
      refine ow_iconst C A278 at_238 (v := 1) rfl rfl ?_
      refine ow_goto C A278 at_239 (by decide) (pc' := 243) (by decide) ?_
      refine ow_ireturn C A278 (t := .boolean) rfl rfl (by simp) at_243 (by decide) (by decide) ?_
      exact rfl
  · rw [hn]
    refine ow_istore C A0 at_4 (Ls' := #[.val (.long q0), .second, .val (.long q1), .second, .val (.long q2), .second, .val (.long q3), .second, .val (.long q4), .second, .val (.int p5), .val (.int (2 : Int32)), .unset, .unset, .unset, .unset, .unset, .unset, .unset]) rfl rfl ?_
    refine ow_lload C A0 at_6 rfl rfl ?_
    refine ow_lloadN C A0 at_8 rfl rfl ?_
    refine ow_lsub C A0 at_9 rfl ?_
    refine ow_lstore C A0 at_10 (Ls' := #[.val (.long q0), .second, .val (.long q1), .second, .val (.long q2), .second, .val (.long q3), .second, .val (.long q4), .second, .val (.int p5), .val (.int (2 : Int32)), .val (.long (q3 - q1)), .second, .unset, .unset, .unset, .unset, .unset]) rfl rfl ?_
    refine ow_iload C A0 at_12 rfl rfl ?_
    refine ow_iconst C A0 at_14 (v := 2) rfl rfl ?_
    refine ow_icmp_lt C A0 at_15 (by decide) (pcY := 27) (by decide) (pcN := 18) rfl (fun zq => absurd zq (by decide)) (fun _ => ?_)
    refine ow_lload C A0 at_18 rfl rfl ?_
    refine ow_lloadN C A0 at_20 rfl rfl ?_
    refine ow_lcmp_ne C A0 at_21 rfl at_22 (by decide) (pcY := 27) (by decide) (pcN := 25) rfl (fun hc21 => ?_) (fun hc21 => ?_)
    · skip
      have hne10 : ¬ (q2 = q0) := hc21
      refine ow_iload C A0 at_27 rfl rfl ?_
      refine ow_iconst C A0 at_29 (v := 3) rfl rfl ?_
      refine ow_icmp_lt C A0 at_30 (by decide) (pcY := 50) (by decide) (pcN := 33) rfl (fun _ => ?_) (fun zq => absurd (by decide) zq)
      refine ow_iload C A0 at_50 rfl rfl ?_
      refine ow_iconst C A0 at_52 (v := 2) rfl rfl ?_
      refine ow_iushr C A0 at_53 rfl ?_
      refine ow_iconst C A0 at_54 (v := 3) rfl rfl ?_
      refine ow_iand C A0 at_55 rfl ?_
      refine ow_iload C A0 at_56 rfl rfl ?_
      refine ow_iconst C A0 at_58 (v := 1) rfl rfl ?_
      refine ow_iadd C A0 at_59 rfl ?_
      show OwnWP _ _ _ _ _ _ _ _ _ T0 (mkF m 60 #[.val (.long q0), .second, .val (.long q1), .second, .val (.long q2), .second, .val (.long q3), .second, .val (.long q4), .second, .val (.int p5), .val (.int (2 : Int32)), .val (.long (q3 - q1)), .second, .unset, .unset, .unset, .unset, .unset] [(.int (3 : Int32)), (.int ((own_ushr p5 (2 : Int32)) &&& (3 : Int32)))])
      refine ow_irem C A0 at_60 (by decide) rfl ?_
      rcases own_from3 (own_ushr p5 (2 : Int32)) with hf | hf | hf
      · rw [hf]
        refine ow_istore C A0 at_61 (Ls' := #[.val (.long q0), .second, .val (.long q1), .second, .val (.long q2), .second, .val (.long q3), .second, .val (.long q4), .second, .val (.int p5), .val (.int (2 : Int32)), .val (.long (q3 - q1)), .second, .val (.int (0 : Int32)), .unset, .unset, .unset, .unset]) rfl rfl ?_
        refine ow_iconst C A0 at_63 (v := 3) rfl rfl ?_
        refine ow_newA C A0 (ty := .long) rfl tw_0 at_64 rfl (by decide) (cap := 3) (by decide) (by decide) (ck' := 1) (sk' := 3) rfl rfl (by decide) (by decide) ?_
        intro T280 h282 b283 kk284 g285 E286 V287 A281
        have ows_b283 : b283 ∈ ([] : List Addr) ∨ h0.size ≤ b283 := Or.inr (Nat.le_trans (ow_le A0) (Nat.le_of_eq g285.symm))
        have V288 : Arv Z h282 b283 kk284 .long (3 : Int32) [(.long (0 : Int64)), (.long (0 : Int64)), (.long (0 : Int64))] (.long (0 : Int64)) := V287.pad (pad_rep [] (.long (0 : Int64)) 3)
        refine ow_dup C A281 at_66 rfl rfl ?_
        refine ow_iconst C A281 at_67 (v := 0) rfl rfl ?_
        refine ow_lloadN C A281 at_68 rfl rfl ?_
        refine ow_lastore C A281 V288 ⟨by decide, by decide⟩ (i := 0) rfl (Nat.le_of_ble_eq_true rfl) ows_b283 at_69 rfl ?_
        intro T289 h291 W292 V293 A290
        have V294 : Arv Z h291 b283 kk284 .long (3 : Int32) [(.long q0), (.long (0 : Int64)), (.long (0 : Int64))] (.long (0 : Int64)) := V293
        refine ow_dup C A290 at_70 rfl rfl ?_
        refine ow_iconst C A290 at_71 (v := 1) rfl rfl ?_
        refine ow_lload C A290 at_72 rfl rfl ?_
        refine ow_lastore C A290 V294 ⟨by decide, by decide⟩ (i := 1) rfl (Nat.le_of_ble_eq_true rfl) ows_b283 at_74 rfl ?_
        intro T295 h297 W298 V299 A296
        have V300 : Arv Z h297 b283 kk284 .long (3 : Int32) [(.long q0), (.long q2), (.long (0 : Int64))] (.long (0 : Int64)) := V299
        refine ow_dup C A296 at_75 rfl rfl ?_
        refine ow_iconst C A296 at_76 (v := 2) rfl rfl ?_
        refine ow_lload C A296 at_77 rfl rfl ?_
        refine ow_lastore C A296 V300 ⟨by decide, by decide⟩ (i := 2) rfl (Nat.le_of_ble_eq_true rfl) ows_b283 at_79 rfl ?_
        intro T301 h303 W304 V305 A302
        have V306 : Arv Z h303 b283 kk284 .long (3 : Int32) [(.long q0), (.long q2), (.long q4)] (.long (0 : Int64)) := V305
        refine ow_astore C A302 at_80 rfl (Ls' := #[.val (.long q0), .second, .val (.long q1), .second, .val (.long q2), .second, .val (.long q3), .second, .val (.long q4), .second, .val (.int p5), .val (.int (2 : Int32)), .val (.long (q3 - q1)), .second, .val (.int (0 : Int32)), .val (.ref b283), .unset, .unset, .unset]) rfl rfl ?_
        refine ow_iconst C A302 at_82 (v := 3) rfl rfl ?_
        refine ow_newA C A302 (ty := .long) rfl tw_0 at_83 rfl (by decide) (cap := 3) (by decide) (by decide) (ck' := 2) (sk' := 6) rfl rfl (by decide) (by decide) ?_
        intro T307 h309 b310 kk311 g312 E313 V314 A308
        have ne315 : b283 ≠ b310 := Nat.ne_of_lt (Nat.lt_of_lt_of_le V306.lt (Nat.le_of_eq g312.symm))
        have ows_b310 : b310 ∈ ([] : List Addr) ∨ h0.size ≤ b310 := Or.inr (Nat.le_trans (ow_le A302) (Nat.le_of_eq g312.symm))
        have V316 : Arv Z h309 b310 kk311 .long (3 : Int32) [(.long (0 : Int64)), (.long (0 : Int64)), (.long (0 : Int64))] (.long (0 : Int64)) := V314.pad (pad_rep [] (.long (0 : Int64)) 3)
        refine ow_dup C A308 at_85 rfl rfl ?_
        refine ow_iconst C A308 at_86 (v := 0) rfl rfl ?_
        refine ow_lloadN C A308 at_87 rfl rfl ?_
        refine ow_lastore C A308 V316 ⟨by decide, by decide⟩ (i := 0) rfl (Nat.le_of_ble_eq_true rfl) ows_b310 at_88 rfl ?_
        intro T317 h319 W320 V321 A318
        have V322 : Arv Z h319 b310 kk311 .long (3 : Int32) [(.long q1), (.long (0 : Int64)), (.long (0 : Int64))] (.long (0 : Int64)) := V321
        refine ow_dup C A318 at_89 rfl rfl ?_
        refine ow_iconst C A318 at_90 (v := 1) rfl rfl ?_
        refine ow_lload C A318 at_91 rfl rfl ?_
        refine ow_lastore C A318 V322 ⟨by decide, by decide⟩ (i := 1) rfl (Nat.le_of_ble_eq_true rfl) ows_b310 at_93 rfl ?_
        intro T323 h325 W326 V327 A324
        have V328 : Arv Z h325 b310 kk311 .long (3 : Int32) [(.long q1), (.long q3), (.long (0 : Int64))] (.long (0 : Int64)) := V327
        refine ow_dup C A324 at_94 rfl rfl ?_
        refine ow_iconst C A324 at_95 (v := 2) rfl rfl ?_
        refine ow_lload C A324 at_96 rfl rfl ?_
        refine ow_lastore C A324 V328 ⟨by decide, by decide⟩ (i := 2) rfl (Nat.le_of_ble_eq_true rfl) ows_b310 at_98 rfl ?_
        intro T329 h331 W332 V333 A330
        have V334 : Arv Z h331 b310 kk311 .long (3 : Int32) [(.long q1), (.long q3), (.long (q3 - q1))] (.long (0 : Int64)) := V333
        refine ow_astore C A330 at_99 rfl (Ls' := #[.val (.long q0), .second, .val (.long q1), .second, .val (.long q2), .second, .val (.long q3), .second, .val (.long q4), .second, .val (.int p5), .val (.int (2 : Int32)), .val (.long (q3 - q1)), .second, .val (.int (0 : Int32)), .val (.ref b283), .val (.ref b310), .unset, .unset]) rfl rfl ?_
        refine ow_new C A330 tw_1 tw_2 tw_3 at_101 rfl (ck' := 3) (sk' := 10) rfl rfl (by decide) (by decide) ?_
        intro T335 h337 b338 g339 E340 X341 D342 A336
        have f343 := ((((V306.ext E313).other W320 ne315).other W326 ne315).other W332 ne315)
        have ne344 : b283 ≠ b338 := Nat.ne_of_lt (Nat.lt_of_lt_of_le f343.lt (Nat.le_of_eq g339.symm))
        have ne345 : b310 ≠ b338 := Nat.ne_of_lt (Nat.lt_of_lt_of_le V334.lt (Nat.le_of_eq g339.symm))
        have ows_b338 : b338 ∈ ([] : List Addr) ∨ h0.size ≤ b338 := Or.inr (Nat.le_trans (ow_le A330) (Nat.le_of_eq g339.symm))
        have f346 : Fld Z h337 b338 "com/example/ratebook/ratebook/journal/RecentKeys" "keys" "[J" .null := D342 (Or.inl (hw _ tw_11)) (ty := (.array .long)) (by decide)
        have f347 : Fld Z h337 b338 "com/example/ratebook/ratebook/journal/RecentKeys" "numbers" "[J" .null := D342 (Or.inl (hw _ tw_13)) (ty := (.array .long)) (by decide)
        have f348 : Fld Z h337 b338 "com/example/ratebook/ratebook/journal/RecentKeys" "slots" "[I" .null := D342 (Or.inl (hw _ tw_16)) (ty := (.array .int)) (by decide)
        have f349 : Fld Z h337 b338 "com/example/ratebook/ratebook/journal/RecentKeys" "size" "I" (.int (0 : Int32)) := D342 (Or.inl (hw _ tw_33)) (ty := .int) (by decide)
        refine ow_dup C A336 at_104 rfl rfl ?_
        have f350 := (f343.ext E340)
        have f351 := (V334.ext E340)
        refine ow_callI C A336 (argsL := []) (a := b338) (rm_init l Z a0 hw b338 h337 X341 f346 f347 f348 f349 []) rfl tw_4 tw_5 tw_3 tw_6 (by decide) (allS ows_b338 all0) (by decide) (by decide) (ck' := 6) (sk' := 2058) rfl rfl (by decide) (by decide) rfl (lenOf pd_3 rfl) (S := [(.ref b338)]) rfl (W := 1) (Nat.le_of_eq rfl) at_105 rfl ?_
        intro T352 v352 K352 hQ352 A352
        obtain ⟨rfl, kA352, nA352, sA352, c1352, c2352, c3352, O352, O2352, U352, g352_k, g352_n, g352_s⟩ := hQ352
        show OwnWP _ _ _ _ _ _ _ _ _ T352 (mkF m 108 #[.val (.long q0), .second, .val (.long q1), .second, .val (.long q2), .second, .val (.long q3), .second, .val (.long q4), .second, .val (.int p5), .val (.int (2 : Int32)), .val (.long (q3 - q1)), .second, .val (.int (0 : Int32)), .val (.ref b283), .val (.ref b310), .unset, .unset] [(.ref b338)])
        obtain ⟨xE353, xK353, xN353, xS353, xZ353⟩ := O352
        obtain ⟨yK354, yN354, yS354⟩ := O2352
        have U352' := U352
        obtain ⟨u355_0, u355_1, u355_2, u355_3, u355_4, u355_5⟩ := U352
        have ne356 : b283 ≠ kA352 := Nat.ne_of_lt (Nat.lt_of_lt_of_le f350.lt g352_k)
        have ne357 : b310 ≠ kA352 := Nat.ne_of_lt (Nat.lt_of_lt_of_le f351.lt g352_k)
        have ne358 : b283 ≠ nA352 := Nat.ne_of_lt (Nat.lt_of_lt_of_le f350.lt g352_n)
        have ne359 : b310 ≠ nA352 := Nat.ne_of_lt (Nat.lt_of_lt_of_le f351.lt g352_n)
        have ne360 : b283 ≠ sA352 := Nat.ne_of_lt (Nat.lt_of_lt_of_le f350.lt g352_s)
        have ne361 : b310 ≠ sA352 := Nat.ne_of_lt (Nat.lt_of_lt_of_le f351.lt g352_s)
        refine ow_astore C A352 at_108 rfl (Ls' := #[.val (.long q0), .second, .val (.long q1), .second, .val (.long q2), .second, .val (.long q3), .second, .val (.long q4), .second, .val (.int p5), .val (.int (2 : Int32)), .val (.long (q3 - q1)), .second, .val (.int (0 : Int32)), .val (.ref b283), .val (.ref b310), .val (.ref b338), .unset]) rfl rfl ?_
        refine ow_iload C A352 at_110 rfl rfl ?_
        refine ow_iconst C A352 at_112 (v := 1) rfl rfl ?_
        refine ow_icmp_lt C A352 at_113 (by decide) (pcY := 123) (by decide) (pcN := 116) rfl (fun zq => absurd zq (by decide)) (fun _ => ?_)
        refine ow_aload C A352 at_116 rfl rfl rfl ?_
        refine ow_lloadN C A352 at_118 rfl rfl ?_
        refine ow_lloadN C A352 at_119 rfl rfl ?_
        refine ow_callV C A352 (argsL := [(.long q0), (.long q1)]) xE353 (rm_add0 l Z a0 hw b338 kA352 nA352 sA352 c1352 c2352 c3352 q0 q1  T352.heap ⟨xE353, xK353, xN353, xS353, xZ353⟩ ⟨yK354, yN354, yS354⟩ U352'    []) tw_17 tw_18 (ow_nf hw tw_20) tw_20 tw_19 tw_3 tw_21 (by decide) (allS ows_b338 (allS (Or.inr (Nat.le_trans (ow_le A336) g352_k)) (allS (Or.inr (Nat.le_trans (ow_le A336) g352_n)) (allS (Or.inr (Nat.le_trans (ow_le A336) g352_s)) all0)))) (by decide) (by decide) (ck' := 6) (sk' := 2058) rfl rfl (by decide) (by decide) rfl (lenOf pd_7 rfl) (S := []) rfl (W := 0) (Nat.le_of_eq rfl) at_120 rfl ?_
        intro T362 v362 K362 hQ362 A362
        obtain ⟨rfl, pp362, O362, O2362⟩ := hQ362
        show OwnWP _ _ _ _ _ _ _ _ _ T362 (mkF m 123 #[.val (.long q0), .second, .val (.long q1), .second, .val (.long q2), .second, .val (.long q3), .second, .val (.long q4), .second, .val (.int p5), .val (.int (2 : Int32)), .val (.long (q3 - q1)), .second, .val (.int (0 : Int32)), .val (.ref b283), .val (.ref b310), .val (.ref b338), .unset] [])
        obtain ⟨xE363, xK363, xN363, xS363, xZ363⟩ := O362
        obtain ⟨yK364, yN364, yS364⟩ := O2362
        refine ow_iload C A362 at_123 rfl rfl ?_
        refine ow_iconst C A362 at_125 (v := 2) rfl rfl ?_
        refine ow_icmp_lt C A362 at_126 (by decide) (pcY := 138) (by decide) (pcN := 129) rfl (fun zq => absurd zq (by decide)) (fun _ => ?_)
        refine ow_aload C A362 at_129 rfl rfl rfl ?_
        refine ow_lload C A362 at_131 rfl rfl ?_
        refine ow_lload C A362 at_133 rfl rfl ?_
        refine ow_callV C A362 (argsL := [(.long q2), (.long q3)]) xE363 (rm_add1 l Z a0 hw b338 kA352 nA352 sA352 c1352 c2352 c3352 q0 q1 q2 q3 pp362 T362.heap ⟨xE363, xK363, xN363, xS363, xZ363⟩ ⟨yK364, yN364, yS364⟩ U352'  (fun z => hne10 z.symm)  []) tw_17 tw_18 (ow_nf hw tw_20) tw_20 tw_19 tw_3 tw_21 (by decide) (allS ows_b338 (allS (Or.inr (Nat.le_trans (ow_le A336) g352_k)) (allS (Or.inr (Nat.le_trans (ow_le A336) g352_n)) (allS (Or.inr (Nat.le_trans (ow_le A336) g352_s)) all0)))) (by decide) (by decide) (ck' := 6) (sk' := 2058) rfl rfl (by decide) (by decide) rfl (lenOf pd_7 rfl) (S := []) rfl (W := 0) (Nat.le_of_eq rfl) at_135 rfl ?_
        intro T365 v365 K365 hQ365 A365
        obtain ⟨rfl, pp365, pd365, O365, O2365⟩ := hQ365
        show OwnWP _ _ _ _ _ _ _ _ _ T365 (mkF m 138 #[.val (.long q0), .second, .val (.long q1), .second, .val (.long q2), .second, .val (.long q3), .second, .val (.long q4), .second, .val (.int p5), .val (.int (2 : Int32)), .val (.long (q3 - q1)), .second, .val (.int (0 : Int32)), .val (.ref b283), .val (.ref b310), .val (.ref b338), .unset] [])
        obtain ⟨xE366, xK366, xN366, xS366, xZ366⟩ := O365
        obtain ⟨yK367, yN367, yS367⟩ := O2365
        refine ow_iload C A365 at_138 rfl rfl ?_
        refine ow_iconst C A365 at_140 (v := 3) rfl rfl ?_
        refine ow_icmp_lt C A365 at_141 (by decide) (pcY := 153) (by decide) (pcN := 144) rfl (fun _ => ?_) (fun zq => absurd (by decide) zq)
        refine ow_aload C A365 at_153 rfl rfl rfl ?_
        refine ow_iload C A365 at_155 rfl rfl ?_
        refine ow_callV C A365 (argsL := [(.int (0 : Int32))]) xE366 (rm_pf2_0 l Z a0 hw b338 kA352 nA352 sA352 c1352 c2352 c3352 q0 q1 q2 q3 T365.heap (own_f2 pp362 pp365) ⟨xE366, xK366, xN366, xS366, xZ366⟩ ⟨yK367, yN367, yS367⟩ []) tw_38 tw_39 (ow_nf hw tw_41) tw_41 tw_40 tw_3 tw_42 (by decide) all0 (by decide) (by decide) (ck' := 7) (sk' := 2064) rfl rfl (by decide) (by decide) rfl (lenOf pd_4 rfl) (S := []) rfl (W := 0) (Nat.le_of_eq rfl) at_157 rfl ?_
        intro T368 v368 K368 hQ368 A368
        obtain ⟨rr368, kr368, rfl, yR368⟩ := hQ368
        show OwnWP _ _ _ _ _ _ _ _ _ T368 (mkF m 160 #[.val (.long q0), .second, .val (.long q1), .second, .val (.long q2), .second, .val (.long q3), .second, .val (.long q4), .second, .val (.int p5), .val (.int (2 : Int32)), .val (.long (q3 - q1)), .second, .val (.int (0 : Int32)), .val (.ref b283), .val (.ref b310), .val (.ref b338), .unset] [(.ref rr368)])
        refine ow_astore C A368 at_160 rfl (Ls' := #[.val (.long q0), .second, .val (.long q1), .second, .val (.long q2), .second, .val (.long q3), .second, .val (.long q4), .second, .val (.int p5), .val (.int (2 : Int32)), .val (.long (q3 - q1)), .second, .val (.int (0 : Int32)), .val (.ref b283), .val (.ref b310), .val (.ref b338), .val (.ref rr368)]) rfl rfl ?_
        refine ow_aload C A368 at_162 rfl rfl rfl ?_
        refine ow_alen C A368 yR368 at_164 rfl ?_
        refine ow_iconst C A368 at_165 (v := 2) rfl rfl ?_
        refine ow_iload C A368 at_166 rfl rfl ?_
        refine ow_iload C A368 at_168 rfl rfl ?_
        refine ow_isub C A368 at_170 rfl ?_
        show OwnWP _ _ _ _ _ _ _ _ _ T368 (mkF m 171 #[.val (.long q0), .second, .val (.long q1), .second, .val (.long q2), .second, .val (.long q3), .second, .val (.long q4), .second, .val (.int p5), .val (.int (2 : Int32)), .val (.long (q3 - q1)), .second, .val (.int (0 : Int32)), .val (.ref b283), .val (.ref b310), .val (.ref b338), .val (.ref rr368)] [(.int (2 : Int32)), (.int (2 : Int32)), (.int (4 : Int32))])
        refine ow_imul C A368 at_171 rfl ?_
        show OwnWP _ _ _ _ _ _ _ _ _ T368 (mkF m 172 #[.val (.long q0), .second, .val (.long q1), .second, .val (.long q2), .second, .val (.long q3), .second, .val (.long q4), .second, .val (.int p5), .val (.int (2 : Int32)), .val (.long (q3 - q1)), .second, .val (.int (0 : Int32)), .val (.ref b283), .val (.ref b310), .val (.ref b338), .val (.ref rr368)] [(.int (4 : Int32)), (.int (4 : Int32))])
        refine ow_icmp_eq C A368 at_172 (by decide) (pcY := 177) (by decide) (pcN := 175) rfl (fun _ => ?_) (fun zq => absurd (by decide) zq)
        refine ow_aload C A368 at_177 rfl rfl rfl ?_
        refine ow_aload C A368 at_179 rfl rfl rfl ?_
        refine ow_aload C A368 at_181 rfl rfl rfl ?_
        refine ow_iload C A368 at_183 rfl rfl ?_
        refine ow_iload C A368 at_185 rfl rfl ?_
        refine ow_iconst C A368 at_187 (v := 0) rfl rfl ?_
        have f369 := ((((f350.keep K352 (ninS ne344 nin0)).keep K362 (ninS ne344 (ninS ne356 (ninS ne358 (ninS ne360 nin0))))).keep K365 (ninS ne344 (ninS ne356 (ninS ne358 (ninS ne360 nin0))))).keep K368 nin0)
        have f370 := ((((f351.keep K352 (ninS ne345 nin0)).keep K362 (ninS ne345 (ninS ne357 (ninS ne359 (ninS ne361 nin0))))).keep K365 (ninS ne345 (ninS ne357 (ninS ne359 (ninS ne361 nin0))))).keep K368 nin0)
        refine ow_callS C A368 (argsL := [(.ref rr368), (.ref b283), (.ref b310), (.int (0 : Int32)), (.int (2 : Int32)), (.int (0 : Int32))]) (rm_at2_0_0 l Z a0 hw rr368 b283 b310 kr368 kk284 kk311 q0 q1 q2 q3 q4 (q3 - q1) T368.heap yR368 f369 f370 []) tw_43 tw_44 tw_45 tw_46 (by decide) all0 (by decide) (by decide) (ck' := 7) (sk' := 2064) rfl rfl (by decide) (by decide) rfl (lenOf pd_5 rfl) (S := []) rfl (W := 0) (Nat.le_of_eq rfl) at_188 rfl ?_
        intro T371 v371 K371 hQ371 A371
        obtain ⟨rfl, ee371⟩ := hQ371
        rw [ee371] at A371 K371
        show OwnWP _ _ _ _ _ _ _ _ _ T371 (mkF m 191 #[.val (.long q0), .second, .val (.long q1), .second, .val (.long q2), .second, .val (.long q3), .second, .val (.long q4), .second, .val (.int p5), .val (.int (2 : Int32)), .val (.long (q3 - q1)), .second, .val (.int (0 : Int32)), .val (.ref b283), .val (.ref b310), .val (.ref b338), .val (.ref rr368)] [(.int (1 : Int32))])
        refine ow_if_eq C A371 at_191 (by decide) (pcY := 242) (by decide) (pcN := 194) rfl (fun zq => absurd zq (by decide)) (fun _ => ?_)
        refine ow_aload C A371 at_194 rfl rfl rfl ?_
        refine ow_aload C A371 at_196 rfl rfl rfl ?_
        refine ow_aload C A371 at_198 rfl rfl rfl ?_
        refine ow_iload C A371 at_200 rfl rfl ?_
        refine ow_iload C A371 at_202 rfl rfl ?_
        refine ow_iconst C A371 at_204 (v := 1) rfl rfl ?_
        refine ow_callS C A371 (argsL := [(.ref rr368), (.ref b283), (.ref b310), (.int (0 : Int32)), (.int (2 : Int32)), (.int (1 : Int32))]) (rm_at2_0_1 l Z a0 hw rr368 b283 b310 kr368 kk284 kk311 q0 q1 q2 q3 q4 (q3 - q1) T368.heap yR368 f369 f370 []) tw_43 tw_44 tw_45 tw_46 (by decide) all0 (by decide) (by decide) (ck' := 7) (sk' := 2064) rfl rfl (by decide) (by decide) rfl (lenOf pd_5 rfl) (S := []) rfl (W := 0) (Nat.le_of_eq rfl) at_205 rfl ?_
        intro T372 v372 K372 hQ372 A372
        obtain ⟨rfl, ee372⟩ := hQ372
        rw [ee372] at A372 K372
        show OwnWP _ _ _ _ _ _ _ _ _ T372 (mkF m 208 #[.val (.long q0), .second, .val (.long q1), .second, .val (.long q2), .second, .val (.long q3), .second, .val (.long q4), .second, .val (.int p5), .val (.int (2 : Int32)), .val (.long (q3 - q1)), .second, .val (.int (0 : Int32)), .val (.ref b283), .val (.ref b310), .val (.ref b338), .val (.ref rr368)] [(.int (1 : Int32))])
        refine ow_if_eq C A372 at_208 (by decide) (pcY := 242) (by decide) (pcN := 211) rfl (fun zq => absurd zq (by decide)) (fun _ => ?_)
        refine ow_aload C A372 at_211 rfl rfl rfl ?_
        refine ow_aload C A372 at_213 rfl rfl rfl ?_
        refine ow_aload C A372 at_215 rfl rfl rfl ?_
        refine ow_iload C A372 at_217 rfl rfl ?_
        refine ow_iload C A372 at_219 rfl rfl ?_
        refine ow_iconst C A372 at_221 (v := 2) rfl rfl ?_
        refine ow_callS C A372 (argsL := [(.ref rr368), (.ref b283), (.ref b310), (.int (0 : Int32)), (.int (2 : Int32)), (.int (2 : Int32))]) (rm_at2_0_2 l Z a0 hw rr368 b283 b310 kr368 kk284 kk311 q0 q1 q2 q3 q4 (q3 - q1) T368.heap yR368 f369 f370 []) tw_43 tw_44 tw_45 tw_46 (by decide) all0 (by decide) (by decide) (ck' := 7) (sk' := 2064) rfl rfl (by decide) (by decide) rfl (lenOf pd_5 rfl) (S := []) rfl (W := 0) (Nat.le_of_eq rfl) at_222 rfl ?_
        intro T373 v373 K373 hQ373 A373
        obtain ⟨rfl, ee373⟩ := hQ373
        rw [ee373] at A373 K373
        show OwnWP _ _ _ _ _ _ _ _ _ T373 (mkF m 225 #[.val (.long q0), .second, .val (.long q1), .second, .val (.long q2), .second, .val (.long q3), .second, .val (.long q4), .second, .val (.int p5), .val (.int (2 : Int32)), .val (.long (q3 - q1)), .second, .val (.int (0 : Int32)), .val (.ref b283), .val (.ref b310), .val (.ref b338), .val (.ref rr368)] [(.int (1 : Int32))])
        refine ow_if_eq C A373 at_225 (by decide) (pcY := 242) (by decide) (pcN := 228) rfl (fun zq => absurd zq (by decide)) (fun _ => ?_)
        refine ow_aload C A373 at_228 rfl rfl rfl ?_
        have f374 := (xZ366.keep K368 nin0)
        have f376 := (xE366.keep K368)
        refine ow_callV C A373 (argsL := []) f376 (rm_size l Z a0 hw b338 (2 : Int32) T368.heap f374 []) tw_47 tw_48 (ow_nf hw tw_50) tw_50 tw_49 tw_3 tw_51 (by decide) all0 (by decide) (by decide) (ck' := 7) (sk' := 2064) rfl rfl (by decide) (by decide) rfl (lenOf pd_6 rfl) (S := []) rfl (W := 0) (Nat.le_of_eq rfl) at_230 rfl ?_
        intro T375 v375 K375 hQ375 A375
        obtain ⟨rfl, ee375⟩ := hQ375
        rw [ee375] at A375 K375
        show OwnWP _ _ _ _ _ _ _ _ _ T375 (mkF m 233 #[.val (.long q0), .second, .val (.long q1), .second, .val (.long q2), .second, .val (.long q3), .second, .val (.long q4), .second, .val (.int p5), .val (.int (2 : Int32)), .val (.long (q3 - q1)), .second, .val (.int (0 : Int32)), .val (.ref b283), .val (.ref b310), .val (.ref b338), .val (.ref rr368)] [(.int (2 : Int32))])
        refine ow_iload C A375 at_233 rfl rfl ?_
        refine ow_icmp_ne C A375 at_235 (by decide) (pcY := 242) (by decide) (pcN := 238) rfl (fun zq => absurd (by decide) zq) (fun _ => ?_)
        refine ow_iconst C A375 at_238 (v := 1) rfl rfl ?_
        refine ow_goto C A375 at_239 (by decide) (pc' := 243) (by decide) ?_
        refine ow_ireturn C A375 (t := .boolean) rfl rfl (by simp) at_243 (by decide) (by decide) ?_
        exact rfl
      · rw [hf]
        refine ow_istore C A0 at_61 (Ls' := #[.val (.long q0), .second, .val (.long q1), .second, .val (.long q2), .second, .val (.long q3), .second, .val (.long q4), .second, .val (.int p5), .val (.int (2 : Int32)), .val (.long (q3 - q1)), .second, .val (.int (1 : Int32)), .unset, .unset, .unset, .unset]) rfl rfl ?_
        refine ow_iconst C A0 at_63 (v := 3) rfl rfl ?_
        refine ow_newA C A0 (ty := .long) rfl tw_0 at_64 rfl (by decide) (cap := 3) (by decide) (by decide) (ck' := 1) (sk' := 3) rfl rfl (by decide) (by decide) ?_
        intro T377 h379 b380 kk381 g382 E383 V384 A378
        have ows_b380 : b380 ∈ ([] : List Addr) ∨ h0.size ≤ b380 := Or.inr (Nat.le_trans (ow_le A0) (Nat.le_of_eq g382.symm))
        have V385 : Arv Z h379 b380 kk381 .long (3 : Int32) [(.long (0 : Int64)), (.long (0 : Int64)), (.long (0 : Int64))] (.long (0 : Int64)) := V384.pad (pad_rep [] (.long (0 : Int64)) 3)
        refine ow_dup C A378 at_66 rfl rfl ?_
        refine ow_iconst C A378 at_67 (v := 0) rfl rfl ?_
        refine ow_lloadN C A378 at_68 rfl rfl ?_
        refine ow_lastore C A378 V385 ⟨by decide, by decide⟩ (i := 0) rfl (Nat.le_of_ble_eq_true rfl) ows_b380 at_69 rfl ?_
        intro T386 h388 W389 V390 A387
        have V391 : Arv Z h388 b380 kk381 .long (3 : Int32) [(.long q0), (.long (0 : Int64)), (.long (0 : Int64))] (.long (0 : Int64)) := V390
        refine ow_dup C A387 at_70 rfl rfl ?_
        refine ow_iconst C A387 at_71 (v := 1) rfl rfl ?_
        refine ow_lload C A387 at_72 rfl rfl ?_
        refine ow_lastore C A387 V391 ⟨by decide, by decide⟩ (i := 1) rfl (Nat.le_of_ble_eq_true rfl) ows_b380 at_74 rfl ?_
        intro T392 h394 W395 V396 A393
        have V397 : Arv Z h394 b380 kk381 .long (3 : Int32) [(.long q0), (.long q2), (.long (0 : Int64))] (.long (0 : Int64)) := V396
        refine ow_dup C A393 at_75 rfl rfl ?_
        refine ow_iconst C A393 at_76 (v := 2) rfl rfl ?_
        refine ow_lload C A393 at_77 rfl rfl ?_
        refine ow_lastore C A393 V397 ⟨by decide, by decide⟩ (i := 2) rfl (Nat.le_of_ble_eq_true rfl) ows_b380 at_79 rfl ?_
        intro T398 h400 W401 V402 A399
        have V403 : Arv Z h400 b380 kk381 .long (3 : Int32) [(.long q0), (.long q2), (.long q4)] (.long (0 : Int64)) := V402
        refine ow_astore C A399 at_80 rfl (Ls' := #[.val (.long q0), .second, .val (.long q1), .second, .val (.long q2), .second, .val (.long q3), .second, .val (.long q4), .second, .val (.int p5), .val (.int (2 : Int32)), .val (.long (q3 - q1)), .second, .val (.int (1 : Int32)), .val (.ref b380), .unset, .unset, .unset]) rfl rfl ?_
        refine ow_iconst C A399 at_82 (v := 3) rfl rfl ?_
        refine ow_newA C A399 (ty := .long) rfl tw_0 at_83 rfl (by decide) (cap := 3) (by decide) (by decide) (ck' := 2) (sk' := 6) rfl rfl (by decide) (by decide) ?_
        intro T404 h406 b407 kk408 g409 E410 V411 A405
        have ne412 : b380 ≠ b407 := Nat.ne_of_lt (Nat.lt_of_lt_of_le V403.lt (Nat.le_of_eq g409.symm))
        have ows_b407 : b407 ∈ ([] : List Addr) ∨ h0.size ≤ b407 := Or.inr (Nat.le_trans (ow_le A399) (Nat.le_of_eq g409.symm))
        have V413 : Arv Z h406 b407 kk408 .long (3 : Int32) [(.long (0 : Int64)), (.long (0 : Int64)), (.long (0 : Int64))] (.long (0 : Int64)) := V411.pad (pad_rep [] (.long (0 : Int64)) 3)
        refine ow_dup C A405 at_85 rfl rfl ?_
        refine ow_iconst C A405 at_86 (v := 0) rfl rfl ?_
        refine ow_lloadN C A405 at_87 rfl rfl ?_
        refine ow_lastore C A405 V413 ⟨by decide, by decide⟩ (i := 0) rfl (Nat.le_of_ble_eq_true rfl) ows_b407 at_88 rfl ?_
        intro T414 h416 W417 V418 A415
        have V419 : Arv Z h416 b407 kk408 .long (3 : Int32) [(.long q1), (.long (0 : Int64)), (.long (0 : Int64))] (.long (0 : Int64)) := V418
        refine ow_dup C A415 at_89 rfl rfl ?_
        refine ow_iconst C A415 at_90 (v := 1) rfl rfl ?_
        refine ow_lload C A415 at_91 rfl rfl ?_
        refine ow_lastore C A415 V419 ⟨by decide, by decide⟩ (i := 1) rfl (Nat.le_of_ble_eq_true rfl) ows_b407 at_93 rfl ?_
        intro T420 h422 W423 V424 A421
        have V425 : Arv Z h422 b407 kk408 .long (3 : Int32) [(.long q1), (.long q3), (.long (0 : Int64))] (.long (0 : Int64)) := V424
        refine ow_dup C A421 at_94 rfl rfl ?_
        refine ow_iconst C A421 at_95 (v := 2) rfl rfl ?_
        refine ow_lload C A421 at_96 rfl rfl ?_
        refine ow_lastore C A421 V425 ⟨by decide, by decide⟩ (i := 2) rfl (Nat.le_of_ble_eq_true rfl) ows_b407 at_98 rfl ?_
        intro T426 h428 W429 V430 A427
        have V431 : Arv Z h428 b407 kk408 .long (3 : Int32) [(.long q1), (.long q3), (.long (q3 - q1))] (.long (0 : Int64)) := V430
        refine ow_astore C A427 at_99 rfl (Ls' := #[.val (.long q0), .second, .val (.long q1), .second, .val (.long q2), .second, .val (.long q3), .second, .val (.long q4), .second, .val (.int p5), .val (.int (2 : Int32)), .val (.long (q3 - q1)), .second, .val (.int (1 : Int32)), .val (.ref b380), .val (.ref b407), .unset, .unset]) rfl rfl ?_
        refine ow_new C A427 tw_1 tw_2 tw_3 at_101 rfl (ck' := 3) (sk' := 10) rfl rfl (by decide) (by decide) ?_
        intro T432 h434 b435 g436 E437 X438 D439 A433
        have f440 := ((((V403.ext E410).other W417 ne412).other W423 ne412).other W429 ne412)
        have ne441 : b380 ≠ b435 := Nat.ne_of_lt (Nat.lt_of_lt_of_le f440.lt (Nat.le_of_eq g436.symm))
        have ne442 : b407 ≠ b435 := Nat.ne_of_lt (Nat.lt_of_lt_of_le V431.lt (Nat.le_of_eq g436.symm))
        have ows_b435 : b435 ∈ ([] : List Addr) ∨ h0.size ≤ b435 := Or.inr (Nat.le_trans (ow_le A427) (Nat.le_of_eq g436.symm))
        have f443 : Fld Z h434 b435 "com/example/ratebook/ratebook/journal/RecentKeys" "keys" "[J" .null := D439 (Or.inl (hw _ tw_11)) (ty := (.array .long)) (by decide)
        have f444 : Fld Z h434 b435 "com/example/ratebook/ratebook/journal/RecentKeys" "numbers" "[J" .null := D439 (Or.inl (hw _ tw_13)) (ty := (.array .long)) (by decide)
        have f445 : Fld Z h434 b435 "com/example/ratebook/ratebook/journal/RecentKeys" "slots" "[I" .null := D439 (Or.inl (hw _ tw_16)) (ty := (.array .int)) (by decide)
        have f446 : Fld Z h434 b435 "com/example/ratebook/ratebook/journal/RecentKeys" "size" "I" (.int (0 : Int32)) := D439 (Or.inl (hw _ tw_33)) (ty := .int) (by decide)
        refine ow_dup C A433 at_104 rfl rfl ?_
        have f447 := (f440.ext E437)
        have f448 := (V431.ext E437)
        refine ow_callI C A433 (argsL := []) (a := b435) (rm_init l Z a0 hw b435 h434 X438 f443 f444 f445 f446 []) rfl tw_4 tw_5 tw_3 tw_6 (by decide) (allS ows_b435 all0) (by decide) (by decide) (ck' := 6) (sk' := 2058) rfl rfl (by decide) (by decide) rfl (lenOf pd_3 rfl) (S := [(.ref b435)]) rfl (W := 1) (Nat.le_of_eq rfl) at_105 rfl ?_
        intro T449 v449 K449 hQ449 A449
        obtain ⟨rfl, kA449, nA449, sA449, c1449, c2449, c3449, O449, O2449, U449, g449_k, g449_n, g449_s⟩ := hQ449
        show OwnWP _ _ _ _ _ _ _ _ _ T449 (mkF m 108 #[.val (.long q0), .second, .val (.long q1), .second, .val (.long q2), .second, .val (.long q3), .second, .val (.long q4), .second, .val (.int p5), .val (.int (2 : Int32)), .val (.long (q3 - q1)), .second, .val (.int (1 : Int32)), .val (.ref b380), .val (.ref b407), .unset, .unset] [(.ref b435)])
        obtain ⟨xE450, xK450, xN450, xS450, xZ450⟩ := O449
        obtain ⟨yK451, yN451, yS451⟩ := O2449
        have U449' := U449
        obtain ⟨u452_0, u452_1, u452_2, u452_3, u452_4, u452_5⟩ := U449
        have ne453 : b380 ≠ kA449 := Nat.ne_of_lt (Nat.lt_of_lt_of_le f447.lt g449_k)
        have ne454 : b407 ≠ kA449 := Nat.ne_of_lt (Nat.lt_of_lt_of_le f448.lt g449_k)
        have ne455 : b380 ≠ nA449 := Nat.ne_of_lt (Nat.lt_of_lt_of_le f447.lt g449_n)
        have ne456 : b407 ≠ nA449 := Nat.ne_of_lt (Nat.lt_of_lt_of_le f448.lt g449_n)
        have ne457 : b380 ≠ sA449 := Nat.ne_of_lt (Nat.lt_of_lt_of_le f447.lt g449_s)
        have ne458 : b407 ≠ sA449 := Nat.ne_of_lt (Nat.lt_of_lt_of_le f448.lt g449_s)
        refine ow_astore C A449 at_108 rfl (Ls' := #[.val (.long q0), .second, .val (.long q1), .second, .val (.long q2), .second, .val (.long q3), .second, .val (.long q4), .second, .val (.int p5), .val (.int (2 : Int32)), .val (.long (q3 - q1)), .second, .val (.int (1 : Int32)), .val (.ref b380), .val (.ref b407), .val (.ref b435), .unset]) rfl rfl ?_
        refine ow_iload C A449 at_110 rfl rfl ?_
        refine ow_iconst C A449 at_112 (v := 1) rfl rfl ?_
        refine ow_icmp_lt C A449 at_113 (by decide) (pcY := 123) (by decide) (pcN := 116) rfl (fun zq => absurd zq (by decide)) (fun _ => ?_)
        refine ow_aload C A449 at_116 rfl rfl rfl ?_
        refine ow_lloadN C A449 at_118 rfl rfl ?_
        refine ow_lloadN C A449 at_119 rfl rfl ?_
        refine ow_callV C A449 (argsL := [(.long q0), (.long q1)]) xE450 (rm_add0 l Z a0 hw b435 kA449 nA449 sA449 c1449 c2449 c3449 q0 q1  T449.heap ⟨xE450, xK450, xN450, xS450, xZ450⟩ ⟨yK451, yN451, yS451⟩ U449'    []) tw_17 tw_18 (ow_nf hw tw_20) tw_20 tw_19 tw_3 tw_21 (by decide) (allS ows_b435 (allS (Or.inr (Nat.le_trans (ow_le A433) g449_k)) (allS (Or.inr (Nat.le_trans (ow_le A433) g449_n)) (allS (Or.inr (Nat.le_trans (ow_le A433) g449_s)) all0)))) (by decide) (by decide) (ck' := 6) (sk' := 2058) rfl rfl (by decide) (by decide) rfl (lenOf pd_7 rfl) (S := []) rfl (W := 0) (Nat.le_of_eq rfl) at_120 rfl ?_
        intro T459 v459 K459 hQ459 A459
        obtain ⟨rfl, pp459, O459, O2459⟩ := hQ459
        show OwnWP _ _ _ _ _ _ _ _ _ T459 (mkF m 123 #[.val (.long q0), .second, .val (.long q1), .second, .val (.long q2), .second, .val (.long q3), .second, .val (.long q4), .second, .val (.int p5), .val (.int (2 : Int32)), .val (.long (q3 - q1)), .second, .val (.int (1 : Int32)), .val (.ref b380), .val (.ref b407), .val (.ref b435), .unset] [])
        obtain ⟨xE460, xK460, xN460, xS460, xZ460⟩ := O459
        obtain ⟨yK461, yN461, yS461⟩ := O2459
        refine ow_iload C A459 at_123 rfl rfl ?_
        refine ow_iconst C A459 at_125 (v := 2) rfl rfl ?_
        refine ow_icmp_lt C A459 at_126 (by decide) (pcY := 138) (by decide) (pcN := 129) rfl (fun zq => absurd zq (by decide)) (fun _ => ?_)
        refine ow_aload C A459 at_129 rfl rfl rfl ?_
        refine ow_lload C A459 at_131 rfl rfl ?_
        refine ow_lload C A459 at_133 rfl rfl ?_
        refine ow_callV C A459 (argsL := [(.long q2), (.long q3)]) xE460 (rm_add1 l Z a0 hw b435 kA449 nA449 sA449 c1449 c2449 c3449 q0 q1 q2 q3 pp459 T459.heap ⟨xE460, xK460, xN460, xS460, xZ460⟩ ⟨yK461, yN461, yS461⟩ U449'  (fun z => hne10 z.symm)  []) tw_17 tw_18 (ow_nf hw tw_20) tw_20 tw_19 tw_3 tw_21 (by decide) (allS ows_b435 (allS (Or.inr (Nat.le_trans (ow_le A433) g449_k)) (allS (Or.inr (Nat.le_trans (ow_le A433) g449_n)) (allS (Or.inr (Nat.le_trans (ow_le A433) g449_s)) all0)))) (by decide) (by decide) (ck' := 6) (sk' := 2058) rfl rfl (by decide) (by decide) rfl (lenOf pd_7 rfl) (S := []) rfl (W := 0) (Nat.le_of_eq rfl) at_135 rfl ?_
        intro T462 v462 K462 hQ462 A462
        obtain ⟨rfl, pp462, pd462, O462, O2462⟩ := hQ462
        show OwnWP _ _ _ _ _ _ _ _ _ T462 (mkF m 138 #[.val (.long q0), .second, .val (.long q1), .second, .val (.long q2), .second, .val (.long q3), .second, .val (.long q4), .second, .val (.int p5), .val (.int (2 : Int32)), .val (.long (q3 - q1)), .second, .val (.int (1 : Int32)), .val (.ref b380), .val (.ref b407), .val (.ref b435), .unset] [])
        obtain ⟨xE463, xK463, xN463, xS463, xZ463⟩ := O462
        obtain ⟨yK464, yN464, yS464⟩ := O2462
        refine ow_iload C A462 at_138 rfl rfl ?_
        refine ow_iconst C A462 at_140 (v := 3) rfl rfl ?_
        refine ow_icmp_lt C A462 at_141 (by decide) (pcY := 153) (by decide) (pcN := 144) rfl (fun _ => ?_) (fun zq => absurd (by decide) zq)
        refine ow_aload C A462 at_153 rfl rfl rfl ?_
        refine ow_iload C A462 at_155 rfl rfl ?_
        refine ow_callV C A462 (argsL := [(.int (1 : Int32))]) xE463 (rm_pf2_1 l Z a0 hw b435 kA449 nA449 sA449 c1449 c2449 c3449 q0 q1 q2 q3 T462.heap (own_f2 pp459 pp462) ⟨xE463, xK463, xN463, xS463, xZ463⟩ ⟨yK464, yN464, yS464⟩ []) tw_38 tw_39 (ow_nf hw tw_41) tw_41 tw_40 tw_3 tw_42 (by decide) all0 (by decide) (by decide) (ck' := 7) (sk' := 2064) rfl rfl (by decide) (by decide) rfl (lenOf pd_4 rfl) (S := []) rfl (W := 0) (Nat.le_of_eq rfl) at_157 rfl ?_
        intro T465 v465 K465 hQ465 A465
        obtain ⟨rr465, kr465, rfl, yR465⟩ := hQ465
        show OwnWP _ _ _ _ _ _ _ _ _ T465 (mkF m 160 #[.val (.long q0), .second, .val (.long q1), .second, .val (.long q2), .second, .val (.long q3), .second, .val (.long q4), .second, .val (.int p5), .val (.int (2 : Int32)), .val (.long (q3 - q1)), .second, .val (.int (1 : Int32)), .val (.ref b380), .val (.ref b407), .val (.ref b435), .unset] [(.ref rr465)])
        refine ow_astore C A465 at_160 rfl (Ls' := #[.val (.long q0), .second, .val (.long q1), .second, .val (.long q2), .second, .val (.long q3), .second, .val (.long q4), .second, .val (.int p5), .val (.int (2 : Int32)), .val (.long (q3 - q1)), .second, .val (.int (1 : Int32)), .val (.ref b380), .val (.ref b407), .val (.ref b435), .val (.ref rr465)]) rfl rfl ?_
        refine ow_aload C A465 at_162 rfl rfl rfl ?_
        refine ow_alen C A465 yR465 at_164 rfl ?_
        refine ow_iconst C A465 at_165 (v := 2) rfl rfl ?_
        refine ow_iload C A465 at_166 rfl rfl ?_
        refine ow_iload C A465 at_168 rfl rfl ?_
        refine ow_isub C A465 at_170 rfl ?_
        show OwnWP _ _ _ _ _ _ _ _ _ T465 (mkF m 171 #[.val (.long q0), .second, .val (.long q1), .second, .val (.long q2), .second, .val (.long q3), .second, .val (.long q4), .second, .val (.int p5), .val (.int (2 : Int32)), .val (.long (q3 - q1)), .second, .val (.int (1 : Int32)), .val (.ref b380), .val (.ref b407), .val (.ref b435), .val (.ref rr465)] [(.int (1 : Int32)), (.int (2 : Int32)), (.int (2 : Int32))])
        refine ow_imul C A465 at_171 rfl ?_
        show OwnWP _ _ _ _ _ _ _ _ _ T465 (mkF m 172 #[.val (.long q0), .second, .val (.long q1), .second, .val (.long q2), .second, .val (.long q3), .second, .val (.long q4), .second, .val (.int p5), .val (.int (2 : Int32)), .val (.long (q3 - q1)), .second, .val (.int (1 : Int32)), .val (.ref b380), .val (.ref b407), .val (.ref b435), .val (.ref rr465)] [(.int (2 : Int32)), (.int (2 : Int32))])
        refine ow_icmp_eq C A465 at_172 (by decide) (pcY := 177) (by decide) (pcN := 175) rfl (fun _ => ?_) (fun zq => absurd (by decide) zq)
        refine ow_aload C A465 at_177 rfl rfl rfl ?_
        refine ow_aload C A465 at_179 rfl rfl rfl ?_
        refine ow_aload C A465 at_181 rfl rfl rfl ?_
        refine ow_iload C A465 at_183 rfl rfl ?_
        refine ow_iload C A465 at_185 rfl rfl ?_
        refine ow_iconst C A465 at_187 (v := 0) rfl rfl ?_
        have f466 := ((((f447.keep K449 (ninS ne441 nin0)).keep K459 (ninS ne441 (ninS ne453 (ninS ne455 (ninS ne457 nin0))))).keep K462 (ninS ne441 (ninS ne453 (ninS ne455 (ninS ne457 nin0))))).keep K465 nin0)
        have f467 := ((((f448.keep K449 (ninS ne442 nin0)).keep K459 (ninS ne442 (ninS ne454 (ninS ne456 (ninS ne458 nin0))))).keep K462 (ninS ne442 (ninS ne454 (ninS ne456 (ninS ne458 nin0))))).keep K465 nin0)
        refine ow_callS C A465 (argsL := [(.ref rr465), (.ref b380), (.ref b407), (.int (1 : Int32)), (.int (2 : Int32)), (.int (0 : Int32))]) (rm_at2_1_0 l Z a0 hw rr465 b380 b407 kr465 kk381 kk408 q0 q1 q2 q3 q4 (q3 - q1) T465.heap yR465 f466 f467 []) tw_43 tw_44 tw_45 tw_46 (by decide) all0 (by decide) (by decide) (ck' := 7) (sk' := 2064) rfl rfl (by decide) (by decide) rfl (lenOf pd_5 rfl) (S := []) rfl (W := 0) (Nat.le_of_eq rfl) at_188 rfl ?_
        intro T468 v468 K468 hQ468 A468
        obtain ⟨rfl, ee468⟩ := hQ468
        rw [ee468] at A468 K468
        show OwnWP _ _ _ _ _ _ _ _ _ T468 (mkF m 191 #[.val (.long q0), .second, .val (.long q1), .second, .val (.long q2), .second, .val (.long q3), .second, .val (.long q4), .second, .val (.int p5), .val (.int (2 : Int32)), .val (.long (q3 - q1)), .second, .val (.int (1 : Int32)), .val (.ref b380), .val (.ref b407), .val (.ref b435), .val (.ref rr465)] [(.int (1 : Int32))])
        refine ow_if_eq C A468 at_191 (by decide) (pcY := 242) (by decide) (pcN := 194) rfl (fun zq => absurd zq (by decide)) (fun _ => ?_)
        refine ow_aload C A468 at_194 rfl rfl rfl ?_
        refine ow_aload C A468 at_196 rfl rfl rfl ?_
        refine ow_aload C A468 at_198 rfl rfl rfl ?_
        refine ow_iload C A468 at_200 rfl rfl ?_
        refine ow_iload C A468 at_202 rfl rfl ?_
        refine ow_iconst C A468 at_204 (v := 1) rfl rfl ?_
        refine ow_callS C A468 (argsL := [(.ref rr465), (.ref b380), (.ref b407), (.int (1 : Int32)), (.int (2 : Int32)), (.int (1 : Int32))]) (rm_at2_1_1 l Z a0 hw rr465 b380 b407 kr465 kk381 kk408 q0 q1 q2 q3 q4 (q3 - q1) T465.heap yR465 f466 f467 []) tw_43 tw_44 tw_45 tw_46 (by decide) all0 (by decide) (by decide) (ck' := 7) (sk' := 2064) rfl rfl (by decide) (by decide) rfl (lenOf pd_5 rfl) (S := []) rfl (W := 0) (Nat.le_of_eq rfl) at_205 rfl ?_
        intro T469 v469 K469 hQ469 A469
        obtain ⟨rfl, ee469⟩ := hQ469
        rw [ee469] at A469 K469
        show OwnWP _ _ _ _ _ _ _ _ _ T469 (mkF m 208 #[.val (.long q0), .second, .val (.long q1), .second, .val (.long q2), .second, .val (.long q3), .second, .val (.long q4), .second, .val (.int p5), .val (.int (2 : Int32)), .val (.long (q3 - q1)), .second, .val (.int (1 : Int32)), .val (.ref b380), .val (.ref b407), .val (.ref b435), .val (.ref rr465)] [(.int (1 : Int32))])
        refine ow_if_eq C A469 at_208 (by decide) (pcY := 242) (by decide) (pcN := 211) rfl (fun zq => absurd zq (by decide)) (fun _ => ?_)
        refine ow_aload C A469 at_211 rfl rfl rfl ?_
        refine ow_aload C A469 at_213 rfl rfl rfl ?_
        refine ow_aload C A469 at_215 rfl rfl rfl ?_
        refine ow_iload C A469 at_217 rfl rfl ?_
        refine ow_iload C A469 at_219 rfl rfl ?_
        refine ow_iconst C A469 at_221 (v := 2) rfl rfl ?_
        refine ow_callS C A469 (argsL := [(.ref rr465), (.ref b380), (.ref b407), (.int (1 : Int32)), (.int (2 : Int32)), (.int (2 : Int32))]) (rm_at2_1_2 l Z a0 hw rr465 b380 b407 kr465 kk381 kk408 q0 q1 q2 q3 q4 (q3 - q1) T465.heap yR465 f466 f467 []) tw_43 tw_44 tw_45 tw_46 (by decide) all0 (by decide) (by decide) (ck' := 7) (sk' := 2064) rfl rfl (by decide) (by decide) rfl (lenOf pd_5 rfl) (S := []) rfl (W := 0) (Nat.le_of_eq rfl) at_222 rfl ?_
        intro T470 v470 K470 hQ470 A470
        obtain ⟨rfl, ee470⟩ := hQ470
        rw [ee470] at A470 K470
        show OwnWP _ _ _ _ _ _ _ _ _ T470 (mkF m 225 #[.val (.long q0), .second, .val (.long q1), .second, .val (.long q2), .second, .val (.long q3), .second, .val (.long q4), .second, .val (.int p5), .val (.int (2 : Int32)), .val (.long (q3 - q1)), .second, .val (.int (1 : Int32)), .val (.ref b380), .val (.ref b407), .val (.ref b435), .val (.ref rr465)] [(.int (1 : Int32))])
        refine ow_if_eq C A470 at_225 (by decide) (pcY := 242) (by decide) (pcN := 228) rfl (fun zq => absurd zq (by decide)) (fun _ => ?_)
        refine ow_aload C A470 at_228 rfl rfl rfl ?_
        have f471 := (xZ463.keep K465 nin0)
        have f473 := (xE463.keep K465)
        refine ow_callV C A470 (argsL := []) f473 (rm_size l Z a0 hw b435 (2 : Int32) T465.heap f471 []) tw_47 tw_48 (ow_nf hw tw_50) tw_50 tw_49 tw_3 tw_51 (by decide) all0 (by decide) (by decide) (ck' := 7) (sk' := 2064) rfl rfl (by decide) (by decide) rfl (lenOf pd_6 rfl) (S := []) rfl (W := 0) (Nat.le_of_eq rfl) at_230 rfl ?_
        intro T472 v472 K472 hQ472 A472
        obtain ⟨rfl, ee472⟩ := hQ472
        rw [ee472] at A472 K472
        show OwnWP _ _ _ _ _ _ _ _ _ T472 (mkF m 233 #[.val (.long q0), .second, .val (.long q1), .second, .val (.long q2), .second, .val (.long q3), .second, .val (.long q4), .second, .val (.int p5), .val (.int (2 : Int32)), .val (.long (q3 - q1)), .second, .val (.int (1 : Int32)), .val (.ref b380), .val (.ref b407), .val (.ref b435), .val (.ref rr465)] [(.int (2 : Int32))])
        refine ow_iload C A472 at_233 rfl rfl ?_
        refine ow_icmp_ne C A472 at_235 (by decide) (pcY := 242) (by decide) (pcN := 238) rfl (fun zq => absurd (by decide) zq) (fun _ => ?_)
        refine ow_iconst C A472 at_238 (v := 1) rfl rfl ?_
        refine ow_goto C A472 at_239 (by decide) (pc' := 243) (by decide) ?_
        refine ow_ireturn C A472 (t := .boolean) rfl rfl (by simp) at_243 (by decide) (by decide) ?_
        exact rfl
      · rw [hf]
        refine ow_istore C A0 at_61 (Ls' := #[.val (.long q0), .second, .val (.long q1), .second, .val (.long q2), .second, .val (.long q3), .second, .val (.long q4), .second, .val (.int p5), .val (.int (2 : Int32)), .val (.long (q3 - q1)), .second, .val (.int (2 : Int32)), .unset, .unset, .unset, .unset]) rfl rfl ?_
        refine ow_iconst C A0 at_63 (v := 3) rfl rfl ?_
        refine ow_newA C A0 (ty := .long) rfl tw_0 at_64 rfl (by decide) (cap := 3) (by decide) (by decide) (ck' := 1) (sk' := 3) rfl rfl (by decide) (by decide) ?_
        intro T474 h476 b477 kk478 g479 E480 V481 A475
        have ows_b477 : b477 ∈ ([] : List Addr) ∨ h0.size ≤ b477 := Or.inr (Nat.le_trans (ow_le A0) (Nat.le_of_eq g479.symm))
        have V482 : Arv Z h476 b477 kk478 .long (3 : Int32) [(.long (0 : Int64)), (.long (0 : Int64)), (.long (0 : Int64))] (.long (0 : Int64)) := V481.pad (pad_rep [] (.long (0 : Int64)) 3)
        refine ow_dup C A475 at_66 rfl rfl ?_
        refine ow_iconst C A475 at_67 (v := 0) rfl rfl ?_
        refine ow_lloadN C A475 at_68 rfl rfl ?_
        refine ow_lastore C A475 V482 ⟨by decide, by decide⟩ (i := 0) rfl (Nat.le_of_ble_eq_true rfl) ows_b477 at_69 rfl ?_
        intro T483 h485 W486 V487 A484
        have V488 : Arv Z h485 b477 kk478 .long (3 : Int32) [(.long q0), (.long (0 : Int64)), (.long (0 : Int64))] (.long (0 : Int64)) := V487
        refine ow_dup C A484 at_70 rfl rfl ?_
        refine ow_iconst C A484 at_71 (v := 1) rfl rfl ?_
        refine ow_lload C A484 at_72 rfl rfl ?_
        refine ow_lastore C A484 V488 ⟨by decide, by decide⟩ (i := 1) rfl (Nat.le_of_ble_eq_true rfl) ows_b477 at_74 rfl ?_
        intro T489 h491 W492 V493 A490
        have V494 : Arv Z h491 b477 kk478 .long (3 : Int32) [(.long q0), (.long q2), (.long (0 : Int64))] (.long (0 : Int64)) := V493
        refine ow_dup C A490 at_75 rfl rfl ?_
        refine ow_iconst C A490 at_76 (v := 2) rfl rfl ?_
        refine ow_lload C A490 at_77 rfl rfl ?_
        refine ow_lastore C A490 V494 ⟨by decide, by decide⟩ (i := 2) rfl (Nat.le_of_ble_eq_true rfl) ows_b477 at_79 rfl ?_
        intro T495 h497 W498 V499 A496
        have V500 : Arv Z h497 b477 kk478 .long (3 : Int32) [(.long q0), (.long q2), (.long q4)] (.long (0 : Int64)) := V499
        refine ow_astore C A496 at_80 rfl (Ls' := #[.val (.long q0), .second, .val (.long q1), .second, .val (.long q2), .second, .val (.long q3), .second, .val (.long q4), .second, .val (.int p5), .val (.int (2 : Int32)), .val (.long (q3 - q1)), .second, .val (.int (2 : Int32)), .val (.ref b477), .unset, .unset, .unset]) rfl rfl ?_
        refine ow_iconst C A496 at_82 (v := 3) rfl rfl ?_
        refine ow_newA C A496 (ty := .long) rfl tw_0 at_83 rfl (by decide) (cap := 3) (by decide) (by decide) (ck' := 2) (sk' := 6) rfl rfl (by decide) (by decide) ?_
        intro T501 h503 b504 kk505 g506 E507 V508 A502
        have ne509 : b477 ≠ b504 := Nat.ne_of_lt (Nat.lt_of_lt_of_le V500.lt (Nat.le_of_eq g506.symm))
        have ows_b504 : b504 ∈ ([] : List Addr) ∨ h0.size ≤ b504 := Or.inr (Nat.le_trans (ow_le A496) (Nat.le_of_eq g506.symm))
        have V510 : Arv Z h503 b504 kk505 .long (3 : Int32) [(.long (0 : Int64)), (.long (0 : Int64)), (.long (0 : Int64))] (.long (0 : Int64)) := V508.pad (pad_rep [] (.long (0 : Int64)) 3)
        refine ow_dup C A502 at_85 rfl rfl ?_
        refine ow_iconst C A502 at_86 (v := 0) rfl rfl ?_
        refine ow_lloadN C A502 at_87 rfl rfl ?_
        refine ow_lastore C A502 V510 ⟨by decide, by decide⟩ (i := 0) rfl (Nat.le_of_ble_eq_true rfl) ows_b504 at_88 rfl ?_
        intro T511 h513 W514 V515 A512
        have V516 : Arv Z h513 b504 kk505 .long (3 : Int32) [(.long q1), (.long (0 : Int64)), (.long (0 : Int64))] (.long (0 : Int64)) := V515
        refine ow_dup C A512 at_89 rfl rfl ?_
        refine ow_iconst C A512 at_90 (v := 1) rfl rfl ?_
        refine ow_lload C A512 at_91 rfl rfl ?_
        refine ow_lastore C A512 V516 ⟨by decide, by decide⟩ (i := 1) rfl (Nat.le_of_ble_eq_true rfl) ows_b504 at_93 rfl ?_
        intro T517 h519 W520 V521 A518
        have V522 : Arv Z h519 b504 kk505 .long (3 : Int32) [(.long q1), (.long q3), (.long (0 : Int64))] (.long (0 : Int64)) := V521
        refine ow_dup C A518 at_94 rfl rfl ?_
        refine ow_iconst C A518 at_95 (v := 2) rfl rfl ?_
        refine ow_lload C A518 at_96 rfl rfl ?_
        refine ow_lastore C A518 V522 ⟨by decide, by decide⟩ (i := 2) rfl (Nat.le_of_ble_eq_true rfl) ows_b504 at_98 rfl ?_
        intro T523 h525 W526 V527 A524
        have V528 : Arv Z h525 b504 kk505 .long (3 : Int32) [(.long q1), (.long q3), (.long (q3 - q1))] (.long (0 : Int64)) := V527
        refine ow_astore C A524 at_99 rfl (Ls' := #[.val (.long q0), .second, .val (.long q1), .second, .val (.long q2), .second, .val (.long q3), .second, .val (.long q4), .second, .val (.int p5), .val (.int (2 : Int32)), .val (.long (q3 - q1)), .second, .val (.int (2 : Int32)), .val (.ref b477), .val (.ref b504), .unset, .unset]) rfl rfl ?_
        refine ow_new C A524 tw_1 tw_2 tw_3 at_101 rfl (ck' := 3) (sk' := 10) rfl rfl (by decide) (by decide) ?_
        intro T529 h531 b532 g533 E534 X535 D536 A530
        have f537 := ((((V500.ext E507).other W514 ne509).other W520 ne509).other W526 ne509)
        have ne538 : b477 ≠ b532 := Nat.ne_of_lt (Nat.lt_of_lt_of_le f537.lt (Nat.le_of_eq g533.symm))
        have ne539 : b504 ≠ b532 := Nat.ne_of_lt (Nat.lt_of_lt_of_le V528.lt (Nat.le_of_eq g533.symm))
        have ows_b532 : b532 ∈ ([] : List Addr) ∨ h0.size ≤ b532 := Or.inr (Nat.le_trans (ow_le A524) (Nat.le_of_eq g533.symm))
        have f540 : Fld Z h531 b532 "com/example/ratebook/ratebook/journal/RecentKeys" "keys" "[J" .null := D536 (Or.inl (hw _ tw_11)) (ty := (.array .long)) (by decide)
        have f541 : Fld Z h531 b532 "com/example/ratebook/ratebook/journal/RecentKeys" "numbers" "[J" .null := D536 (Or.inl (hw _ tw_13)) (ty := (.array .long)) (by decide)
        have f542 : Fld Z h531 b532 "com/example/ratebook/ratebook/journal/RecentKeys" "slots" "[I" .null := D536 (Or.inl (hw _ tw_16)) (ty := (.array .int)) (by decide)
        have f543 : Fld Z h531 b532 "com/example/ratebook/ratebook/journal/RecentKeys" "size" "I" (.int (0 : Int32)) := D536 (Or.inl (hw _ tw_33)) (ty := .int) (by decide)
        refine ow_dup C A530 at_104 rfl rfl ?_
        have f544 := (f537.ext E534)
        have f545 := (V528.ext E534)
        refine ow_callI C A530 (argsL := []) (a := b532) (rm_init l Z a0 hw b532 h531 X535 f540 f541 f542 f543 []) rfl tw_4 tw_5 tw_3 tw_6 (by decide) (allS ows_b532 all0) (by decide) (by decide) (ck' := 6) (sk' := 2058) rfl rfl (by decide) (by decide) rfl (lenOf pd_3 rfl) (S := [(.ref b532)]) rfl (W := 1) (Nat.le_of_eq rfl) at_105 rfl ?_
        intro T546 v546 K546 hQ546 A546
        obtain ⟨rfl, kA546, nA546, sA546, c1546, c2546, c3546, O546, O2546, U546, g546_k, g546_n, g546_s⟩ := hQ546
        show OwnWP _ _ _ _ _ _ _ _ _ T546 (mkF m 108 #[.val (.long q0), .second, .val (.long q1), .second, .val (.long q2), .second, .val (.long q3), .second, .val (.long q4), .second, .val (.int p5), .val (.int (2 : Int32)), .val (.long (q3 - q1)), .second, .val (.int (2 : Int32)), .val (.ref b477), .val (.ref b504), .unset, .unset] [(.ref b532)])
        obtain ⟨xE547, xK547, xN547, xS547, xZ547⟩ := O546
        obtain ⟨yK548, yN548, yS548⟩ := O2546
        have U546' := U546
        obtain ⟨u549_0, u549_1, u549_2, u549_3, u549_4, u549_5⟩ := U546
        have ne550 : b477 ≠ kA546 := Nat.ne_of_lt (Nat.lt_of_lt_of_le f544.lt g546_k)
        have ne551 : b504 ≠ kA546 := Nat.ne_of_lt (Nat.lt_of_lt_of_le f545.lt g546_k)
        have ne552 : b477 ≠ nA546 := Nat.ne_of_lt (Nat.lt_of_lt_of_le f544.lt g546_n)
        have ne553 : b504 ≠ nA546 := Nat.ne_of_lt (Nat.lt_of_lt_of_le f545.lt g546_n)
        have ne554 : b477 ≠ sA546 := Nat.ne_of_lt (Nat.lt_of_lt_of_le f544.lt g546_s)
        have ne555 : b504 ≠ sA546 := Nat.ne_of_lt (Nat.lt_of_lt_of_le f545.lt g546_s)
        refine ow_astore C A546 at_108 rfl (Ls' := #[.val (.long q0), .second, .val (.long q1), .second, .val (.long q2), .second, .val (.long q3), .second, .val (.long q4), .second, .val (.int p5), .val (.int (2 : Int32)), .val (.long (q3 - q1)), .second, .val (.int (2 : Int32)), .val (.ref b477), .val (.ref b504), .val (.ref b532), .unset]) rfl rfl ?_
        refine ow_iload C A546 at_110 rfl rfl ?_
        refine ow_iconst C A546 at_112 (v := 1) rfl rfl ?_
        refine ow_icmp_lt C A546 at_113 (by decide) (pcY := 123) (by decide) (pcN := 116) rfl (fun zq => absurd zq (by decide)) (fun _ => ?_)
        refine ow_aload C A546 at_116 rfl rfl rfl ?_
        refine ow_lloadN C A546 at_118 rfl rfl ?_
        refine ow_lloadN C A546 at_119 rfl rfl ?_
        refine ow_callV C A546 (argsL := [(.long q0), (.long q1)]) xE547 (rm_add0 l Z a0 hw b532 kA546 nA546 sA546 c1546 c2546 c3546 q0 q1  T546.heap ⟨xE547, xK547, xN547, xS547, xZ547⟩ ⟨yK548, yN548, yS548⟩ U546'    []) tw_17 tw_18 (ow_nf hw tw_20) tw_20 tw_19 tw_3 tw_21 (by decide) (allS ows_b532 (allS (Or.inr (Nat.le_trans (ow_le A530) g546_k)) (allS (Or.inr (Nat.le_trans (ow_le A530) g546_n)) (allS (Or.inr (Nat.le_trans (ow_le A530) g546_s)) all0)))) (by decide) (by decide) (ck' := 6) (sk' := 2058) rfl rfl (by decide) (by decide) rfl (lenOf pd_7 rfl) (S := []) rfl (W := 0) (Nat.le_of_eq rfl) at_120 rfl ?_
        intro T556 v556 K556 hQ556 A556
        obtain ⟨rfl, pp556, O556, O2556⟩ := hQ556
        show OwnWP _ _ _ _ _ _ _ _ _ T556 (mkF m 123 #[.val (.long q0), .second, .val (.long q1), .second, .val (.long q2), .second, .val (.long q3), .second, .val (.long q4), .second, .val (.int p5), .val (.int (2 : Int32)), .val (.long (q3 - q1)), .second, .val (.int (2 : Int32)), .val (.ref b477), .val (.ref b504), .val (.ref b532), .unset] [])
        obtain ⟨xE557, xK557, xN557, xS557, xZ557⟩ := O556
        obtain ⟨yK558, yN558, yS558⟩ := O2556
        refine ow_iload C A556 at_123 rfl rfl ?_
        refine ow_iconst C A556 at_125 (v := 2) rfl rfl ?_
        refine ow_icmp_lt C A556 at_126 (by decide) (pcY := 138) (by decide) (pcN := 129) rfl (fun zq => absurd zq (by decide)) (fun _ => ?_)
        refine ow_aload C A556 at_129 rfl rfl rfl ?_
        refine ow_lload C A556 at_131 rfl rfl ?_
        refine ow_lload C A556 at_133 rfl rfl ?_
        refine ow_callV C A556 (argsL := [(.long q2), (.long q3)]) xE557 (rm_add1 l Z a0 hw b532 kA546 nA546 sA546 c1546 c2546 c3546 q0 q1 q2 q3 pp556 T556.heap ⟨xE557, xK557, xN557, xS557, xZ557⟩ ⟨yK558, yN558, yS558⟩ U546'  (fun z => hne10 z.symm)  []) tw_17 tw_18 (ow_nf hw tw_20) tw_20 tw_19 tw_3 tw_21 (by decide) (allS ows_b532 (allS (Or.inr (Nat.le_trans (ow_le A530) g546_k)) (allS (Or.inr (Nat.le_trans (ow_le A530) g546_n)) (allS (Or.inr (Nat.le_trans (ow_le A530) g546_s)) all0)))) (by decide) (by decide) (ck' := 6) (sk' := 2058) rfl rfl (by decide) (by decide) rfl (lenOf pd_7 rfl) (S := []) rfl (W := 0) (Nat.le_of_eq rfl) at_135 rfl ?_
        intro T559 v559 K559 hQ559 A559
        obtain ⟨rfl, pp559, pd559, O559, O2559⟩ := hQ559
        show OwnWP _ _ _ _ _ _ _ _ _ T559 (mkF m 138 #[.val (.long q0), .second, .val (.long q1), .second, .val (.long q2), .second, .val (.long q3), .second, .val (.long q4), .second, .val (.int p5), .val (.int (2 : Int32)), .val (.long (q3 - q1)), .second, .val (.int (2 : Int32)), .val (.ref b477), .val (.ref b504), .val (.ref b532), .unset] [])
        obtain ⟨xE560, xK560, xN560, xS560, xZ560⟩ := O559
        obtain ⟨yK561, yN561, yS561⟩ := O2559
        refine ow_iload C A559 at_138 rfl rfl ?_
        refine ow_iconst C A559 at_140 (v := 3) rfl rfl ?_
        refine ow_icmp_lt C A559 at_141 (by decide) (pcY := 153) (by decide) (pcN := 144) rfl (fun _ => ?_) (fun zq => absurd (by decide) zq)
        refine ow_aload C A559 at_153 rfl rfl rfl ?_
        refine ow_iload C A559 at_155 rfl rfl ?_
        refine ow_callV C A559 (argsL := [(.int (2 : Int32))]) xE560 (rm_pf2_2 l Z a0 hw b532 kA546 nA546 sA546 c1546 c2546 c3546 q0 q1 q2 q3 T559.heap (own_f2 pp556 pp559) ⟨xE560, xK560, xN560, xS560, xZ560⟩ ⟨yK561, yN561, yS561⟩ []) tw_38 tw_39 (ow_nf hw tw_41) tw_41 tw_40 tw_3 tw_42 (by decide) all0 (by decide) (by decide) (ck' := 7) (sk' := 2064) rfl rfl (by decide) (by decide) rfl (lenOf pd_4 rfl) (S := []) rfl (W := 0) (Nat.le_of_eq rfl) at_157 rfl ?_
        intro T562 v562 K562 hQ562 A562
        obtain ⟨rr562, kr562, rfl, yR562⟩ := hQ562
        show OwnWP _ _ _ _ _ _ _ _ _ T562 (mkF m 160 #[.val (.long q0), .second, .val (.long q1), .second, .val (.long q2), .second, .val (.long q3), .second, .val (.long q4), .second, .val (.int p5), .val (.int (2 : Int32)), .val (.long (q3 - q1)), .second, .val (.int (2 : Int32)), .val (.ref b477), .val (.ref b504), .val (.ref b532), .unset] [(.ref rr562)])
        refine ow_astore C A562 at_160 rfl (Ls' := #[.val (.long q0), .second, .val (.long q1), .second, .val (.long q2), .second, .val (.long q3), .second, .val (.long q4), .second, .val (.int p5), .val (.int (2 : Int32)), .val (.long (q3 - q1)), .second, .val (.int (2 : Int32)), .val (.ref b477), .val (.ref b504), .val (.ref b532), .val (.ref rr562)]) rfl rfl ?_
        refine ow_aload C A562 at_162 rfl rfl rfl ?_
        refine ow_alen C A562 yR562 at_164 rfl ?_
        refine ow_iconst C A562 at_165 (v := 2) rfl rfl ?_
        refine ow_iload C A562 at_166 rfl rfl ?_
        refine ow_iload C A562 at_168 rfl rfl ?_
        refine ow_isub C A562 at_170 rfl ?_
        show OwnWP _ _ _ _ _ _ _ _ _ T562 (mkF m 171 #[.val (.long q0), .second, .val (.long q1), .second, .val (.long q2), .second, .val (.long q3), .second, .val (.long q4), .second, .val (.int p5), .val (.int (2 : Int32)), .val (.long (q3 - q1)), .second, .val (.int (2 : Int32)), .val (.ref b477), .val (.ref b504), .val (.ref b532), .val (.ref rr562)] [(.int (0 : Int32)), (.int (2 : Int32)), (.int (0 : Int32))])
        refine ow_imul C A562 at_171 rfl ?_
        show OwnWP _ _ _ _ _ _ _ _ _ T562 (mkF m 172 #[.val (.long q0), .second, .val (.long q1), .second, .val (.long q2), .second, .val (.long q3), .second, .val (.long q4), .second, .val (.int p5), .val (.int (2 : Int32)), .val (.long (q3 - q1)), .second, .val (.int (2 : Int32)), .val (.ref b477), .val (.ref b504), .val (.ref b532), .val (.ref rr562)] [(.int (0 : Int32)), (.int (0 : Int32))])
        refine ow_icmp_eq C A562 at_172 (by decide) (pcY := 177) (by decide) (pcN := 175) rfl (fun _ => ?_) (fun zq => absurd (by decide) zq)
        refine ow_aload C A562 at_177 rfl rfl rfl ?_
        refine ow_aload C A562 at_179 rfl rfl rfl ?_
        refine ow_aload C A562 at_181 rfl rfl rfl ?_
        refine ow_iload C A562 at_183 rfl rfl ?_
        refine ow_iload C A562 at_185 rfl rfl ?_
        refine ow_iconst C A562 at_187 (v := 0) rfl rfl ?_
        have f563 := ((((f544.keep K546 (ninS ne538 nin0)).keep K556 (ninS ne538 (ninS ne550 (ninS ne552 (ninS ne554 nin0))))).keep K559 (ninS ne538 (ninS ne550 (ninS ne552 (ninS ne554 nin0))))).keep K562 nin0)
        have f564 := ((((f545.keep K546 (ninS ne539 nin0)).keep K556 (ninS ne539 (ninS ne551 (ninS ne553 (ninS ne555 nin0))))).keep K559 (ninS ne539 (ninS ne551 (ninS ne553 (ninS ne555 nin0))))).keep K562 nin0)
        refine ow_callS C A562 (argsL := [(.ref rr562), (.ref b477), (.ref b504), (.int (2 : Int32)), (.int (2 : Int32)), (.int (0 : Int32))]) (rm_at2_2_0 l Z a0 hw rr562 b477 b504 kr562 kk478 kk505 q0 q1 q2 q3 q4 (q3 - q1) T562.heap yR562 f563 f564 []) tw_43 tw_44 tw_45 tw_46 (by decide) all0 (by decide) (by decide) (ck' := 7) (sk' := 2064) rfl rfl (by decide) (by decide) rfl (lenOf pd_5 rfl) (S := []) rfl (W := 0) (Nat.le_of_eq rfl) at_188 rfl ?_
        intro T565 v565 K565 hQ565 A565
        obtain ⟨rfl, ee565⟩ := hQ565
        rw [ee565] at A565 K565
        show OwnWP _ _ _ _ _ _ _ _ _ T565 (mkF m 191 #[.val (.long q0), .second, .val (.long q1), .second, .val (.long q2), .second, .val (.long q3), .second, .val (.long q4), .second, .val (.int p5), .val (.int (2 : Int32)), .val (.long (q3 - q1)), .second, .val (.int (2 : Int32)), .val (.ref b477), .val (.ref b504), .val (.ref b532), .val (.ref rr562)] [(.int (1 : Int32))])
        refine ow_if_eq C A565 at_191 (by decide) (pcY := 242) (by decide) (pcN := 194) rfl (fun zq => absurd zq (by decide)) (fun _ => ?_)
        refine ow_aload C A565 at_194 rfl rfl rfl ?_
        refine ow_aload C A565 at_196 rfl rfl rfl ?_
        refine ow_aload C A565 at_198 rfl rfl rfl ?_
        refine ow_iload C A565 at_200 rfl rfl ?_
        refine ow_iload C A565 at_202 rfl rfl ?_
        refine ow_iconst C A565 at_204 (v := 1) rfl rfl ?_
        refine ow_callS C A565 (argsL := [(.ref rr562), (.ref b477), (.ref b504), (.int (2 : Int32)), (.int (2 : Int32)), (.int (1 : Int32))]) (rm_at2_2_1 l Z a0 hw rr562 b477 b504 kr562 kk478 kk505 q0 q1 q2 q3 q4 (q3 - q1) T562.heap yR562 f563 f564 []) tw_43 tw_44 tw_45 tw_46 (by decide) all0 (by decide) (by decide) (ck' := 7) (sk' := 2064) rfl rfl (by decide) (by decide) rfl (lenOf pd_5 rfl) (S := []) rfl (W := 0) (Nat.le_of_eq rfl) at_205 rfl ?_
        intro T566 v566 K566 hQ566 A566
        obtain ⟨rfl, ee566⟩ := hQ566
        rw [ee566] at A566 K566
        show OwnWP _ _ _ _ _ _ _ _ _ T566 (mkF m 208 #[.val (.long q0), .second, .val (.long q1), .second, .val (.long q2), .second, .val (.long q3), .second, .val (.long q4), .second, .val (.int p5), .val (.int (2 : Int32)), .val (.long (q3 - q1)), .second, .val (.int (2 : Int32)), .val (.ref b477), .val (.ref b504), .val (.ref b532), .val (.ref rr562)] [(.int (1 : Int32))])
        refine ow_if_eq C A566 at_208 (by decide) (pcY := 242) (by decide) (pcN := 211) rfl (fun zq => absurd zq (by decide)) (fun _ => ?_)
        refine ow_aload C A566 at_211 rfl rfl rfl ?_
        refine ow_aload C A566 at_213 rfl rfl rfl ?_
        refine ow_aload C A566 at_215 rfl rfl rfl ?_
        refine ow_iload C A566 at_217 rfl rfl ?_
        refine ow_iload C A566 at_219 rfl rfl ?_
        refine ow_iconst C A566 at_221 (v := 2) rfl rfl ?_
        refine ow_callS C A566 (argsL := [(.ref rr562), (.ref b477), (.ref b504), (.int (2 : Int32)), (.int (2 : Int32)), (.int (2 : Int32))]) (rm_at2_2_2 l Z a0 hw rr562 b477 b504 kr562 kk478 kk505 q0 q1 q2 q3 q4 (q3 - q1) T562.heap yR562 f563 f564 []) tw_43 tw_44 tw_45 tw_46 (by decide) all0 (by decide) (by decide) (ck' := 7) (sk' := 2064) rfl rfl (by decide) (by decide) rfl (lenOf pd_5 rfl) (S := []) rfl (W := 0) (Nat.le_of_eq rfl) at_222 rfl ?_
        intro T567 v567 K567 hQ567 A567
        obtain ⟨rfl, ee567⟩ := hQ567
        rw [ee567] at A567 K567
        show OwnWP _ _ _ _ _ _ _ _ _ T567 (mkF m 225 #[.val (.long q0), .second, .val (.long q1), .second, .val (.long q2), .second, .val (.long q3), .second, .val (.long q4), .second, .val (.int p5), .val (.int (2 : Int32)), .val (.long (q3 - q1)), .second, .val (.int (2 : Int32)), .val (.ref b477), .val (.ref b504), .val (.ref b532), .val (.ref rr562)] [(.int (1 : Int32))])
        refine ow_if_eq C A567 at_225 (by decide) (pcY := 242) (by decide) (pcN := 228) rfl (fun zq => absurd zq (by decide)) (fun _ => ?_)
        refine ow_aload C A567 at_228 rfl rfl rfl ?_
        have f568 := (xZ560.keep K562 nin0)
        have f570 := (xE560.keep K562)
        refine ow_callV C A567 (argsL := []) f570 (rm_size l Z a0 hw b532 (2 : Int32) T562.heap f568 []) tw_47 tw_48 (ow_nf hw tw_50) tw_50 tw_49 tw_3 tw_51 (by decide) all0 (by decide) (by decide) (ck' := 7) (sk' := 2064) rfl rfl (by decide) (by decide) rfl (lenOf pd_6 rfl) (S := []) rfl (W := 0) (Nat.le_of_eq rfl) at_230 rfl ?_
        intro T569 v569 K569 hQ569 A569
        obtain ⟨rfl, ee569⟩ := hQ569
        rw [ee569] at A569 K569
        show OwnWP _ _ _ _ _ _ _ _ _ T569 (mkF m 233 #[.val (.long q0), .second, .val (.long q1), .second, .val (.long q2), .second, .val (.long q3), .second, .val (.long q4), .second, .val (.int p5), .val (.int (2 : Int32)), .val (.long (q3 - q1)), .second, .val (.int (2 : Int32)), .val (.ref b477), .val (.ref b504), .val (.ref b532), .val (.ref rr562)] [(.int (2 : Int32))])
        refine ow_iload C A569 at_233 rfl rfl ?_
        refine ow_icmp_ne C A569 at_235 (by decide) (pcY := 242) (by decide) (pcN := 238) rfl (fun zq => absurd (by decide) zq) (fun _ => ?_)
        refine ow_iconst C A569 at_238 (v := 1) rfl rfl ?_
        refine ow_goto C A569 at_239 (by decide) (pc' := 243) (by decide) ?_
        refine ow_ireturn C A569 (t := .boolean) rfl rfl (by simp) at_243 (by decide) (by decide) ?_
        exact rfl
    · skip
      refine ow_iconst C A0 at_25 (v := 1) rfl rfl ?_
      refine ow_ireturn C A0 (t := .boolean) rfl rfl (by simp) at_26 (by decide) (by decide) ?_
      exact rfl
  · rw [hn]
    refine ow_istore C A0 at_4 (Ls' := #[.val (.long q0), .second, .val (.long q1), .second, .val (.long q2), .second, .val (.long q3), .second, .val (.long q4), .second, .val (.int p5), .val (.int (3 : Int32)), .unset, .unset, .unset, .unset, .unset, .unset, .unset]) rfl rfl ?_
    refine ow_lload C A0 at_6 rfl rfl ?_
    refine ow_lloadN C A0 at_8 rfl rfl ?_
    refine ow_lsub C A0 at_9 rfl ?_
    refine ow_lstore C A0 at_10 (Ls' := #[.val (.long q0), .second, .val (.long q1), .second, .val (.long q2), .second, .val (.long q3), .second, .val (.long q4), .second, .val (.int p5), .val (.int (3 : Int32)), .val (.long (q3 - q1)), .second, .unset, .unset, .unset, .unset, .unset]) rfl rfl ?_
    refine ow_iload C A0 at_12 rfl rfl ?_
    refine ow_iconst C A0 at_14 (v := 2) rfl rfl ?_
    refine ow_icmp_lt C A0 at_15 (by decide) (pcY := 27) (by decide) (pcN := 18) rfl (fun zq => absurd zq (by decide)) (fun _ => ?_)
    refine ow_lload C A0 at_18 rfl rfl ?_
    refine ow_lloadN C A0 at_20 rfl rfl ?_
    refine ow_lcmp_ne C A0 at_21 rfl at_22 (by decide) (pcY := 27) (by decide) (pcN := 25) rfl (fun hc21 => ?_) (fun hc21 => ?_)
    · skip
      have hne10 : ¬ (q2 = q0) := hc21
      refine ow_iload C A0 at_27 rfl rfl ?_
      refine ow_iconst C A0 at_29 (v := 3) rfl rfl ?_
      refine ow_icmp_lt C A0 at_30 (by decide) (pcY := 50) (by decide) (pcN := 33) rfl (fun zq => absurd zq (by decide)) (fun _ => ?_)
      refine ow_lload C A0 at_33 rfl rfl ?_
      refine ow_lloadN C A0 at_35 rfl rfl ?_
      refine ow_lcmp_eq C A0 at_36 rfl at_37 (by decide) (pcY := 48) (by decide) (pcN := 40) rfl (fun hc36 => ?_) (fun hc36 => ?_)
      · skip
        refine ow_iconst C A0 at_48 (v := 1) rfl rfl ?_
        refine ow_ireturn C A0 (t := .boolean) rfl rfl (by simp) at_49 (by decide) (by decide) ?_
        exact rfl
      · skip
        have hne20 : ¬ (q4 = q0) := hc36
        refine ow_lload C A0 at_40 rfl rfl ?_
        refine ow_lload C A0 at_42 rfl rfl ?_
        refine ow_lcmp_ne C A0 at_44 rfl at_45 (by decide) (pcY := 50) (by decide) (pcN := 48) rfl (fun hc44 => ?_) (fun hc44 => ?_)
        · skip
          have hne21 : ¬ (q4 = q2) := hc44
          refine ow_iload C A0 at_50 rfl rfl ?_
          refine ow_iconst C A0 at_52 (v := 2) rfl rfl ?_
          refine ow_iushr C A0 at_53 rfl ?_
          refine ow_iconst C A0 at_54 (v := 3) rfl rfl ?_
          refine ow_iand C A0 at_55 rfl ?_
          refine ow_iload C A0 at_56 rfl rfl ?_
          refine ow_iconst C A0 at_58 (v := 1) rfl rfl ?_
          refine ow_iadd C A0 at_59 rfl ?_
          show OwnWP _ _ _ _ _ _ _ _ _ T0 (mkF m 60 #[.val (.long q0), .second, .val (.long q1), .second, .val (.long q2), .second, .val (.long q3), .second, .val (.long q4), .second, .val (.int p5), .val (.int (3 : Int32)), .val (.long (q3 - q1)), .second, .unset, .unset, .unset, .unset, .unset] [(.int (4 : Int32)), (.int ((own_ushr p5 (2 : Int32)) &&& (3 : Int32)))])
          refine ow_irem C A0 at_60 (by decide) rfl ?_
          rcases own_from4 (own_ushr p5 (2 : Int32)) with hf | hf | hf | hf
          · rw [hf]
            refine ow_istore C A0 at_61 (Ls' := #[.val (.long q0), .second, .val (.long q1), .second, .val (.long q2), .second, .val (.long q3), .second, .val (.long q4), .second, .val (.int p5), .val (.int (3 : Int32)), .val (.long (q3 - q1)), .second, .val (.int (0 : Int32)), .unset, .unset, .unset, .unset]) rfl rfl ?_
            refine ow_iconst C A0 at_63 (v := 3) rfl rfl ?_
            refine ow_newA C A0 (ty := .long) rfl tw_0 at_64 rfl (by decide) (cap := 3) (by decide) (by decide) (ck' := 1) (sk' := 3) rfl rfl (by decide) (by decide) ?_
            intro T571 h573 b574 kk575 g576 E577 V578 A572
            have ows_b574 : b574 ∈ ([] : List Addr) ∨ h0.size ≤ b574 := Or.inr (Nat.le_trans (ow_le A0) (Nat.le_of_eq g576.symm))
            have V579 : Arv Z h573 b574 kk575 .long (3 : Int32) [(.long (0 : Int64)), (.long (0 : Int64)), (.long (0 : Int64))] (.long (0 : Int64)) := V578.pad (pad_rep [] (.long (0 : Int64)) 3)
            refine ow_dup C A572 at_66 rfl rfl ?_
            refine ow_iconst C A572 at_67 (v := 0) rfl rfl ?_
            refine ow_lloadN C A572 at_68 rfl rfl ?_
            refine ow_lastore C A572 V579 ⟨by decide, by decide⟩ (i := 0) rfl (Nat.le_of_ble_eq_true rfl) ows_b574 at_69 rfl ?_
            intro T580 h582 W583 V584 A581
            have V585 : Arv Z h582 b574 kk575 .long (3 : Int32) [(.long q0), (.long (0 : Int64)), (.long (0 : Int64))] (.long (0 : Int64)) := V584
            refine ow_dup C A581 at_70 rfl rfl ?_
            refine ow_iconst C A581 at_71 (v := 1) rfl rfl ?_
            refine ow_lload C A581 at_72 rfl rfl ?_
            refine ow_lastore C A581 V585 ⟨by decide, by decide⟩ (i := 1) rfl (Nat.le_of_ble_eq_true rfl) ows_b574 at_74 rfl ?_
            intro T586 h588 W589 V590 A587
            have V591 : Arv Z h588 b574 kk575 .long (3 : Int32) [(.long q0), (.long q2), (.long (0 : Int64))] (.long (0 : Int64)) := V590
            refine ow_dup C A587 at_75 rfl rfl ?_
            refine ow_iconst C A587 at_76 (v := 2) rfl rfl ?_
            refine ow_lload C A587 at_77 rfl rfl ?_
            refine ow_lastore C A587 V591 ⟨by decide, by decide⟩ (i := 2) rfl (Nat.le_of_ble_eq_true rfl) ows_b574 at_79 rfl ?_
            intro T592 h594 W595 V596 A593
            have V597 : Arv Z h594 b574 kk575 .long (3 : Int32) [(.long q0), (.long q2), (.long q4)] (.long (0 : Int64)) := V596
            refine ow_astore C A593 at_80 rfl (Ls' := #[.val (.long q0), .second, .val (.long q1), .second, .val (.long q2), .second, .val (.long q3), .second, .val (.long q4), .second, .val (.int p5), .val (.int (3 : Int32)), .val (.long (q3 - q1)), .second, .val (.int (0 : Int32)), .val (.ref b574), .unset, .unset, .unset]) rfl rfl ?_
            refine ow_iconst C A593 at_82 (v := 3) rfl rfl ?_
            refine ow_newA C A593 (ty := .long) rfl tw_0 at_83 rfl (by decide) (cap := 3) (by decide) (by decide) (ck' := 2) (sk' := 6) rfl rfl (by decide) (by decide) ?_
            intro T598 h600 b601 kk602 g603 E604 V605 A599
            have ne606 : b574 ≠ b601 := Nat.ne_of_lt (Nat.lt_of_lt_of_le V597.lt (Nat.le_of_eq g603.symm))
            have ows_b601 : b601 ∈ ([] : List Addr) ∨ h0.size ≤ b601 := Or.inr (Nat.le_trans (ow_le A593) (Nat.le_of_eq g603.symm))
            have V607 : Arv Z h600 b601 kk602 .long (3 : Int32) [(.long (0 : Int64)), (.long (0 : Int64)), (.long (0 : Int64))] (.long (0 : Int64)) := V605.pad (pad_rep [] (.long (0 : Int64)) 3)
            refine ow_dup C A599 at_85 rfl rfl ?_
            refine ow_iconst C A599 at_86 (v := 0) rfl rfl ?_
            refine ow_lloadN C A599 at_87 rfl rfl ?_
            refine ow_lastore C A599 V607 ⟨by decide, by decide⟩ (i := 0) rfl (Nat.le_of_ble_eq_true rfl) ows_b601 at_88 rfl ?_
            intro T608 h610 W611 V612 A609
            have V613 : Arv Z h610 b601 kk602 .long (3 : Int32) [(.long q1), (.long (0 : Int64)), (.long (0 : Int64))] (.long (0 : Int64)) := V612
            refine ow_dup C A609 at_89 rfl rfl ?_
            refine ow_iconst C A609 at_90 (v := 1) rfl rfl ?_
            refine ow_lload C A609 at_91 rfl rfl ?_
            refine ow_lastore C A609 V613 ⟨by decide, by decide⟩ (i := 1) rfl (Nat.le_of_ble_eq_true rfl) ows_b601 at_93 rfl ?_
            intro T614 h616 W617 V618 A615
            have V619 : Arv Z h616 b601 kk602 .long (3 : Int32) [(.long q1), (.long q3), (.long (0 : Int64))] (.long (0 : Int64)) := V618
            refine ow_dup C A615 at_94 rfl rfl ?_
            refine ow_iconst C A615 at_95 (v := 2) rfl rfl ?_
            refine ow_lload C A615 at_96 rfl rfl ?_
            refine ow_lastore C A615 V619 ⟨by decide, by decide⟩ (i := 2) rfl (Nat.le_of_ble_eq_true rfl) ows_b601 at_98 rfl ?_
            intro T620 h622 W623 V624 A621
            have V625 : Arv Z h622 b601 kk602 .long (3 : Int32) [(.long q1), (.long q3), (.long (q3 - q1))] (.long (0 : Int64)) := V624
            refine ow_astore C A621 at_99 rfl (Ls' := #[.val (.long q0), .second, .val (.long q1), .second, .val (.long q2), .second, .val (.long q3), .second, .val (.long q4), .second, .val (.int p5), .val (.int (3 : Int32)), .val (.long (q3 - q1)), .second, .val (.int (0 : Int32)), .val (.ref b574), .val (.ref b601), .unset, .unset]) rfl rfl ?_
            refine ow_new C A621 tw_1 tw_2 tw_3 at_101 rfl (ck' := 3) (sk' := 10) rfl rfl (by decide) (by decide) ?_
            intro T626 h628 b629 g630 E631 X632 D633 A627
            have f634 := ((((V597.ext E604).other W611 ne606).other W617 ne606).other W623 ne606)
            have ne635 : b574 ≠ b629 := Nat.ne_of_lt (Nat.lt_of_lt_of_le f634.lt (Nat.le_of_eq g630.symm))
            have ne636 : b601 ≠ b629 := Nat.ne_of_lt (Nat.lt_of_lt_of_le V625.lt (Nat.le_of_eq g630.symm))
            have ows_b629 : b629 ∈ ([] : List Addr) ∨ h0.size ≤ b629 := Or.inr (Nat.le_trans (ow_le A621) (Nat.le_of_eq g630.symm))
            have f637 : Fld Z h628 b629 "com/example/ratebook/ratebook/journal/RecentKeys" "keys" "[J" .null := D633 (Or.inl (hw _ tw_11)) (ty := (.array .long)) (by decide)
            have f638 : Fld Z h628 b629 "com/example/ratebook/ratebook/journal/RecentKeys" "numbers" "[J" .null := D633 (Or.inl (hw _ tw_13)) (ty := (.array .long)) (by decide)
            have f639 : Fld Z h628 b629 "com/example/ratebook/ratebook/journal/RecentKeys" "slots" "[I" .null := D633 (Or.inl (hw _ tw_16)) (ty := (.array .int)) (by decide)
            have f640 : Fld Z h628 b629 "com/example/ratebook/ratebook/journal/RecentKeys" "size" "I" (.int (0 : Int32)) := D633 (Or.inl (hw _ tw_33)) (ty := .int) (by decide)
            refine ow_dup C A627 at_104 rfl rfl ?_
            have f641 := (f634.ext E631)
            have f642 := (V625.ext E631)
            refine ow_callI C A627 (argsL := []) (a := b629) (rm_init l Z a0 hw b629 h628 X632 f637 f638 f639 f640 []) rfl tw_4 tw_5 tw_3 tw_6 (by decide) (allS ows_b629 all0) (by decide) (by decide) (ck' := 6) (sk' := 2058) rfl rfl (by decide) (by decide) rfl (lenOf pd_3 rfl) (S := [(.ref b629)]) rfl (W := 1) (Nat.le_of_eq rfl) at_105 rfl ?_
            intro T643 v643 K643 hQ643 A643
            obtain ⟨rfl, kA643, nA643, sA643, c1643, c2643, c3643, O643, O2643, U643, g643_k, g643_n, g643_s⟩ := hQ643
            show OwnWP _ _ _ _ _ _ _ _ _ T643 (mkF m 108 #[.val (.long q0), .second, .val (.long q1), .second, .val (.long q2), .second, .val (.long q3), .second, .val (.long q4), .second, .val (.int p5), .val (.int (3 : Int32)), .val (.long (q3 - q1)), .second, .val (.int (0 : Int32)), .val (.ref b574), .val (.ref b601), .unset, .unset] [(.ref b629)])
            obtain ⟨xE644, xK644, xN644, xS644, xZ644⟩ := O643
            obtain ⟨yK645, yN645, yS645⟩ := O2643
            have U643' := U643
            obtain ⟨u646_0, u646_1, u646_2, u646_3, u646_4, u646_5⟩ := U643
            have ne647 : b574 ≠ kA643 := Nat.ne_of_lt (Nat.lt_of_lt_of_le f641.lt g643_k)
            have ne648 : b601 ≠ kA643 := Nat.ne_of_lt (Nat.lt_of_lt_of_le f642.lt g643_k)
            have ne649 : b574 ≠ nA643 := Nat.ne_of_lt (Nat.lt_of_lt_of_le f641.lt g643_n)
            have ne650 : b601 ≠ nA643 := Nat.ne_of_lt (Nat.lt_of_lt_of_le f642.lt g643_n)
            have ne651 : b574 ≠ sA643 := Nat.ne_of_lt (Nat.lt_of_lt_of_le f641.lt g643_s)
            have ne652 : b601 ≠ sA643 := Nat.ne_of_lt (Nat.lt_of_lt_of_le f642.lt g643_s)
            refine ow_astore C A643 at_108 rfl (Ls' := #[.val (.long q0), .second, .val (.long q1), .second, .val (.long q2), .second, .val (.long q3), .second, .val (.long q4), .second, .val (.int p5), .val (.int (3 : Int32)), .val (.long (q3 - q1)), .second, .val (.int (0 : Int32)), .val (.ref b574), .val (.ref b601), .val (.ref b629), .unset]) rfl rfl ?_
            refine ow_iload C A643 at_110 rfl rfl ?_
            refine ow_iconst C A643 at_112 (v := 1) rfl rfl ?_
            refine ow_icmp_lt C A643 at_113 (by decide) (pcY := 123) (by decide) (pcN := 116) rfl (fun zq => absurd zq (by decide)) (fun _ => ?_)
            refine ow_aload C A643 at_116 rfl rfl rfl ?_
            refine ow_lloadN C A643 at_118 rfl rfl ?_
            refine ow_lloadN C A643 at_119 rfl rfl ?_
            refine ow_callV C A643 (argsL := [(.long q0), (.long q1)]) xE644 (rm_add0 l Z a0 hw b629 kA643 nA643 sA643 c1643 c2643 c3643 q0 q1  T643.heap ⟨xE644, xK644, xN644, xS644, xZ644⟩ ⟨yK645, yN645, yS645⟩ U643'    []) tw_17 tw_18 (ow_nf hw tw_20) tw_20 tw_19 tw_3 tw_21 (by decide) (allS ows_b629 (allS (Or.inr (Nat.le_trans (ow_le A627) g643_k)) (allS (Or.inr (Nat.le_trans (ow_le A627) g643_n)) (allS (Or.inr (Nat.le_trans (ow_le A627) g643_s)) all0)))) (by decide) (by decide) (ck' := 6) (sk' := 2058) rfl rfl (by decide) (by decide) rfl (lenOf pd_7 rfl) (S := []) rfl (W := 0) (Nat.le_of_eq rfl) at_120 rfl ?_
            intro T653 v653 K653 hQ653 A653
            obtain ⟨rfl, pp653, O653, O2653⟩ := hQ653
            show OwnWP _ _ _ _ _ _ _ _ _ T653 (mkF m 123 #[.val (.long q0), .second, .val (.long q1), .second, .val (.long q2), .second, .val (.long q3), .second, .val (.long q4), .second, .val (.int p5), .val (.int (3 : Int32)), .val (.long (q3 - q1)), .second, .val (.int (0 : Int32)), .val (.ref b574), .val (.ref b601), .val (.ref b629), .unset] [])
            obtain ⟨xE654, xK654, xN654, xS654, xZ654⟩ := O653
            obtain ⟨yK655, yN655, yS655⟩ := O2653
            refine ow_iload C A653 at_123 rfl rfl ?_
            refine ow_iconst C A653 at_125 (v := 2) rfl rfl ?_
            refine ow_icmp_lt C A653 at_126 (by decide) (pcY := 138) (by decide) (pcN := 129) rfl (fun zq => absurd zq (by decide)) (fun _ => ?_)
            refine ow_aload C A653 at_129 rfl rfl rfl ?_
            refine ow_lload C A653 at_131 rfl rfl ?_
            refine ow_lload C A653 at_133 rfl rfl ?_
            refine ow_callV C A653 (argsL := [(.long q2), (.long q3)]) xE654 (rm_add1 l Z a0 hw b629 kA643 nA643 sA643 c1643 c2643 c3643 q0 q1 q2 q3 pp653 T653.heap ⟨xE654, xK654, xN654, xS654, xZ654⟩ ⟨yK655, yN655, yS655⟩ U643'  (fun z => hne10 z.symm)  []) tw_17 tw_18 (ow_nf hw tw_20) tw_20 tw_19 tw_3 tw_21 (by decide) (allS ows_b629 (allS (Or.inr (Nat.le_trans (ow_le A627) g643_k)) (allS (Or.inr (Nat.le_trans (ow_le A627) g643_n)) (allS (Or.inr (Nat.le_trans (ow_le A627) g643_s)) all0)))) (by decide) (by decide) (ck' := 6) (sk' := 2058) rfl rfl (by decide) (by decide) rfl (lenOf pd_7 rfl) (S := []) rfl (W := 0) (Nat.le_of_eq rfl) at_135 rfl ?_
            intro T656 v656 K656 hQ656 A656
            obtain ⟨rfl, pp656, pd656, O656, O2656⟩ := hQ656
            show OwnWP _ _ _ _ _ _ _ _ _ T656 (mkF m 138 #[.val (.long q0), .second, .val (.long q1), .second, .val (.long q2), .second, .val (.long q3), .second, .val (.long q4), .second, .val (.int p5), .val (.int (3 : Int32)), .val (.long (q3 - q1)), .second, .val (.int (0 : Int32)), .val (.ref b574), .val (.ref b601), .val (.ref b629), .unset] [])
            obtain ⟨xE657, xK657, xN657, xS657, xZ657⟩ := O656
            obtain ⟨yK658, yN658, yS658⟩ := O2656
            refine ow_iload C A656 at_138 rfl rfl ?_
            refine ow_iconst C A656 at_140 (v := 3) rfl rfl ?_
            refine ow_icmp_lt C A656 at_141 (by decide) (pcY := 153) (by decide) (pcN := 144) rfl (fun zq => absurd zq (by decide)) (fun _ => ?_)
            refine ow_aload C A656 at_144 rfl rfl rfl ?_
            refine ow_lload C A656 at_146 rfl rfl ?_
            refine ow_lload C A656 at_148 rfl rfl ?_
            refine ow_callV C A656 (argsL := [(.long q4), (.long (q3 - q1))]) xE657 (rm_add2 l Z a0 hw b629 kA643 nA643 sA643 c1643 c2643 c3643 q0 q1 q2 q3 q4 (q3 - q1) pp653 pp656 T656.heap ⟨xE657, xK657, xN657, xS657, xZ657⟩ ⟨yK658, yN658, yS658⟩ U643' pd656 (fun z => hne20 z.symm) (fun z => hne21 z.symm)  []) tw_17 tw_18 (ow_nf hw tw_20) tw_20 tw_19 tw_3 tw_21 (by decide) (allS ows_b629 (allS (Or.inr (Nat.le_trans (ow_le A627) g643_k)) (allS (Or.inr (Nat.le_trans (ow_le A627) g643_n)) (allS (Or.inr (Nat.le_trans (ow_le A627) g643_s)) all0)))) (by decide) (by decide) (ck' := 6) (sk' := 2058) rfl rfl (by decide) (by decide) rfl (lenOf pd_7 rfl) (S := []) rfl (W := 0) (Nat.le_of_eq rfl) at_150 rfl ?_
            intro T659 v659 K659 hQ659 A659
            obtain ⟨rfl, pp659, O659, O2659⟩ := hQ659
            show OwnWP _ _ _ _ _ _ _ _ _ T659 (mkF m 153 #[.val (.long q0), .second, .val (.long q1), .second, .val (.long q2), .second, .val (.long q3), .second, .val (.long q4), .second, .val (.int p5), .val (.int (3 : Int32)), .val (.long (q3 - q1)), .second, .val (.int (0 : Int32)), .val (.ref b574), .val (.ref b601), .val (.ref b629), .unset] [])
            obtain ⟨xE660, xK660, xN660, xS660, xZ660⟩ := O659
            obtain ⟨yK661, yN661, yS661⟩ := O2659
            refine ow_aload C A659 at_153 rfl rfl rfl ?_
            refine ow_iload C A659 at_155 rfl rfl ?_
            refine ow_callV C A659 (argsL := [(.int (0 : Int32))]) xE660 (rm_pf3_0 l Z a0 hw b629 kA643 nA643 sA643 c1643 c2643 c3643 q0 q1 q2 q3 q4 (q3 - q1) T659.heap (own_f3 pp653 pp656 pp659) ⟨xE660, xK660, xN660, xS660, xZ660⟩ ⟨yK661, yN661, yS661⟩ []) tw_38 tw_39 (ow_nf hw tw_41) tw_41 tw_40 tw_3 tw_42 (by decide) all0 (by decide) (by decide) (ck' := 7) (sk' := 2064) rfl rfl (by decide) (by decide) rfl (lenOf pd_4 rfl) (S := []) rfl (W := 0) (Nat.le_of_eq rfl) at_157 rfl ?_
            intro T662 v662 K662 hQ662 A662
            obtain ⟨rr662, kr662, rfl, yR662⟩ := hQ662
            show OwnWP _ _ _ _ _ _ _ _ _ T662 (mkF m 160 #[.val (.long q0), .second, .val (.long q1), .second, .val (.long q2), .second, .val (.long q3), .second, .val (.long q4), .second, .val (.int p5), .val (.int (3 : Int32)), .val (.long (q3 - q1)), .second, .val (.int (0 : Int32)), .val (.ref b574), .val (.ref b601), .val (.ref b629), .unset] [(.ref rr662)])
            refine ow_astore C A662 at_160 rfl (Ls' := #[.val (.long q0), .second, .val (.long q1), .second, .val (.long q2), .second, .val (.long q3), .second, .val (.long q4), .second, .val (.int p5), .val (.int (3 : Int32)), .val (.long (q3 - q1)), .second, .val (.int (0 : Int32)), .val (.ref b574), .val (.ref b601), .val (.ref b629), .val (.ref rr662)]) rfl rfl ?_
            refine ow_aload C A662 at_162 rfl rfl rfl ?_
            refine ow_alen C A662 yR662 at_164 rfl ?_
            refine ow_iconst C A662 at_165 (v := 2) rfl rfl ?_
            refine ow_iload C A662 at_166 rfl rfl ?_
            refine ow_iload C A662 at_168 rfl rfl ?_
            refine ow_isub C A662 at_170 rfl ?_
            show OwnWP _ _ _ _ _ _ _ _ _ T662 (mkF m 171 #[.val (.long q0), .second, .val (.long q1), .second, .val (.long q2), .second, .val (.long q3), .second, .val (.long q4), .second, .val (.int p5), .val (.int (3 : Int32)), .val (.long (q3 - q1)), .second, .val (.int (0 : Int32)), .val (.ref b574), .val (.ref b601), .val (.ref b629), .val (.ref rr662)] [(.int (3 : Int32)), (.int (2 : Int32)), (.int (6 : Int32))])
            refine ow_imul C A662 at_171 rfl ?_
            show OwnWP _ _ _ _ _ _ _ _ _ T662 (mkF m 172 #[.val (.long q0), .second, .val (.long q1), .second, .val (.long q2), .second, .val (.long q3), .second, .val (.long q4), .second, .val (.int p5), .val (.int (3 : Int32)), .val (.long (q3 - q1)), .second, .val (.int (0 : Int32)), .val (.ref b574), .val (.ref b601), .val (.ref b629), .val (.ref rr662)] [(.int (6 : Int32)), (.int (6 : Int32))])
            refine ow_icmp_eq C A662 at_172 (by decide) (pcY := 177) (by decide) (pcN := 175) rfl (fun _ => ?_) (fun zq => absurd (by decide) zq)
            refine ow_aload C A662 at_177 rfl rfl rfl ?_
            refine ow_aload C A662 at_179 rfl rfl rfl ?_
            refine ow_aload C A662 at_181 rfl rfl rfl ?_
            refine ow_iload C A662 at_183 rfl rfl ?_
            refine ow_iload C A662 at_185 rfl rfl ?_
            refine ow_iconst C A662 at_187 (v := 0) rfl rfl ?_
            have f663 := (((((f641.keep K643 (ninS ne635 nin0)).keep K653 (ninS ne635 (ninS ne647 (ninS ne649 (ninS ne651 nin0))))).keep K656 (ninS ne635 (ninS ne647 (ninS ne649 (ninS ne651 nin0))))).keep K659 (ninS ne635 (ninS ne647 (ninS ne649 (ninS ne651 nin0))))).keep K662 nin0)
            have f664 := (((((f642.keep K643 (ninS ne636 nin0)).keep K653 (ninS ne636 (ninS ne648 (ninS ne650 (ninS ne652 nin0))))).keep K656 (ninS ne636 (ninS ne648 (ninS ne650 (ninS ne652 nin0))))).keep K659 (ninS ne636 (ninS ne648 (ninS ne650 (ninS ne652 nin0))))).keep K662 nin0)
            refine ow_callS C A662 (argsL := [(.ref rr662), (.ref b574), (.ref b601), (.int (0 : Int32)), (.int (3 : Int32)), (.int (0 : Int32))]) (rm_at3_0_0 l Z a0 hw rr662 b574 b601 kr662 kk575 kk602 q0 q1 q2 q3 q4 (q3 - q1) T662.heap yR662 f663 f664 []) tw_43 tw_44 tw_45 tw_46 (by decide) all0 (by decide) (by decide) (ck' := 7) (sk' := 2064) rfl rfl (by decide) (by decide) rfl (lenOf pd_5 rfl) (S := []) rfl (W := 0) (Nat.le_of_eq rfl) at_188 rfl ?_
            intro T665 v665 K665 hQ665 A665
            obtain ⟨rfl, ee665⟩ := hQ665
            rw [ee665] at A665 K665
            show OwnWP _ _ _ _ _ _ _ _ _ T665 (mkF m 191 #[.val (.long q0), .second, .val (.long q1), .second, .val (.long q2), .second, .val (.long q3), .second, .val (.long q4), .second, .val (.int p5), .val (.int (3 : Int32)), .val (.long (q3 - q1)), .second, .val (.int (0 : Int32)), .val (.ref b574), .val (.ref b601), .val (.ref b629), .val (.ref rr662)] [(.int (1 : Int32))])
            refine ow_if_eq C A665 at_191 (by decide) (pcY := 242) (by decide) (pcN := 194) rfl (fun zq => absurd zq (by decide)) (fun _ => ?_)
            refine ow_aload C A665 at_194 rfl rfl rfl ?_
            refine ow_aload C A665 at_196 rfl rfl rfl ?_
            refine ow_aload C A665 at_198 rfl rfl rfl ?_
            refine ow_iload C A665 at_200 rfl rfl ?_
            refine ow_iload C A665 at_202 rfl rfl ?_
            refine ow_iconst C A665 at_204 (v := 1) rfl rfl ?_
            refine ow_callS C A665 (argsL := [(.ref rr662), (.ref b574), (.ref b601), (.int (0 : Int32)), (.int (3 : Int32)), (.int (1 : Int32))]) (rm_at3_0_1 l Z a0 hw rr662 b574 b601 kr662 kk575 kk602 q0 q1 q2 q3 q4 (q3 - q1) T662.heap yR662 f663 f664 []) tw_43 tw_44 tw_45 tw_46 (by decide) all0 (by decide) (by decide) (ck' := 7) (sk' := 2064) rfl rfl (by decide) (by decide) rfl (lenOf pd_5 rfl) (S := []) rfl (W := 0) (Nat.le_of_eq rfl) at_205 rfl ?_
            intro T666 v666 K666 hQ666 A666
            obtain ⟨rfl, ee666⟩ := hQ666
            rw [ee666] at A666 K666
            show OwnWP _ _ _ _ _ _ _ _ _ T666 (mkF m 208 #[.val (.long q0), .second, .val (.long q1), .second, .val (.long q2), .second, .val (.long q3), .second, .val (.long q4), .second, .val (.int p5), .val (.int (3 : Int32)), .val (.long (q3 - q1)), .second, .val (.int (0 : Int32)), .val (.ref b574), .val (.ref b601), .val (.ref b629), .val (.ref rr662)] [(.int (1 : Int32))])
            refine ow_if_eq C A666 at_208 (by decide) (pcY := 242) (by decide) (pcN := 211) rfl (fun zq => absurd zq (by decide)) (fun _ => ?_)
            refine ow_aload C A666 at_211 rfl rfl rfl ?_
            refine ow_aload C A666 at_213 rfl rfl rfl ?_
            refine ow_aload C A666 at_215 rfl rfl rfl ?_
            refine ow_iload C A666 at_217 rfl rfl ?_
            refine ow_iload C A666 at_219 rfl rfl ?_
            refine ow_iconst C A666 at_221 (v := 2) rfl rfl ?_
            refine ow_callS C A666 (argsL := [(.ref rr662), (.ref b574), (.ref b601), (.int (0 : Int32)), (.int (3 : Int32)), (.int (2 : Int32))]) (rm_at3_0_2 l Z a0 hw rr662 b574 b601 kr662 kk575 kk602 q0 q1 q2 q3 q4 (q3 - q1) T662.heap yR662 f663 f664 []) tw_43 tw_44 tw_45 tw_46 (by decide) all0 (by decide) (by decide) (ck' := 7) (sk' := 2064) rfl rfl (by decide) (by decide) rfl (lenOf pd_5 rfl) (S := []) rfl (W := 0) (Nat.le_of_eq rfl) at_222 rfl ?_
            intro T667 v667 K667 hQ667 A667
            obtain ⟨rfl, ee667⟩ := hQ667
            rw [ee667] at A667 K667
            show OwnWP _ _ _ _ _ _ _ _ _ T667 (mkF m 225 #[.val (.long q0), .second, .val (.long q1), .second, .val (.long q2), .second, .val (.long q3), .second, .val (.long q4), .second, .val (.int p5), .val (.int (3 : Int32)), .val (.long (q3 - q1)), .second, .val (.int (0 : Int32)), .val (.ref b574), .val (.ref b601), .val (.ref b629), .val (.ref rr662)] [(.int (1 : Int32))])
            refine ow_if_eq C A667 at_225 (by decide) (pcY := 242) (by decide) (pcN := 228) rfl (fun zq => absurd zq (by decide)) (fun _ => ?_)
            refine ow_aload C A667 at_228 rfl rfl rfl ?_
            have f668 := (xZ660.keep K662 nin0)
            have f670 := (xE660.keep K662)
            refine ow_callV C A667 (argsL := []) f670 (rm_size l Z a0 hw b629 (3 : Int32) T662.heap f668 []) tw_47 tw_48 (ow_nf hw tw_50) tw_50 tw_49 tw_3 tw_51 (by decide) all0 (by decide) (by decide) (ck' := 7) (sk' := 2064) rfl rfl (by decide) (by decide) rfl (lenOf pd_6 rfl) (S := []) rfl (W := 0) (Nat.le_of_eq rfl) at_230 rfl ?_
            intro T669 v669 K669 hQ669 A669
            obtain ⟨rfl, ee669⟩ := hQ669
            rw [ee669] at A669 K669
            show OwnWP _ _ _ _ _ _ _ _ _ T669 (mkF m 233 #[.val (.long q0), .second, .val (.long q1), .second, .val (.long q2), .second, .val (.long q3), .second, .val (.long q4), .second, .val (.int p5), .val (.int (3 : Int32)), .val (.long (q3 - q1)), .second, .val (.int (0 : Int32)), .val (.ref b574), .val (.ref b601), .val (.ref b629), .val (.ref rr662)] [(.int (3 : Int32))])
            refine ow_iload C A669 at_233 rfl rfl ?_
            refine ow_icmp_ne C A669 at_235 (by decide) (pcY := 242) (by decide) (pcN := 238) rfl (fun zq => absurd (by decide) zq) (fun _ => ?_)
            refine ow_iconst C A669 at_238 (v := 1) rfl rfl ?_
            refine ow_goto C A669 at_239 (by decide) (pc' := 243) (by decide) ?_
            refine ow_ireturn C A669 (t := .boolean) rfl rfl (by simp) at_243 (by decide) (by decide) ?_
            exact rfl
          · rw [hf]
            refine ow_istore C A0 at_61 (Ls' := #[.val (.long q0), .second, .val (.long q1), .second, .val (.long q2), .second, .val (.long q3), .second, .val (.long q4), .second, .val (.int p5), .val (.int (3 : Int32)), .val (.long (q3 - q1)), .second, .val (.int (1 : Int32)), .unset, .unset, .unset, .unset]) rfl rfl ?_
            refine ow_iconst C A0 at_63 (v := 3) rfl rfl ?_
            refine ow_newA C A0 (ty := .long) rfl tw_0 at_64 rfl (by decide) (cap := 3) (by decide) (by decide) (ck' := 1) (sk' := 3) rfl rfl (by decide) (by decide) ?_
            intro T671 h673 b674 kk675 g676 E677 V678 A672
            have ows_b674 : b674 ∈ ([] : List Addr) ∨ h0.size ≤ b674 := Or.inr (Nat.le_trans (ow_le A0) (Nat.le_of_eq g676.symm))
            have V679 : Arv Z h673 b674 kk675 .long (3 : Int32) [(.long (0 : Int64)), (.long (0 : Int64)), (.long (0 : Int64))] (.long (0 : Int64)) := V678.pad (pad_rep [] (.long (0 : Int64)) 3)
            refine ow_dup C A672 at_66 rfl rfl ?_
            refine ow_iconst C A672 at_67 (v := 0) rfl rfl ?_
            refine ow_lloadN C A672 at_68 rfl rfl ?_
            refine ow_lastore C A672 V679 ⟨by decide, by decide⟩ (i := 0) rfl (Nat.le_of_ble_eq_true rfl) ows_b674 at_69 rfl ?_
            intro T680 h682 W683 V684 A681
            have V685 : Arv Z h682 b674 kk675 .long (3 : Int32) [(.long q0), (.long (0 : Int64)), (.long (0 : Int64))] (.long (0 : Int64)) := V684
            refine ow_dup C A681 at_70 rfl rfl ?_
            refine ow_iconst C A681 at_71 (v := 1) rfl rfl ?_
            refine ow_lload C A681 at_72 rfl rfl ?_
            refine ow_lastore C A681 V685 ⟨by decide, by decide⟩ (i := 1) rfl (Nat.le_of_ble_eq_true rfl) ows_b674 at_74 rfl ?_
            intro T686 h688 W689 V690 A687
            have V691 : Arv Z h688 b674 kk675 .long (3 : Int32) [(.long q0), (.long q2), (.long (0 : Int64))] (.long (0 : Int64)) := V690
            refine ow_dup C A687 at_75 rfl rfl ?_
            refine ow_iconst C A687 at_76 (v := 2) rfl rfl ?_
            refine ow_lload C A687 at_77 rfl rfl ?_
            refine ow_lastore C A687 V691 ⟨by decide, by decide⟩ (i := 2) rfl (Nat.le_of_ble_eq_true rfl) ows_b674 at_79 rfl ?_
            intro T692 h694 W695 V696 A693
            have V697 : Arv Z h694 b674 kk675 .long (3 : Int32) [(.long q0), (.long q2), (.long q4)] (.long (0 : Int64)) := V696
            refine ow_astore C A693 at_80 rfl (Ls' := #[.val (.long q0), .second, .val (.long q1), .second, .val (.long q2), .second, .val (.long q3), .second, .val (.long q4), .second, .val (.int p5), .val (.int (3 : Int32)), .val (.long (q3 - q1)), .second, .val (.int (1 : Int32)), .val (.ref b674), .unset, .unset, .unset]) rfl rfl ?_
            refine ow_iconst C A693 at_82 (v := 3) rfl rfl ?_
            refine ow_newA C A693 (ty := .long) rfl tw_0 at_83 rfl (by decide) (cap := 3) (by decide) (by decide) (ck' := 2) (sk' := 6) rfl rfl (by decide) (by decide) ?_
            intro T698 h700 b701 kk702 g703 E704 V705 A699
            have ne706 : b674 ≠ b701 := Nat.ne_of_lt (Nat.lt_of_lt_of_le V697.lt (Nat.le_of_eq g703.symm))
            have ows_b701 : b701 ∈ ([] : List Addr) ∨ h0.size ≤ b701 := Or.inr (Nat.le_trans (ow_le A693) (Nat.le_of_eq g703.symm))
            have V707 : Arv Z h700 b701 kk702 .long (3 : Int32) [(.long (0 : Int64)), (.long (0 : Int64)), (.long (0 : Int64))] (.long (0 : Int64)) := V705.pad (pad_rep [] (.long (0 : Int64)) 3)
            refine ow_dup C A699 at_85 rfl rfl ?_
            refine ow_iconst C A699 at_86 (v := 0) rfl rfl ?_
            refine ow_lloadN C A699 at_87 rfl rfl ?_
            refine ow_lastore C A699 V707 ⟨by decide, by decide⟩ (i := 0) rfl (Nat.le_of_ble_eq_true rfl) ows_b701 at_88 rfl ?_
            intro T708 h710 W711 V712 A709
            have V713 : Arv Z h710 b701 kk702 .long (3 : Int32) [(.long q1), (.long (0 : Int64)), (.long (0 : Int64))] (.long (0 : Int64)) := V712
            refine ow_dup C A709 at_89 rfl rfl ?_
            refine ow_iconst C A709 at_90 (v := 1) rfl rfl ?_
            refine ow_lload C A709 at_91 rfl rfl ?_
            refine ow_lastore C A709 V713 ⟨by decide, by decide⟩ (i := 1) rfl (Nat.le_of_ble_eq_true rfl) ows_b701 at_93 rfl ?_
            intro T714 h716 W717 V718 A715
            have V719 : Arv Z h716 b701 kk702 .long (3 : Int32) [(.long q1), (.long q3), (.long (0 : Int64))] (.long (0 : Int64)) := V718
            refine ow_dup C A715 at_94 rfl rfl ?_
            refine ow_iconst C A715 at_95 (v := 2) rfl rfl ?_
            refine ow_lload C A715 at_96 rfl rfl ?_
            refine ow_lastore C A715 V719 ⟨by decide, by decide⟩ (i := 2) rfl (Nat.le_of_ble_eq_true rfl) ows_b701 at_98 rfl ?_
            intro T720 h722 W723 V724 A721
            have V725 : Arv Z h722 b701 kk702 .long (3 : Int32) [(.long q1), (.long q3), (.long (q3 - q1))] (.long (0 : Int64)) := V724
            refine ow_astore C A721 at_99 rfl (Ls' := #[.val (.long q0), .second, .val (.long q1), .second, .val (.long q2), .second, .val (.long q3), .second, .val (.long q4), .second, .val (.int p5), .val (.int (3 : Int32)), .val (.long (q3 - q1)), .second, .val (.int (1 : Int32)), .val (.ref b674), .val (.ref b701), .unset, .unset]) rfl rfl ?_
            refine ow_new C A721 tw_1 tw_2 tw_3 at_101 rfl (ck' := 3) (sk' := 10) rfl rfl (by decide) (by decide) ?_
            intro T726 h728 b729 g730 E731 X732 D733 A727
            have f734 := ((((V697.ext E704).other W711 ne706).other W717 ne706).other W723 ne706)
            have ne735 : b674 ≠ b729 := Nat.ne_of_lt (Nat.lt_of_lt_of_le f734.lt (Nat.le_of_eq g730.symm))
            have ne736 : b701 ≠ b729 := Nat.ne_of_lt (Nat.lt_of_lt_of_le V725.lt (Nat.le_of_eq g730.symm))
            have ows_b729 : b729 ∈ ([] : List Addr) ∨ h0.size ≤ b729 := Or.inr (Nat.le_trans (ow_le A721) (Nat.le_of_eq g730.symm))
            have f737 : Fld Z h728 b729 "com/example/ratebook/ratebook/journal/RecentKeys" "keys" "[J" .null := D733 (Or.inl (hw _ tw_11)) (ty := (.array .long)) (by decide)
            have f738 : Fld Z h728 b729 "com/example/ratebook/ratebook/journal/RecentKeys" "numbers" "[J" .null := D733 (Or.inl (hw _ tw_13)) (ty := (.array .long)) (by decide)
            have f739 : Fld Z h728 b729 "com/example/ratebook/ratebook/journal/RecentKeys" "slots" "[I" .null := D733 (Or.inl (hw _ tw_16)) (ty := (.array .int)) (by decide)
            have f740 : Fld Z h728 b729 "com/example/ratebook/ratebook/journal/RecentKeys" "size" "I" (.int (0 : Int32)) := D733 (Or.inl (hw _ tw_33)) (ty := .int) (by decide)
            refine ow_dup C A727 at_104 rfl rfl ?_
            have f741 := (f734.ext E731)
            have f742 := (V725.ext E731)
            refine ow_callI C A727 (argsL := []) (a := b729) (rm_init l Z a0 hw b729 h728 X732 f737 f738 f739 f740 []) rfl tw_4 tw_5 tw_3 tw_6 (by decide) (allS ows_b729 all0) (by decide) (by decide) (ck' := 6) (sk' := 2058) rfl rfl (by decide) (by decide) rfl (lenOf pd_3 rfl) (S := [(.ref b729)]) rfl (W := 1) (Nat.le_of_eq rfl) at_105 rfl ?_
            intro T743 v743 K743 hQ743 A743
            obtain ⟨rfl, kA743, nA743, sA743, c1743, c2743, c3743, O743, O2743, U743, g743_k, g743_n, g743_s⟩ := hQ743
            show OwnWP _ _ _ _ _ _ _ _ _ T743 (mkF m 108 #[.val (.long q0), .second, .val (.long q1), .second, .val (.long q2), .second, .val (.long q3), .second, .val (.long q4), .second, .val (.int p5), .val (.int (3 : Int32)), .val (.long (q3 - q1)), .second, .val (.int (1 : Int32)), .val (.ref b674), .val (.ref b701), .unset, .unset] [(.ref b729)])
            obtain ⟨xE744, xK744, xN744, xS744, xZ744⟩ := O743
            obtain ⟨yK745, yN745, yS745⟩ := O2743
            have U743' := U743
            obtain ⟨u746_0, u746_1, u746_2, u746_3, u746_4, u746_5⟩ := U743
            have ne747 : b674 ≠ kA743 := Nat.ne_of_lt (Nat.lt_of_lt_of_le f741.lt g743_k)
            have ne748 : b701 ≠ kA743 := Nat.ne_of_lt (Nat.lt_of_lt_of_le f742.lt g743_k)
            have ne749 : b674 ≠ nA743 := Nat.ne_of_lt (Nat.lt_of_lt_of_le f741.lt g743_n)
            have ne750 : b701 ≠ nA743 := Nat.ne_of_lt (Nat.lt_of_lt_of_le f742.lt g743_n)
            have ne751 : b674 ≠ sA743 := Nat.ne_of_lt (Nat.lt_of_lt_of_le f741.lt g743_s)
            have ne752 : b701 ≠ sA743 := Nat.ne_of_lt (Nat.lt_of_lt_of_le f742.lt g743_s)
            refine ow_astore C A743 at_108 rfl (Ls' := #[.val (.long q0), .second, .val (.long q1), .second, .val (.long q2), .second, .val (.long q3), .second, .val (.long q4), .second, .val (.int p5), .val (.int (3 : Int32)), .val (.long (q3 - q1)), .second, .val (.int (1 : Int32)), .val (.ref b674), .val (.ref b701), .val (.ref b729), .unset]) rfl rfl ?_
            refine ow_iload C A743 at_110 rfl rfl ?_
            refine ow_iconst C A743 at_112 (v := 1) rfl rfl ?_
            refine ow_icmp_lt C A743 at_113 (by decide) (pcY := 123) (by decide) (pcN := 116) rfl (fun zq => absurd zq (by decide)) (fun _ => ?_)
            refine ow_aload C A743 at_116 rfl rfl rfl ?_
            refine ow_lloadN C A743 at_118 rfl rfl ?_
            refine ow_lloadN C A743 at_119 rfl rfl ?_
            refine ow_callV C A743 (argsL := [(.long q0), (.long q1)]) xE744 (rm_add0 l Z a0 hw b729 kA743 nA743 sA743 c1743 c2743 c3743 q0 q1  T743.heap ⟨xE744, xK744, xN744, xS744, xZ744⟩ ⟨yK745, yN745, yS745⟩ U743'    []) tw_17 tw_18 (ow_nf hw tw_20) tw_20 tw_19 tw_3 tw_21 (by decide) (allS ows_b729 (allS (Or.inr (Nat.le_trans (ow_le A727) g743_k)) (allS (Or.inr (Nat.le_trans (ow_le A727) g743_n)) (allS (Or.inr (Nat.le_trans (ow_le A727) g743_s)) all0)))) (by decide) (by decide) (ck' := 6) (sk' := 2058) rfl rfl (by decide) (by decide) rfl (lenOf pd_7 rfl) (S := []) rfl (W := 0) (Nat.le_of_eq rfl) at_120 rfl ?_
            intro T753 v753 K753 hQ753 A753
            obtain ⟨rfl, pp753, O753, O2753⟩ := hQ753
            show OwnWP _ _ _ _ _ _ _ _ _ T753 (mkF m 123 #[.val (.long q0), .second, .val (.long q1), .second, .val (.long q2), .second, .val (.long q3), .second, .val (.long q4), .second, .val (.int p5), .val (.int (3 : Int32)), .val (.long (q3 - q1)), .second, .val (.int (1 : Int32)), .val (.ref b674), .val (.ref b701), .val (.ref b729), .unset] [])
            obtain ⟨xE754, xK754, xN754, xS754, xZ754⟩ := O753
            obtain ⟨yK755, yN755, yS755⟩ := O2753
            refine ow_iload C A753 at_123 rfl rfl ?_
            refine ow_iconst C A753 at_125 (v := 2) rfl rfl ?_
            refine ow_icmp_lt C A753 at_126 (by decide) (pcY := 138) (by decide) (pcN := 129) rfl (fun zq => absurd zq (by decide)) (fun _ => ?_)
            refine ow_aload C A753 at_129 rfl rfl rfl ?_
            refine ow_lload C A753 at_131 rfl rfl ?_
            refine ow_lload C A753 at_133 rfl rfl ?_
            refine ow_callV C A753 (argsL := [(.long q2), (.long q3)]) xE754 (rm_add1 l Z a0 hw b729 kA743 nA743 sA743 c1743 c2743 c3743 q0 q1 q2 q3 pp753 T753.heap ⟨xE754, xK754, xN754, xS754, xZ754⟩ ⟨yK755, yN755, yS755⟩ U743'  (fun z => hne10 z.symm)  []) tw_17 tw_18 (ow_nf hw tw_20) tw_20 tw_19 tw_3 tw_21 (by decide) (allS ows_b729 (allS (Or.inr (Nat.le_trans (ow_le A727) g743_k)) (allS (Or.inr (Nat.le_trans (ow_le A727) g743_n)) (allS (Or.inr (Nat.le_trans (ow_le A727) g743_s)) all0)))) (by decide) (by decide) (ck' := 6) (sk' := 2058) rfl rfl (by decide) (by decide) rfl (lenOf pd_7 rfl) (S := []) rfl (W := 0) (Nat.le_of_eq rfl) at_135 rfl ?_
            intro T756 v756 K756 hQ756 A756
            obtain ⟨rfl, pp756, pd756, O756, O2756⟩ := hQ756
            show OwnWP _ _ _ _ _ _ _ _ _ T756 (mkF m 138 #[.val (.long q0), .second, .val (.long q1), .second, .val (.long q2), .second, .val (.long q3), .second, .val (.long q4), .second, .val (.int p5), .val (.int (3 : Int32)), .val (.long (q3 - q1)), .second, .val (.int (1 : Int32)), .val (.ref b674), .val (.ref b701), .val (.ref b729), .unset] [])
            obtain ⟨xE757, xK757, xN757, xS757, xZ757⟩ := O756
            obtain ⟨yK758, yN758, yS758⟩ := O2756
            refine ow_iload C A756 at_138 rfl rfl ?_
            refine ow_iconst C A756 at_140 (v := 3) rfl rfl ?_
            refine ow_icmp_lt C A756 at_141 (by decide) (pcY := 153) (by decide) (pcN := 144) rfl (fun zq => absurd zq (by decide)) (fun _ => ?_)
            refine ow_aload C A756 at_144 rfl rfl rfl ?_
            refine ow_lload C A756 at_146 rfl rfl ?_
            refine ow_lload C A756 at_148 rfl rfl ?_
            refine ow_callV C A756 (argsL := [(.long q4), (.long (q3 - q1))]) xE757 (rm_add2 l Z a0 hw b729 kA743 nA743 sA743 c1743 c2743 c3743 q0 q1 q2 q3 q4 (q3 - q1) pp753 pp756 T756.heap ⟨xE757, xK757, xN757, xS757, xZ757⟩ ⟨yK758, yN758, yS758⟩ U743' pd756 (fun z => hne20 z.symm) (fun z => hne21 z.symm)  []) tw_17 tw_18 (ow_nf hw tw_20) tw_20 tw_19 tw_3 tw_21 (by decide) (allS ows_b729 (allS (Or.inr (Nat.le_trans (ow_le A727) g743_k)) (allS (Or.inr (Nat.le_trans (ow_le A727) g743_n)) (allS (Or.inr (Nat.le_trans (ow_le A727) g743_s)) all0)))) (by decide) (by decide) (ck' := 6) (sk' := 2058) rfl rfl (by decide) (by decide) rfl (lenOf pd_7 rfl) (S := []) rfl (W := 0) (Nat.le_of_eq rfl) at_150 rfl ?_
            intro T759 v759 K759 hQ759 A759
            obtain ⟨rfl, pp759, O759, O2759⟩ := hQ759
            show OwnWP _ _ _ _ _ _ _ _ _ T759 (mkF m 153 #[.val (.long q0), .second, .val (.long q1), .second, .val (.long q2), .second, .val (.long q3), .second, .val (.long q4), .second, .val (.int p5), .val (.int (3 : Int32)), .val (.long (q3 - q1)), .second, .val (.int (1 : Int32)), .val (.ref b674), .val (.ref b701), .val (.ref b729), .unset] [])
            obtain ⟨xE760, xK760, xN760, xS760, xZ760⟩ := O759
            obtain ⟨yK761, yN761, yS761⟩ := O2759
            refine ow_aload C A759 at_153 rfl rfl rfl ?_
            refine ow_iload C A759 at_155 rfl rfl ?_
            refine ow_callV C A759 (argsL := [(.int (1 : Int32))]) xE760 (rm_pf3_1 l Z a0 hw b729 kA743 nA743 sA743 c1743 c2743 c3743 q0 q1 q2 q3 q4 (q3 - q1) T759.heap (own_f3 pp753 pp756 pp759) ⟨xE760, xK760, xN760, xS760, xZ760⟩ ⟨yK761, yN761, yS761⟩ []) tw_38 tw_39 (ow_nf hw tw_41) tw_41 tw_40 tw_3 tw_42 (by decide) all0 (by decide) (by decide) (ck' := 7) (sk' := 2064) rfl rfl (by decide) (by decide) rfl (lenOf pd_4 rfl) (S := []) rfl (W := 0) (Nat.le_of_eq rfl) at_157 rfl ?_
            intro T762 v762 K762 hQ762 A762
            obtain ⟨rr762, kr762, rfl, yR762⟩ := hQ762
            show OwnWP _ _ _ _ _ _ _ _ _ T762 (mkF m 160 #[.val (.long q0), .second, .val (.long q1), .second, .val (.long q2), .second, .val (.long q3), .second, .val (.long q4), .second, .val (.int p5), .val (.int (3 : Int32)), .val (.long (q3 - q1)), .second, .val (.int (1 : Int32)), .val (.ref b674), .val (.ref b701), .val (.ref b729), .unset] [(.ref rr762)])
            refine ow_astore C A762 at_160 rfl (Ls' := #[.val (.long q0), .second, .val (.long q1), .second, .val (.long q2), .second, .val (.long q3), .second, .val (.long q4), .second, .val (.int p5), .val (.int (3 : Int32)), .val (.long (q3 - q1)), .second, .val (.int (1 : Int32)), .val (.ref b674), .val (.ref b701), .val (.ref b729), .val (.ref rr762)]) rfl rfl ?_
            refine ow_aload C A762 at_162 rfl rfl rfl ?_
            refine ow_alen C A762 yR762 at_164 rfl ?_
            refine ow_iconst C A762 at_165 (v := 2) rfl rfl ?_
            refine ow_iload C A762 at_166 rfl rfl ?_
            refine ow_iload C A762 at_168 rfl rfl ?_
            refine ow_isub C A762 at_170 rfl ?_
            show OwnWP _ _ _ _ _ _ _ _ _ T762 (mkF m 171 #[.val (.long q0), .second, .val (.long q1), .second, .val (.long q2), .second, .val (.long q3), .second, .val (.long q4), .second, .val (.int p5), .val (.int (3 : Int32)), .val (.long (q3 - q1)), .second, .val (.int (1 : Int32)), .val (.ref b674), .val (.ref b701), .val (.ref b729), .val (.ref rr762)] [(.int (2 : Int32)), (.int (2 : Int32)), (.int (4 : Int32))])
            refine ow_imul C A762 at_171 rfl ?_
            show OwnWP _ _ _ _ _ _ _ _ _ T762 (mkF m 172 #[.val (.long q0), .second, .val (.long q1), .second, .val (.long q2), .second, .val (.long q3), .second, .val (.long q4), .second, .val (.int p5), .val (.int (3 : Int32)), .val (.long (q3 - q1)), .second, .val (.int (1 : Int32)), .val (.ref b674), .val (.ref b701), .val (.ref b729), .val (.ref rr762)] [(.int (4 : Int32)), (.int (4 : Int32))])
            refine ow_icmp_eq C A762 at_172 (by decide) (pcY := 177) (by decide) (pcN := 175) rfl (fun _ => ?_) (fun zq => absurd (by decide) zq)
            refine ow_aload C A762 at_177 rfl rfl rfl ?_
            refine ow_aload C A762 at_179 rfl rfl rfl ?_
            refine ow_aload C A762 at_181 rfl rfl rfl ?_
            refine ow_iload C A762 at_183 rfl rfl ?_
            refine ow_iload C A762 at_185 rfl rfl ?_
            refine ow_iconst C A762 at_187 (v := 0) rfl rfl ?_
            have f763 := (((((f741.keep K743 (ninS ne735 nin0)).keep K753 (ninS ne735 (ninS ne747 (ninS ne749 (ninS ne751 nin0))))).keep K756 (ninS ne735 (ninS ne747 (ninS ne749 (ninS ne751 nin0))))).keep K759 (ninS ne735 (ninS ne747 (ninS ne749 (ninS ne751 nin0))))).keep K762 nin0)
            have f764 := (((((f742.keep K743 (ninS ne736 nin0)).keep K753 (ninS ne736 (ninS ne748 (ninS ne750 (ninS ne752 nin0))))).keep K756 (ninS ne736 (ninS ne748 (ninS ne750 (ninS ne752 nin0))))).keep K759 (ninS ne736 (ninS ne748 (ninS ne750 (ninS ne752 nin0))))).keep K762 nin0)
            refine ow_callS C A762 (argsL := [(.ref rr762), (.ref b674), (.ref b701), (.int (1 : Int32)), (.int (3 : Int32)), (.int (0 : Int32))]) (rm_at3_1_0 l Z a0 hw rr762 b674 b701 kr762 kk675 kk702 q0 q1 q2 q3 q4 (q3 - q1) T762.heap yR762 f763 f764 []) tw_43 tw_44 tw_45 tw_46 (by decide) all0 (by decide) (by decide) (ck' := 7) (sk' := 2064) rfl rfl (by decide) (by decide) rfl (lenOf pd_5 rfl) (S := []) rfl (W := 0) (Nat.le_of_eq rfl) at_188 rfl ?_
            intro T765 v765 K765 hQ765 A765
            obtain ⟨rfl, ee765⟩ := hQ765
            rw [ee765] at A765 K765
            show OwnWP _ _ _ _ _ _ _ _ _ T765 (mkF m 191 #[.val (.long q0), .second, .val (.long q1), .second, .val (.long q2), .second, .val (.long q3), .second, .val (.long q4), .second, .val (.int p5), .val (.int (3 : Int32)), .val (.long (q3 - q1)), .second, .val (.int (1 : Int32)), .val (.ref b674), .val (.ref b701), .val (.ref b729), .val (.ref rr762)] [(.int (1 : Int32))])
            refine ow_if_eq C A765 at_191 (by decide) (pcY := 242) (by decide) (pcN := 194) rfl (fun zq => absurd zq (by decide)) (fun _ => ?_)
            refine ow_aload C A765 at_194 rfl rfl rfl ?_
            refine ow_aload C A765 at_196 rfl rfl rfl ?_
            refine ow_aload C A765 at_198 rfl rfl rfl ?_
            refine ow_iload C A765 at_200 rfl rfl ?_
            refine ow_iload C A765 at_202 rfl rfl ?_
            refine ow_iconst C A765 at_204 (v := 1) rfl rfl ?_
            refine ow_callS C A765 (argsL := [(.ref rr762), (.ref b674), (.ref b701), (.int (1 : Int32)), (.int (3 : Int32)), (.int (1 : Int32))]) (rm_at3_1_1 l Z a0 hw rr762 b674 b701 kr762 kk675 kk702 q0 q1 q2 q3 q4 (q3 - q1) T762.heap yR762 f763 f764 []) tw_43 tw_44 tw_45 tw_46 (by decide) all0 (by decide) (by decide) (ck' := 7) (sk' := 2064) rfl rfl (by decide) (by decide) rfl (lenOf pd_5 rfl) (S := []) rfl (W := 0) (Nat.le_of_eq rfl) at_205 rfl ?_
            intro T766 v766 K766 hQ766 A766
            obtain ⟨rfl, ee766⟩ := hQ766
            rw [ee766] at A766 K766
            show OwnWP _ _ _ _ _ _ _ _ _ T766 (mkF m 208 #[.val (.long q0), .second, .val (.long q1), .second, .val (.long q2), .second, .val (.long q3), .second, .val (.long q4), .second, .val (.int p5), .val (.int (3 : Int32)), .val (.long (q3 - q1)), .second, .val (.int (1 : Int32)), .val (.ref b674), .val (.ref b701), .val (.ref b729), .val (.ref rr762)] [(.int (1 : Int32))])
            refine ow_if_eq C A766 at_208 (by decide) (pcY := 242) (by decide) (pcN := 211) rfl (fun zq => absurd zq (by decide)) (fun _ => ?_)
            refine ow_aload C A766 at_211 rfl rfl rfl ?_
            refine ow_aload C A766 at_213 rfl rfl rfl ?_
            refine ow_aload C A766 at_215 rfl rfl rfl ?_
            refine ow_iload C A766 at_217 rfl rfl ?_
            refine ow_iload C A766 at_219 rfl rfl ?_
            refine ow_iconst C A766 at_221 (v := 2) rfl rfl ?_
            refine ow_callS C A766 (argsL := [(.ref rr762), (.ref b674), (.ref b701), (.int (1 : Int32)), (.int (3 : Int32)), (.int (2 : Int32))]) (rm_at3_1_2 l Z a0 hw rr762 b674 b701 kr762 kk675 kk702 q0 q1 q2 q3 q4 (q3 - q1) T762.heap yR762 f763 f764 []) tw_43 tw_44 tw_45 tw_46 (by decide) all0 (by decide) (by decide) (ck' := 7) (sk' := 2064) rfl rfl (by decide) (by decide) rfl (lenOf pd_5 rfl) (S := []) rfl (W := 0) (Nat.le_of_eq rfl) at_222 rfl ?_
            intro T767 v767 K767 hQ767 A767
            obtain ⟨rfl, ee767⟩ := hQ767
            rw [ee767] at A767 K767
            show OwnWP _ _ _ _ _ _ _ _ _ T767 (mkF m 225 #[.val (.long q0), .second, .val (.long q1), .second, .val (.long q2), .second, .val (.long q3), .second, .val (.long q4), .second, .val (.int p5), .val (.int (3 : Int32)), .val (.long (q3 - q1)), .second, .val (.int (1 : Int32)), .val (.ref b674), .val (.ref b701), .val (.ref b729), .val (.ref rr762)] [(.int (1 : Int32))])
            refine ow_if_eq C A767 at_225 (by decide) (pcY := 242) (by decide) (pcN := 228) rfl (fun zq => absurd zq (by decide)) (fun _ => ?_)
            refine ow_aload C A767 at_228 rfl rfl rfl ?_
            have f768 := (xZ760.keep K762 nin0)
            have f770 := (xE760.keep K762)
            refine ow_callV C A767 (argsL := []) f770 (rm_size l Z a0 hw b729 (3 : Int32) T762.heap f768 []) tw_47 tw_48 (ow_nf hw tw_50) tw_50 tw_49 tw_3 tw_51 (by decide) all0 (by decide) (by decide) (ck' := 7) (sk' := 2064) rfl rfl (by decide) (by decide) rfl (lenOf pd_6 rfl) (S := []) rfl (W := 0) (Nat.le_of_eq rfl) at_230 rfl ?_
            intro T769 v769 K769 hQ769 A769
            obtain ⟨rfl, ee769⟩ := hQ769
            rw [ee769] at A769 K769
            show OwnWP _ _ _ _ _ _ _ _ _ T769 (mkF m 233 #[.val (.long q0), .second, .val (.long q1), .second, .val (.long q2), .second, .val (.long q3), .second, .val (.long q4), .second, .val (.int p5), .val (.int (3 : Int32)), .val (.long (q3 - q1)), .second, .val (.int (1 : Int32)), .val (.ref b674), .val (.ref b701), .val (.ref b729), .val (.ref rr762)] [(.int (3 : Int32))])
            refine ow_iload C A769 at_233 rfl rfl ?_
            refine ow_icmp_ne C A769 at_235 (by decide) (pcY := 242) (by decide) (pcN := 238) rfl (fun zq => absurd (by decide) zq) (fun _ => ?_)
            refine ow_iconst C A769 at_238 (v := 1) rfl rfl ?_
            refine ow_goto C A769 at_239 (by decide) (pc' := 243) (by decide) ?_
            refine ow_ireturn C A769 (t := .boolean) rfl rfl (by simp) at_243 (by decide) (by decide) ?_
            exact rfl
          · rw [hf]
            refine ow_istore C A0 at_61 (Ls' := #[.val (.long q0), .second, .val (.long q1), .second, .val (.long q2), .second, .val (.long q3), .second, .val (.long q4), .second, .val (.int p5), .val (.int (3 : Int32)), .val (.long (q3 - q1)), .second, .val (.int (2 : Int32)), .unset, .unset, .unset, .unset]) rfl rfl ?_
            refine ow_iconst C A0 at_63 (v := 3) rfl rfl ?_
            refine ow_newA C A0 (ty := .long) rfl tw_0 at_64 rfl (by decide) (cap := 3) (by decide) (by decide) (ck' := 1) (sk' := 3) rfl rfl (by decide) (by decide) ?_
            intro T771 h773 b774 kk775 g776 E777 V778 A772
            have ows_b774 : b774 ∈ ([] : List Addr) ∨ h0.size ≤ b774 := Or.inr (Nat.le_trans (ow_le A0) (Nat.le_of_eq g776.symm))
            have V779 : Arv Z h773 b774 kk775 .long (3 : Int32) [(.long (0 : Int64)), (.long (0 : Int64)), (.long (0 : Int64))] (.long (0 : Int64)) := V778.pad (pad_rep [] (.long (0 : Int64)) 3)
            refine ow_dup C A772 at_66 rfl rfl ?_
            refine ow_iconst C A772 at_67 (v := 0) rfl rfl ?_
            refine ow_lloadN C A772 at_68 rfl rfl ?_
            refine ow_lastore C A772 V779 ⟨by decide, by decide⟩ (i := 0) rfl (Nat.le_of_ble_eq_true rfl) ows_b774 at_69 rfl ?_
            intro T780 h782 W783 V784 A781
            have V785 : Arv Z h782 b774 kk775 .long (3 : Int32) [(.long q0), (.long (0 : Int64)), (.long (0 : Int64))] (.long (0 : Int64)) := V784
            refine ow_dup C A781 at_70 rfl rfl ?_
            refine ow_iconst C A781 at_71 (v := 1) rfl rfl ?_
            refine ow_lload C A781 at_72 rfl rfl ?_
            refine ow_lastore C A781 V785 ⟨by decide, by decide⟩ (i := 1) rfl (Nat.le_of_ble_eq_true rfl) ows_b774 at_74 rfl ?_
            intro T786 h788 W789 V790 A787
            have V791 : Arv Z h788 b774 kk775 .long (3 : Int32) [(.long q0), (.long q2), (.long (0 : Int64))] (.long (0 : Int64)) := V790
            refine ow_dup C A787 at_75 rfl rfl ?_
            refine ow_iconst C A787 at_76 (v := 2) rfl rfl ?_
            refine ow_lload C A787 at_77 rfl rfl ?_
            refine ow_lastore C A787 V791 ⟨by decide, by decide⟩ (i := 2) rfl (Nat.le_of_ble_eq_true rfl) ows_b774 at_79 rfl ?_
            intro T792 h794 W795 V796 A793
            have V797 : Arv Z h794 b774 kk775 .long (3 : Int32) [(.long q0), (.long q2), (.long q4)] (.long (0 : Int64)) := V796
            refine ow_astore C A793 at_80 rfl (Ls' := #[.val (.long q0), .second, .val (.long q1), .second, .val (.long q2), .second, .val (.long q3), .second, .val (.long q4), .second, .val (.int p5), .val (.int (3 : Int32)), .val (.long (q3 - q1)), .second, .val (.int (2 : Int32)), .val (.ref b774), .unset, .unset, .unset]) rfl rfl ?_
            refine ow_iconst C A793 at_82 (v := 3) rfl rfl ?_
            refine ow_newA C A793 (ty := .long) rfl tw_0 at_83 rfl (by decide) (cap := 3) (by decide) (by decide) (ck' := 2) (sk' := 6) rfl rfl (by decide) (by decide) ?_
            intro T798 h800 b801 kk802 g803 E804 V805 A799
            have ne806 : b774 ≠ b801 := Nat.ne_of_lt (Nat.lt_of_lt_of_le V797.lt (Nat.le_of_eq g803.symm))
            have ows_b801 : b801 ∈ ([] : List Addr) ∨ h0.size ≤ b801 := Or.inr (Nat.le_trans (ow_le A793) (Nat.le_of_eq g803.symm))
            have V807 : Arv Z h800 b801 kk802 .long (3 : Int32) [(.long (0 : Int64)), (.long (0 : Int64)), (.long (0 : Int64))] (.long (0 : Int64)) := V805.pad (pad_rep [] (.long (0 : Int64)) 3)
            refine ow_dup C A799 at_85 rfl rfl ?_
            refine ow_iconst C A799 at_86 (v := 0) rfl rfl ?_
            refine ow_lloadN C A799 at_87 rfl rfl ?_
            refine ow_lastore C A799 V807 ⟨by decide, by decide⟩ (i := 0) rfl (Nat.le_of_ble_eq_true rfl) ows_b801 at_88 rfl ?_
            intro T808 h810 W811 V812 A809
            have V813 : Arv Z h810 b801 kk802 .long (3 : Int32) [(.long q1), (.long (0 : Int64)), (.long (0 : Int64))] (.long (0 : Int64)) := V812
            refine ow_dup C A809 at_89 rfl rfl ?_
            refine ow_iconst C A809 at_90 (v := 1) rfl rfl ?_
            refine ow_lload C A809 at_91 rfl rfl ?_
            refine ow_lastore C A809 V813 ⟨by decide, by decide⟩ (i := 1) rfl (Nat.le_of_ble_eq_true rfl) ows_b801 at_93 rfl ?_
            intro T814 h816 W817 V818 A815
            have V819 : Arv Z h816 b801 kk802 .long (3 : Int32) [(.long q1), (.long q3), (.long (0 : Int64))] (.long (0 : Int64)) := V818
            refine ow_dup C A815 at_94 rfl rfl ?_
            refine ow_iconst C A815 at_95 (v := 2) rfl rfl ?_
            refine ow_lload C A815 at_96 rfl rfl ?_
            refine ow_lastore C A815 V819 ⟨by decide, by decide⟩ (i := 2) rfl (Nat.le_of_ble_eq_true rfl) ows_b801 at_98 rfl ?_
            intro T820 h822 W823 V824 A821
            have V825 : Arv Z h822 b801 kk802 .long (3 : Int32) [(.long q1), (.long q3), (.long (q3 - q1))] (.long (0 : Int64)) := V824
            refine ow_astore C A821 at_99 rfl (Ls' := #[.val (.long q0), .second, .val (.long q1), .second, .val (.long q2), .second, .val (.long q3), .second, .val (.long q4), .second, .val (.int p5), .val (.int (3 : Int32)), .val (.long (q3 - q1)), .second, .val (.int (2 : Int32)), .val (.ref b774), .val (.ref b801), .unset, .unset]) rfl rfl ?_
            refine ow_new C A821 tw_1 tw_2 tw_3 at_101 rfl (ck' := 3) (sk' := 10) rfl rfl (by decide) (by decide) ?_
            intro T826 h828 b829 g830 E831 X832 D833 A827
            have f834 := ((((V797.ext E804).other W811 ne806).other W817 ne806).other W823 ne806)
            have ne835 : b774 ≠ b829 := Nat.ne_of_lt (Nat.lt_of_lt_of_le f834.lt (Nat.le_of_eq g830.symm))
            have ne836 : b801 ≠ b829 := Nat.ne_of_lt (Nat.lt_of_lt_of_le V825.lt (Nat.le_of_eq g830.symm))
            have ows_b829 : b829 ∈ ([] : List Addr) ∨ h0.size ≤ b829 := Or.inr (Nat.le_trans (ow_le A821) (Nat.le_of_eq g830.symm))
            have f837 : Fld Z h828 b829 "com/example/ratebook/ratebook/journal/RecentKeys" "keys" "[J" .null := D833 (Or.inl (hw _ tw_11)) (ty := (.array .long)) (by decide)
            have f838 : Fld Z h828 b829 "com/example/ratebook/ratebook/journal/RecentKeys" "numbers" "[J" .null := D833 (Or.inl (hw _ tw_13)) (ty := (.array .long)) (by decide)
            have f839 : Fld Z h828 b829 "com/example/ratebook/ratebook/journal/RecentKeys" "slots" "[I" .null := D833 (Or.inl (hw _ tw_16)) (ty := (.array .int)) (by decide)
            have f840 : Fld Z h828 b829 "com/example/ratebook/ratebook/journal/RecentKeys" "size" "I" (.int (0 : Int32)) := D833 (Or.inl (hw _ tw_33)) (ty := .int) (by decide)
            refine ow_dup C A827 at_104 rfl rfl ?_
            have f841 := (f834.ext E831)
            have f842 := (V825.ext E831)
            refine ow_callI C A827 (argsL := []) (a := b829) (rm_init l Z a0 hw b829 h828 X832 f837 f838 f839 f840 []) rfl tw_4 tw_5 tw_3 tw_6 (by decide) (allS ows_b829 all0) (by decide) (by decide) (ck' := 6) (sk' := 2058) rfl rfl (by decide) (by decide) rfl (lenOf pd_3 rfl) (S := [(.ref b829)]) rfl (W := 1) (Nat.le_of_eq rfl) at_105 rfl ?_
            intro T843 v843 K843 hQ843 A843
            obtain ⟨rfl, kA843, nA843, sA843, c1843, c2843, c3843, O843, O2843, U843, g843_k, g843_n, g843_s⟩ := hQ843
            show OwnWP _ _ _ _ _ _ _ _ _ T843 (mkF m 108 #[.val (.long q0), .second, .val (.long q1), .second, .val (.long q2), .second, .val (.long q3), .second, .val (.long q4), .second, .val (.int p5), .val (.int (3 : Int32)), .val (.long (q3 - q1)), .second, .val (.int (2 : Int32)), .val (.ref b774), .val (.ref b801), .unset, .unset] [(.ref b829)])
            obtain ⟨xE844, xK844, xN844, xS844, xZ844⟩ := O843
            obtain ⟨yK845, yN845, yS845⟩ := O2843
            have U843' := U843
            obtain ⟨u846_0, u846_1, u846_2, u846_3, u846_4, u846_5⟩ := U843
            have ne847 : b774 ≠ kA843 := Nat.ne_of_lt (Nat.lt_of_lt_of_le f841.lt g843_k)
            have ne848 : b801 ≠ kA843 := Nat.ne_of_lt (Nat.lt_of_lt_of_le f842.lt g843_k)
            have ne849 : b774 ≠ nA843 := Nat.ne_of_lt (Nat.lt_of_lt_of_le f841.lt g843_n)
            have ne850 : b801 ≠ nA843 := Nat.ne_of_lt (Nat.lt_of_lt_of_le f842.lt g843_n)
            have ne851 : b774 ≠ sA843 := Nat.ne_of_lt (Nat.lt_of_lt_of_le f841.lt g843_s)
            have ne852 : b801 ≠ sA843 := Nat.ne_of_lt (Nat.lt_of_lt_of_le f842.lt g843_s)
            refine ow_astore C A843 at_108 rfl (Ls' := #[.val (.long q0), .second, .val (.long q1), .second, .val (.long q2), .second, .val (.long q3), .second, .val (.long q4), .second, .val (.int p5), .val (.int (3 : Int32)), .val (.long (q3 - q1)), .second, .val (.int (2 : Int32)), .val (.ref b774), .val (.ref b801), .val (.ref b829), .unset]) rfl rfl ?_
            refine ow_iload C A843 at_110 rfl rfl ?_
            refine ow_iconst C A843 at_112 (v := 1) rfl rfl ?_
            refine ow_icmp_lt C A843 at_113 (by decide) (pcY := 123) (by decide) (pcN := 116) rfl (fun zq => absurd zq (by decide)) (fun _ => ?_)
            refine ow_aload C A843 at_116 rfl rfl rfl ?_
            refine ow_lloadN C A843 at_118 rfl rfl ?_
            refine ow_lloadN C A843 at_119 rfl rfl ?_
            refine ow_callV C A843 (argsL := [(.long q0), (.long q1)]) xE844 (rm_add0 l Z a0 hw b829 kA843 nA843 sA843 c1843 c2843 c3843 q0 q1  T843.heap ⟨xE844, xK844, xN844, xS844, xZ844⟩ ⟨yK845, yN845, yS845⟩ U843'    []) tw_17 tw_18 (ow_nf hw tw_20) tw_20 tw_19 tw_3 tw_21 (by decide) (allS ows_b829 (allS (Or.inr (Nat.le_trans (ow_le A827) g843_k)) (allS (Or.inr (Nat.le_trans (ow_le A827) g843_n)) (allS (Or.inr (Nat.le_trans (ow_le A827) g843_s)) all0)))) (by decide) (by decide) (ck' := 6) (sk' := 2058) rfl rfl (by decide) (by decide) rfl (lenOf pd_7 rfl) (S := []) rfl (W := 0) (Nat.le_of_eq rfl) at_120 rfl ?_
            intro T853 v853 K853 hQ853 A853
            obtain ⟨rfl, pp853, O853, O2853⟩ := hQ853
            show OwnWP _ _ _ _ _ _ _ _ _ T853 (mkF m 123 #[.val (.long q0), .second, .val (.long q1), .second, .val (.long q2), .second, .val (.long q3), .second, .val (.long q4), .second, .val (.int p5), .val (.int (3 : Int32)), .val (.long (q3 - q1)), .second, .val (.int (2 : Int32)), .val (.ref b774), .val (.ref b801), .val (.ref b829), .unset] [])
            obtain ⟨xE854, xK854, xN854, xS854, xZ854⟩ := O853
            obtain ⟨yK855, yN855, yS855⟩ := O2853
            refine ow_iload C A853 at_123 rfl rfl ?_
            refine ow_iconst C A853 at_125 (v := 2) rfl rfl ?_
            refine ow_icmp_lt C A853 at_126 (by decide) (pcY := 138) (by decide) (pcN := 129) rfl (fun zq => absurd zq (by decide)) (fun _ => ?_)
            refine ow_aload C A853 at_129 rfl rfl rfl ?_
            refine ow_lload C A853 at_131 rfl rfl ?_
            refine ow_lload C A853 at_133 rfl rfl ?_
            refine ow_callV C A853 (argsL := [(.long q2), (.long q3)]) xE854 (rm_add1 l Z a0 hw b829 kA843 nA843 sA843 c1843 c2843 c3843 q0 q1 q2 q3 pp853 T853.heap ⟨xE854, xK854, xN854, xS854, xZ854⟩ ⟨yK855, yN855, yS855⟩ U843'  (fun z => hne10 z.symm)  []) tw_17 tw_18 (ow_nf hw tw_20) tw_20 tw_19 tw_3 tw_21 (by decide) (allS ows_b829 (allS (Or.inr (Nat.le_trans (ow_le A827) g843_k)) (allS (Or.inr (Nat.le_trans (ow_le A827) g843_n)) (allS (Or.inr (Nat.le_trans (ow_le A827) g843_s)) all0)))) (by decide) (by decide) (ck' := 6) (sk' := 2058) rfl rfl (by decide) (by decide) rfl (lenOf pd_7 rfl) (S := []) rfl (W := 0) (Nat.le_of_eq rfl) at_135 rfl ?_
            intro T856 v856 K856 hQ856 A856
            obtain ⟨rfl, pp856, pd856, O856, O2856⟩ := hQ856
            show OwnWP _ _ _ _ _ _ _ _ _ T856 (mkF m 138 #[.val (.long q0), .second, .val (.long q1), .second, .val (.long q2), .second, .val (.long q3), .second, .val (.long q4), .second, .val (.int p5), .val (.int (3 : Int32)), .val (.long (q3 - q1)), .second, .val (.int (2 : Int32)), .val (.ref b774), .val (.ref b801), .val (.ref b829), .unset] [])
            obtain ⟨xE857, xK857, xN857, xS857, xZ857⟩ := O856
            obtain ⟨yK858, yN858, yS858⟩ := O2856
            refine ow_iload C A856 at_138 rfl rfl ?_
            refine ow_iconst C A856 at_140 (v := 3) rfl rfl ?_
            refine ow_icmp_lt C A856 at_141 (by decide) (pcY := 153) (by decide) (pcN := 144) rfl (fun zq => absurd zq (by decide)) (fun _ => ?_)
            refine ow_aload C A856 at_144 rfl rfl rfl ?_
            refine ow_lload C A856 at_146 rfl rfl ?_
            refine ow_lload C A856 at_148 rfl rfl ?_
            refine ow_callV C A856 (argsL := [(.long q4), (.long (q3 - q1))]) xE857 (rm_add2 l Z a0 hw b829 kA843 nA843 sA843 c1843 c2843 c3843 q0 q1 q2 q3 q4 (q3 - q1) pp853 pp856 T856.heap ⟨xE857, xK857, xN857, xS857, xZ857⟩ ⟨yK858, yN858, yS858⟩ U843' pd856 (fun z => hne20 z.symm) (fun z => hne21 z.symm)  []) tw_17 tw_18 (ow_nf hw tw_20) tw_20 tw_19 tw_3 tw_21 (by decide) (allS ows_b829 (allS (Or.inr (Nat.le_trans (ow_le A827) g843_k)) (allS (Or.inr (Nat.le_trans (ow_le A827) g843_n)) (allS (Or.inr (Nat.le_trans (ow_le A827) g843_s)) all0)))) (by decide) (by decide) (ck' := 6) (sk' := 2058) rfl rfl (by decide) (by decide) rfl (lenOf pd_7 rfl) (S := []) rfl (W := 0) (Nat.le_of_eq rfl) at_150 rfl ?_
            intro T859 v859 K859 hQ859 A859
            obtain ⟨rfl, pp859, O859, O2859⟩ := hQ859
            show OwnWP _ _ _ _ _ _ _ _ _ T859 (mkF m 153 #[.val (.long q0), .second, .val (.long q1), .second, .val (.long q2), .second, .val (.long q3), .second, .val (.long q4), .second, .val (.int p5), .val (.int (3 : Int32)), .val (.long (q3 - q1)), .second, .val (.int (2 : Int32)), .val (.ref b774), .val (.ref b801), .val (.ref b829), .unset] [])
            obtain ⟨xE860, xK860, xN860, xS860, xZ860⟩ := O859
            obtain ⟨yK861, yN861, yS861⟩ := O2859
            refine ow_aload C A859 at_153 rfl rfl rfl ?_
            refine ow_iload C A859 at_155 rfl rfl ?_
            refine ow_callV C A859 (argsL := [(.int (2 : Int32))]) xE860 (rm_pf3_2 l Z a0 hw b829 kA843 nA843 sA843 c1843 c2843 c3843 q0 q1 q2 q3 q4 (q3 - q1) T859.heap (own_f3 pp853 pp856 pp859) ⟨xE860, xK860, xN860, xS860, xZ860⟩ ⟨yK861, yN861, yS861⟩ []) tw_38 tw_39 (ow_nf hw tw_41) tw_41 tw_40 tw_3 tw_42 (by decide) all0 (by decide) (by decide) (ck' := 7) (sk' := 2064) rfl rfl (by decide) (by decide) rfl (lenOf pd_4 rfl) (S := []) rfl (W := 0) (Nat.le_of_eq rfl) at_157 rfl ?_
            intro T862 v862 K862 hQ862 A862
            obtain ⟨rr862, kr862, rfl, yR862⟩ := hQ862
            show OwnWP _ _ _ _ _ _ _ _ _ T862 (mkF m 160 #[.val (.long q0), .second, .val (.long q1), .second, .val (.long q2), .second, .val (.long q3), .second, .val (.long q4), .second, .val (.int p5), .val (.int (3 : Int32)), .val (.long (q3 - q1)), .second, .val (.int (2 : Int32)), .val (.ref b774), .val (.ref b801), .val (.ref b829), .unset] [(.ref rr862)])
            refine ow_astore C A862 at_160 rfl (Ls' := #[.val (.long q0), .second, .val (.long q1), .second, .val (.long q2), .second, .val (.long q3), .second, .val (.long q4), .second, .val (.int p5), .val (.int (3 : Int32)), .val (.long (q3 - q1)), .second, .val (.int (2 : Int32)), .val (.ref b774), .val (.ref b801), .val (.ref b829), .val (.ref rr862)]) rfl rfl ?_
            refine ow_aload C A862 at_162 rfl rfl rfl ?_
            refine ow_alen C A862 yR862 at_164 rfl ?_
            refine ow_iconst C A862 at_165 (v := 2) rfl rfl ?_
            refine ow_iload C A862 at_166 rfl rfl ?_
            refine ow_iload C A862 at_168 rfl rfl ?_
            refine ow_isub C A862 at_170 rfl ?_
            show OwnWP _ _ _ _ _ _ _ _ _ T862 (mkF m 171 #[.val (.long q0), .second, .val (.long q1), .second, .val (.long q2), .second, .val (.long q3), .second, .val (.long q4), .second, .val (.int p5), .val (.int (3 : Int32)), .val (.long (q3 - q1)), .second, .val (.int (2 : Int32)), .val (.ref b774), .val (.ref b801), .val (.ref b829), .val (.ref rr862)] [(.int (1 : Int32)), (.int (2 : Int32)), (.int (2 : Int32))])
            refine ow_imul C A862 at_171 rfl ?_
            show OwnWP _ _ _ _ _ _ _ _ _ T862 (mkF m 172 #[.val (.long q0), .second, .val (.long q1), .second, .val (.long q2), .second, .val (.long q3), .second, .val (.long q4), .second, .val (.int p5), .val (.int (3 : Int32)), .val (.long (q3 - q1)), .second, .val (.int (2 : Int32)), .val (.ref b774), .val (.ref b801), .val (.ref b829), .val (.ref rr862)] [(.int (2 : Int32)), (.int (2 : Int32))])
            refine ow_icmp_eq C A862 at_172 (by decide) (pcY := 177) (by decide) (pcN := 175) rfl (fun _ => ?_) (fun zq => absurd (by decide) zq)
            refine ow_aload C A862 at_177 rfl rfl rfl ?_
            refine ow_aload C A862 at_179 rfl rfl rfl ?_
            refine ow_aload C A862 at_181 rfl rfl rfl ?_
            refine ow_iload C A862 at_183 rfl rfl ?_
            refine ow_iload C A862 at_185 rfl rfl ?_
            refine ow_iconst C A862 at_187 (v := 0) rfl rfl ?_
            have f863 := (((((f841.keep K843 (ninS ne835 nin0)).keep K853 (ninS ne835 (ninS ne847 (ninS ne849 (ninS ne851 nin0))))).keep K856 (ninS ne835 (ninS ne847 (ninS ne849 (ninS ne851 nin0))))).keep K859 (ninS ne835 (ninS ne847 (ninS ne849 (ninS ne851 nin0))))).keep K862 nin0)
            have f864 := (((((f842.keep K843 (ninS ne836 nin0)).keep K853 (ninS ne836 (ninS ne848 (ninS ne850 (ninS ne852 nin0))))).keep K856 (ninS ne836 (ninS ne848 (ninS ne850 (ninS ne852 nin0))))).keep K859 (ninS ne836 (ninS ne848 (ninS ne850 (ninS ne852 nin0))))).keep K862 nin0)
            refine ow_callS C A862 (argsL := [(.ref rr862), (.ref b774), (.ref b801), (.int (2 : Int32)), (.int (3 : Int32)), (.int (0 : Int32))]) (rm_at3_2_0 l Z a0 hw rr862 b774 b801 kr862 kk775 kk802 q0 q1 q2 q3 q4 (q3 - q1) T862.heap yR862 f863 f864 []) tw_43 tw_44 tw_45 tw_46 (by decide) all0 (by decide) (by decide) (ck' := 7) (sk' := 2064) rfl rfl (by decide) (by decide) rfl (lenOf pd_5 rfl) (S := []) rfl (W := 0) (Nat.le_of_eq rfl) at_188 rfl ?_
            intro T865 v865 K865 hQ865 A865
            obtain ⟨rfl, ee865⟩ := hQ865
            rw [ee865] at A865 K865
            show OwnWP _ _ _ _ _ _ _ _ _ T865 (mkF m 191 #[.val (.long q0), .second, .val (.long q1), .second, .val (.long q2), .second, .val (.long q3), .second, .val (.long q4), .second, .val (.int p5), .val (.int (3 : Int32)), .val (.long (q3 - q1)), .second, .val (.int (2 : Int32)), .val (.ref b774), .val (.ref b801), .val (.ref b829), .val (.ref rr862)] [(.int (1 : Int32))])
            refine ow_if_eq C A865 at_191 (by decide) (pcY := 242) (by decide) (pcN := 194) rfl (fun zq => absurd zq (by decide)) (fun _ => ?_)
            refine ow_aload C A865 at_194 rfl rfl rfl ?_
            refine ow_aload C A865 at_196 rfl rfl rfl ?_
            refine ow_aload C A865 at_198 rfl rfl rfl ?_
            refine ow_iload C A865 at_200 rfl rfl ?_
            refine ow_iload C A865 at_202 rfl rfl ?_
            refine ow_iconst C A865 at_204 (v := 1) rfl rfl ?_
            refine ow_callS C A865 (argsL := [(.ref rr862), (.ref b774), (.ref b801), (.int (2 : Int32)), (.int (3 : Int32)), (.int (1 : Int32))]) (rm_at3_2_1 l Z a0 hw rr862 b774 b801 kr862 kk775 kk802 q0 q1 q2 q3 q4 (q3 - q1) T862.heap yR862 f863 f864 []) tw_43 tw_44 tw_45 tw_46 (by decide) all0 (by decide) (by decide) (ck' := 7) (sk' := 2064) rfl rfl (by decide) (by decide) rfl (lenOf pd_5 rfl) (S := []) rfl (W := 0) (Nat.le_of_eq rfl) at_205 rfl ?_
            intro T866 v866 K866 hQ866 A866
            obtain ⟨rfl, ee866⟩ := hQ866
            rw [ee866] at A866 K866
            show OwnWP _ _ _ _ _ _ _ _ _ T866 (mkF m 208 #[.val (.long q0), .second, .val (.long q1), .second, .val (.long q2), .second, .val (.long q3), .second, .val (.long q4), .second, .val (.int p5), .val (.int (3 : Int32)), .val (.long (q3 - q1)), .second, .val (.int (2 : Int32)), .val (.ref b774), .val (.ref b801), .val (.ref b829), .val (.ref rr862)] [(.int (1 : Int32))])
            refine ow_if_eq C A866 at_208 (by decide) (pcY := 242) (by decide) (pcN := 211) rfl (fun zq => absurd zq (by decide)) (fun _ => ?_)
            refine ow_aload C A866 at_211 rfl rfl rfl ?_
            refine ow_aload C A866 at_213 rfl rfl rfl ?_
            refine ow_aload C A866 at_215 rfl rfl rfl ?_
            refine ow_iload C A866 at_217 rfl rfl ?_
            refine ow_iload C A866 at_219 rfl rfl ?_
            refine ow_iconst C A866 at_221 (v := 2) rfl rfl ?_
            refine ow_callS C A866 (argsL := [(.ref rr862), (.ref b774), (.ref b801), (.int (2 : Int32)), (.int (3 : Int32)), (.int (2 : Int32))]) (rm_at3_2_2 l Z a0 hw rr862 b774 b801 kr862 kk775 kk802 q0 q1 q2 q3 q4 (q3 - q1) T862.heap yR862 f863 f864 []) tw_43 tw_44 tw_45 tw_46 (by decide) all0 (by decide) (by decide) (ck' := 7) (sk' := 2064) rfl rfl (by decide) (by decide) rfl (lenOf pd_5 rfl) (S := []) rfl (W := 0) (Nat.le_of_eq rfl) at_222 rfl ?_
            intro T867 v867 K867 hQ867 A867
            obtain ⟨rfl, ee867⟩ := hQ867
            rw [ee867] at A867 K867
            show OwnWP _ _ _ _ _ _ _ _ _ T867 (mkF m 225 #[.val (.long q0), .second, .val (.long q1), .second, .val (.long q2), .second, .val (.long q3), .second, .val (.long q4), .second, .val (.int p5), .val (.int (3 : Int32)), .val (.long (q3 - q1)), .second, .val (.int (2 : Int32)), .val (.ref b774), .val (.ref b801), .val (.ref b829), .val (.ref rr862)] [(.int (1 : Int32))])
            refine ow_if_eq C A867 at_225 (by decide) (pcY := 242) (by decide) (pcN := 228) rfl (fun zq => absurd zq (by decide)) (fun _ => ?_)
            refine ow_aload C A867 at_228 rfl rfl rfl ?_
            have f868 := (xZ860.keep K862 nin0)
            have f870 := (xE860.keep K862)
            refine ow_callV C A867 (argsL := []) f870 (rm_size l Z a0 hw b829 (3 : Int32) T862.heap f868 []) tw_47 tw_48 (ow_nf hw tw_50) tw_50 tw_49 tw_3 tw_51 (by decide) all0 (by decide) (by decide) (ck' := 7) (sk' := 2064) rfl rfl (by decide) (by decide) rfl (lenOf pd_6 rfl) (S := []) rfl (W := 0) (Nat.le_of_eq rfl) at_230 rfl ?_
            intro T869 v869 K869 hQ869 A869
            obtain ⟨rfl, ee869⟩ := hQ869
            rw [ee869] at A869 K869
            show OwnWP _ _ _ _ _ _ _ _ _ T869 (mkF m 233 #[.val (.long q0), .second, .val (.long q1), .second, .val (.long q2), .second, .val (.long q3), .second, .val (.long q4), .second, .val (.int p5), .val (.int (3 : Int32)), .val (.long (q3 - q1)), .second, .val (.int (2 : Int32)), .val (.ref b774), .val (.ref b801), .val (.ref b829), .val (.ref rr862)] [(.int (3 : Int32))])
            refine ow_iload C A869 at_233 rfl rfl ?_
            refine ow_icmp_ne C A869 at_235 (by decide) (pcY := 242) (by decide) (pcN := 238) rfl (fun zq => absurd (by decide) zq) (fun _ => ?_)
            refine ow_iconst C A869 at_238 (v := 1) rfl rfl ?_
            refine ow_goto C A869 at_239 (by decide) (pc' := 243) (by decide) ?_
            refine ow_ireturn C A869 (t := .boolean) rfl rfl (by simp) at_243 (by decide) (by decide) ?_
            exact rfl
          · rw [hf]
            refine ow_istore C A0 at_61 (Ls' := #[.val (.long q0), .second, .val (.long q1), .second, .val (.long q2), .second, .val (.long q3), .second, .val (.long q4), .second, .val (.int p5), .val (.int (3 : Int32)), .val (.long (q3 - q1)), .second, .val (.int (3 : Int32)), .unset, .unset, .unset, .unset]) rfl rfl ?_
            refine ow_iconst C A0 at_63 (v := 3) rfl rfl ?_
            refine ow_newA C A0 (ty := .long) rfl tw_0 at_64 rfl (by decide) (cap := 3) (by decide) (by decide) (ck' := 1) (sk' := 3) rfl rfl (by decide) (by decide) ?_
            intro T871 h873 b874 kk875 g876 E877 V878 A872
            have ows_b874 : b874 ∈ ([] : List Addr) ∨ h0.size ≤ b874 := Or.inr (Nat.le_trans (ow_le A0) (Nat.le_of_eq g876.symm))
            have V879 : Arv Z h873 b874 kk875 .long (3 : Int32) [(.long (0 : Int64)), (.long (0 : Int64)), (.long (0 : Int64))] (.long (0 : Int64)) := V878.pad (pad_rep [] (.long (0 : Int64)) 3)
            refine ow_dup C A872 at_66 rfl rfl ?_
            refine ow_iconst C A872 at_67 (v := 0) rfl rfl ?_
            refine ow_lloadN C A872 at_68 rfl rfl ?_
            refine ow_lastore C A872 V879 ⟨by decide, by decide⟩ (i := 0) rfl (Nat.le_of_ble_eq_true rfl) ows_b874 at_69 rfl ?_
            intro T880 h882 W883 V884 A881
            have V885 : Arv Z h882 b874 kk875 .long (3 : Int32) [(.long q0), (.long (0 : Int64)), (.long (0 : Int64))] (.long (0 : Int64)) := V884
            refine ow_dup C A881 at_70 rfl rfl ?_
            refine ow_iconst C A881 at_71 (v := 1) rfl rfl ?_
            refine ow_lload C A881 at_72 rfl rfl ?_
            refine ow_lastore C A881 V885 ⟨by decide, by decide⟩ (i := 1) rfl (Nat.le_of_ble_eq_true rfl) ows_b874 at_74 rfl ?_
            intro T886 h888 W889 V890 A887
            have V891 : Arv Z h888 b874 kk875 .long (3 : Int32) [(.long q0), (.long q2), (.long (0 : Int64))] (.long (0 : Int64)) := V890
            refine ow_dup C A887 at_75 rfl rfl ?_
            refine ow_iconst C A887 at_76 (v := 2) rfl rfl ?_
            refine ow_lload C A887 at_77 rfl rfl ?_
            refine ow_lastore C A887 V891 ⟨by decide, by decide⟩ (i := 2) rfl (Nat.le_of_ble_eq_true rfl) ows_b874 at_79 rfl ?_
            intro T892 h894 W895 V896 A893
            have V897 : Arv Z h894 b874 kk875 .long (3 : Int32) [(.long q0), (.long q2), (.long q4)] (.long (0 : Int64)) := V896
            refine ow_astore C A893 at_80 rfl (Ls' := #[.val (.long q0), .second, .val (.long q1), .second, .val (.long q2), .second, .val (.long q3), .second, .val (.long q4), .second, .val (.int p5), .val (.int (3 : Int32)), .val (.long (q3 - q1)), .second, .val (.int (3 : Int32)), .val (.ref b874), .unset, .unset, .unset]) rfl rfl ?_
            refine ow_iconst C A893 at_82 (v := 3) rfl rfl ?_
            refine ow_newA C A893 (ty := .long) rfl tw_0 at_83 rfl (by decide) (cap := 3) (by decide) (by decide) (ck' := 2) (sk' := 6) rfl rfl (by decide) (by decide) ?_
            intro T898 h900 b901 kk902 g903 E904 V905 A899
            have ne906 : b874 ≠ b901 := Nat.ne_of_lt (Nat.lt_of_lt_of_le V897.lt (Nat.le_of_eq g903.symm))
            have ows_b901 : b901 ∈ ([] : List Addr) ∨ h0.size ≤ b901 := Or.inr (Nat.le_trans (ow_le A893) (Nat.le_of_eq g903.symm))
            have V907 : Arv Z h900 b901 kk902 .long (3 : Int32) [(.long (0 : Int64)), (.long (0 : Int64)), (.long (0 : Int64))] (.long (0 : Int64)) := V905.pad (pad_rep [] (.long (0 : Int64)) 3)
            refine ow_dup C A899 at_85 rfl rfl ?_
            refine ow_iconst C A899 at_86 (v := 0) rfl rfl ?_
            refine ow_lloadN C A899 at_87 rfl rfl ?_
            refine ow_lastore C A899 V907 ⟨by decide, by decide⟩ (i := 0) rfl (Nat.le_of_ble_eq_true rfl) ows_b901 at_88 rfl ?_
            intro T908 h910 W911 V912 A909
            have V913 : Arv Z h910 b901 kk902 .long (3 : Int32) [(.long q1), (.long (0 : Int64)), (.long (0 : Int64))] (.long (0 : Int64)) := V912
            refine ow_dup C A909 at_89 rfl rfl ?_
            refine ow_iconst C A909 at_90 (v := 1) rfl rfl ?_
            refine ow_lload C A909 at_91 rfl rfl ?_
            refine ow_lastore C A909 V913 ⟨by decide, by decide⟩ (i := 1) rfl (Nat.le_of_ble_eq_true rfl) ows_b901 at_93 rfl ?_
            intro T914 h916 W917 V918 A915
            have V919 : Arv Z h916 b901 kk902 .long (3 : Int32) [(.long q1), (.long q3), (.long (0 : Int64))] (.long (0 : Int64)) := V918
            refine ow_dup C A915 at_94 rfl rfl ?_
            refine ow_iconst C A915 at_95 (v := 2) rfl rfl ?_
            refine ow_lload C A915 at_96 rfl rfl ?_
            refine ow_lastore C A915 V919 ⟨by decide, by decide⟩ (i := 2) rfl (Nat.le_of_ble_eq_true rfl) ows_b901 at_98 rfl ?_
            intro T920 h922 W923 V924 A921
            have V925 : Arv Z h922 b901 kk902 .long (3 : Int32) [(.long q1), (.long q3), (.long (q3 - q1))] (.long (0 : Int64)) := V924
            refine ow_astore C A921 at_99 rfl (Ls' := #[.val (.long q0), .second, .val (.long q1), .second, .val (.long q2), .second, .val (.long q3), .second, .val (.long q4), .second, .val (.int p5), .val (.int (3 : Int32)), .val (.long (q3 - q1)), .second, .val (.int (3 : Int32)), .val (.ref b874), .val (.ref b901), .unset, .unset]) rfl rfl ?_
            refine ow_new C A921 tw_1 tw_2 tw_3 at_101 rfl (ck' := 3) (sk' := 10) rfl rfl (by decide) (by decide) ?_
            intro T926 h928 b929 g930 E931 X932 D933 A927
            have f934 := ((((V897.ext E904).other W911 ne906).other W917 ne906).other W923 ne906)
            have ne935 : b874 ≠ b929 := Nat.ne_of_lt (Nat.lt_of_lt_of_le f934.lt (Nat.le_of_eq g930.symm))
            have ne936 : b901 ≠ b929 := Nat.ne_of_lt (Nat.lt_of_lt_of_le V925.lt (Nat.le_of_eq g930.symm))
            have ows_b929 : b929 ∈ ([] : List Addr) ∨ h0.size ≤ b929 := Or.inr (Nat.le_trans (ow_le A921) (Nat.le_of_eq g930.symm))
            have f937 : Fld Z h928 b929 "com/example/ratebook/ratebook/journal/RecentKeys" "keys" "[J" .null := D933 (Or.inl (hw _ tw_11)) (ty := (.array .long)) (by decide)
            have f938 : Fld Z h928 b929 "com/example/ratebook/ratebook/journal/RecentKeys" "numbers" "[J" .null := D933 (Or.inl (hw _ tw_13)) (ty := (.array .long)) (by decide)
            have f939 : Fld Z h928 b929 "com/example/ratebook/ratebook/journal/RecentKeys" "slots" "[I" .null := D933 (Or.inl (hw _ tw_16)) (ty := (.array .int)) (by decide)
            have f940 : Fld Z h928 b929 "com/example/ratebook/ratebook/journal/RecentKeys" "size" "I" (.int (0 : Int32)) := D933 (Or.inl (hw _ tw_33)) (ty := .int) (by decide)
            refine ow_dup C A927 at_104 rfl rfl ?_
            have f941 := (f934.ext E931)
            have f942 := (V925.ext E931)
            refine ow_callI C A927 (argsL := []) (a := b929) (rm_init l Z a0 hw b929 h928 X932 f937 f938 f939 f940 []) rfl tw_4 tw_5 tw_3 tw_6 (by decide) (allS ows_b929 all0) (by decide) (by decide) (ck' := 6) (sk' := 2058) rfl rfl (by decide) (by decide) rfl (lenOf pd_3 rfl) (S := [(.ref b929)]) rfl (W := 1) (Nat.le_of_eq rfl) at_105 rfl ?_
            intro T943 v943 K943 hQ943 A943
            obtain ⟨rfl, kA943, nA943, sA943, c1943, c2943, c3943, O943, O2943, U943, g943_k, g943_n, g943_s⟩ := hQ943
            show OwnWP _ _ _ _ _ _ _ _ _ T943 (mkF m 108 #[.val (.long q0), .second, .val (.long q1), .second, .val (.long q2), .second, .val (.long q3), .second, .val (.long q4), .second, .val (.int p5), .val (.int (3 : Int32)), .val (.long (q3 - q1)), .second, .val (.int (3 : Int32)), .val (.ref b874), .val (.ref b901), .unset, .unset] [(.ref b929)])
            obtain ⟨xE944, xK944, xN944, xS944, xZ944⟩ := O943
            obtain ⟨yK945, yN945, yS945⟩ := O2943
            have U943' := U943
            obtain ⟨u946_0, u946_1, u946_2, u946_3, u946_4, u946_5⟩ := U943
            have ne947 : b874 ≠ kA943 := Nat.ne_of_lt (Nat.lt_of_lt_of_le f941.lt g943_k)
            have ne948 : b901 ≠ kA943 := Nat.ne_of_lt (Nat.lt_of_lt_of_le f942.lt g943_k)
            have ne949 : b874 ≠ nA943 := Nat.ne_of_lt (Nat.lt_of_lt_of_le f941.lt g943_n)
            have ne950 : b901 ≠ nA943 := Nat.ne_of_lt (Nat.lt_of_lt_of_le f942.lt g943_n)
            have ne951 : b874 ≠ sA943 := Nat.ne_of_lt (Nat.lt_of_lt_of_le f941.lt g943_s)
            have ne952 : b901 ≠ sA943 := Nat.ne_of_lt (Nat.lt_of_lt_of_le f942.lt g943_s)
            refine ow_astore C A943 at_108 rfl (Ls' := #[.val (.long q0), .second, .val (.long q1), .second, .val (.long q2), .second, .val (.long q3), .second, .val (.long q4), .second, .val (.int p5), .val (.int (3 : Int32)), .val (.long (q3 - q1)), .second, .val (.int (3 : Int32)), .val (.ref b874), .val (.ref b901), .val (.ref b929), .unset]) rfl rfl ?_
            refine ow_iload C A943 at_110 rfl rfl ?_
            refine ow_iconst C A943 at_112 (v := 1) rfl rfl ?_
            refine ow_icmp_lt C A943 at_113 (by decide) (pcY := 123) (by decide) (pcN := 116) rfl (fun zq => absurd zq (by decide)) (fun _ => ?_)
            refine ow_aload C A943 at_116 rfl rfl rfl ?_
            refine ow_lloadN C A943 at_118 rfl rfl ?_
            refine ow_lloadN C A943 at_119 rfl rfl ?_
            refine ow_callV C A943 (argsL := [(.long q0), (.long q1)]) xE944 (rm_add0 l Z a0 hw b929 kA943 nA943 sA943 c1943 c2943 c3943 q0 q1  T943.heap ⟨xE944, xK944, xN944, xS944, xZ944⟩ ⟨yK945, yN945, yS945⟩ U943'    []) tw_17 tw_18 (ow_nf hw tw_20) tw_20 tw_19 tw_3 tw_21 (by decide) (allS ows_b929 (allS (Or.inr (Nat.le_trans (ow_le A927) g943_k)) (allS (Or.inr (Nat.le_trans (ow_le A927) g943_n)) (allS (Or.inr (Nat.le_trans (ow_le A927) g943_s)) all0)))) (by decide) (by decide) (ck' := 6) (sk' := 2058) rfl rfl (by decide) (by decide) rfl (lenOf pd_7 rfl) (S := []) rfl (W := 0) (Nat.le_of_eq rfl) at_120 rfl ?_
            intro T953 v953 K953 hQ953 A953
            obtain ⟨rfl, pp953, O953, O2953⟩ := hQ953
            show OwnWP _ _ _ _ _ _ _ _ _ T953 (mkF m 123 #[.val (.long q0), .second, .val (.long q1), .second, .val (.long q2), .second, .val (.long q3), .second, .val (.long q4), .second, .val (.int p5), .val (.int (3 : Int32)), .val (.long (q3 - q1)), .second, .val (.int (3 : Int32)), .val (.ref b874), .val (.ref b901), .val (.ref b929), .unset] [])
            obtain ⟨xE954, xK954, xN954, xS954, xZ954⟩ := O953
            obtain ⟨yK955, yN955, yS955⟩ := O2953
            refine ow_iload C A953 at_123 rfl rfl ?_
            refine ow_iconst C A953 at_125 (v := 2) rfl rfl ?_
            refine ow_icmp_lt C A953 at_126 (by decide) (pcY := 138) (by decide) (pcN := 129) rfl (fun zq => absurd zq (by decide)) (fun _ => ?_)
            refine ow_aload C A953 at_129 rfl rfl rfl ?_
            refine ow_lload C A953 at_131 rfl rfl ?_
            refine ow_lload C A953 at_133 rfl rfl ?_
            refine ow_callV C A953 (argsL := [(.long q2), (.long q3)]) xE954 (rm_add1 l Z a0 hw b929 kA943 nA943 sA943 c1943 c2943 c3943 q0 q1 q2 q3 pp953 T953.heap ⟨xE954, xK954, xN954, xS954, xZ954⟩ ⟨yK955, yN955, yS955⟩ U943'  (fun z => hne10 z.symm)  []) tw_17 tw_18 (ow_nf hw tw_20) tw_20 tw_19 tw_3 tw_21 (by decide) (allS ows_b929 (allS (Or.inr (Nat.le_trans (ow_le A927) g943_k)) (allS (Or.inr (Nat.le_trans (ow_le A927) g943_n)) (allS (Or.inr (Nat.le_trans (ow_le A927) g943_s)) all0)))) (by decide) (by decide) (ck' := 6) (sk' := 2058) rfl rfl (by decide) (by decide) rfl (lenOf pd_7 rfl) (S := []) rfl (W := 0) (Nat.le_of_eq rfl) at_135 rfl ?_
            intro T956 v956 K956 hQ956 A956
            obtain ⟨rfl, pp956, pd956, O956, O2956⟩ := hQ956
            show OwnWP _ _ _ _ _ _ _ _ _ T956 (mkF m 138 #[.val (.long q0), .second, .val (.long q1), .second, .val (.long q2), .second, .val (.long q3), .second, .val (.long q4), .second, .val (.int p5), .val (.int (3 : Int32)), .val (.long (q3 - q1)), .second, .val (.int (3 : Int32)), .val (.ref b874), .val (.ref b901), .val (.ref b929), .unset] [])
            obtain ⟨xE957, xK957, xN957, xS957, xZ957⟩ := O956
            obtain ⟨yK958, yN958, yS958⟩ := O2956
            refine ow_iload C A956 at_138 rfl rfl ?_
            refine ow_iconst C A956 at_140 (v := 3) rfl rfl ?_
            refine ow_icmp_lt C A956 at_141 (by decide) (pcY := 153) (by decide) (pcN := 144) rfl (fun zq => absurd zq (by decide)) (fun _ => ?_)
            refine ow_aload C A956 at_144 rfl rfl rfl ?_
            refine ow_lload C A956 at_146 rfl rfl ?_
            refine ow_lload C A956 at_148 rfl rfl ?_
            refine ow_callV C A956 (argsL := [(.long q4), (.long (q3 - q1))]) xE957 (rm_add2 l Z a0 hw b929 kA943 nA943 sA943 c1943 c2943 c3943 q0 q1 q2 q3 q4 (q3 - q1) pp953 pp956 T956.heap ⟨xE957, xK957, xN957, xS957, xZ957⟩ ⟨yK958, yN958, yS958⟩ U943' pd956 (fun z => hne20 z.symm) (fun z => hne21 z.symm)  []) tw_17 tw_18 (ow_nf hw tw_20) tw_20 tw_19 tw_3 tw_21 (by decide) (allS ows_b929 (allS (Or.inr (Nat.le_trans (ow_le A927) g943_k)) (allS (Or.inr (Nat.le_trans (ow_le A927) g943_n)) (allS (Or.inr (Nat.le_trans (ow_le A927) g943_s)) all0)))) (by decide) (by decide) (ck' := 6) (sk' := 2058) rfl rfl (by decide) (by decide) rfl (lenOf pd_7 rfl) (S := []) rfl (W := 0) (Nat.le_of_eq rfl) at_150 rfl ?_
            intro T959 v959 K959 hQ959 A959
            obtain ⟨rfl, pp959, O959, O2959⟩ := hQ959
            show OwnWP _ _ _ _ _ _ _ _ _ T959 (mkF m 153 #[.val (.long q0), .second, .val (.long q1), .second, .val (.long q2), .second, .val (.long q3), .second, .val (.long q4), .second, .val (.int p5), .val (.int (3 : Int32)), .val (.long (q3 - q1)), .second, .val (.int (3 : Int32)), .val (.ref b874), .val (.ref b901), .val (.ref b929), .unset] [])
            obtain ⟨xE960, xK960, xN960, xS960, xZ960⟩ := O959
            obtain ⟨yK961, yN961, yS961⟩ := O2959
            refine ow_aload C A959 at_153 rfl rfl rfl ?_
            refine ow_iload C A959 at_155 rfl rfl ?_
            refine ow_callV C A959 (argsL := [(.int (3 : Int32))]) xE960 (rm_pf3_3 l Z a0 hw b929 kA943 nA943 sA943 c1943 c2943 c3943 q0 q1 q2 q3 q4 (q3 - q1) T959.heap (own_f3 pp953 pp956 pp959) ⟨xE960, xK960, xN960, xS960, xZ960⟩ ⟨yK961, yN961, yS961⟩ []) tw_38 tw_39 (ow_nf hw tw_41) tw_41 tw_40 tw_3 tw_42 (by decide) all0 (by decide) (by decide) (ck' := 7) (sk' := 2064) rfl rfl (by decide) (by decide) rfl (lenOf pd_4 rfl) (S := []) rfl (W := 0) (Nat.le_of_eq rfl) at_157 rfl ?_
            intro T962 v962 K962 hQ962 A962
            obtain ⟨rr962, kr962, rfl, yR962⟩ := hQ962
            show OwnWP _ _ _ _ _ _ _ _ _ T962 (mkF m 160 #[.val (.long q0), .second, .val (.long q1), .second, .val (.long q2), .second, .val (.long q3), .second, .val (.long q4), .second, .val (.int p5), .val (.int (3 : Int32)), .val (.long (q3 - q1)), .second, .val (.int (3 : Int32)), .val (.ref b874), .val (.ref b901), .val (.ref b929), .unset] [(.ref rr962)])
            refine ow_astore C A962 at_160 rfl (Ls' := #[.val (.long q0), .second, .val (.long q1), .second, .val (.long q2), .second, .val (.long q3), .second, .val (.long q4), .second, .val (.int p5), .val (.int (3 : Int32)), .val (.long (q3 - q1)), .second, .val (.int (3 : Int32)), .val (.ref b874), .val (.ref b901), .val (.ref b929), .val (.ref rr962)]) rfl rfl ?_
            refine ow_aload C A962 at_162 rfl rfl rfl ?_
            refine ow_alen C A962 yR962 at_164 rfl ?_
            refine ow_iconst C A962 at_165 (v := 2) rfl rfl ?_
            refine ow_iload C A962 at_166 rfl rfl ?_
            refine ow_iload C A962 at_168 rfl rfl ?_
            refine ow_isub C A962 at_170 rfl ?_
            show OwnWP _ _ _ _ _ _ _ _ _ T962 (mkF m 171 #[.val (.long q0), .second, .val (.long q1), .second, .val (.long q2), .second, .val (.long q3), .second, .val (.long q4), .second, .val (.int p5), .val (.int (3 : Int32)), .val (.long (q3 - q1)), .second, .val (.int (3 : Int32)), .val (.ref b874), .val (.ref b901), .val (.ref b929), .val (.ref rr962)] [(.int (0 : Int32)), (.int (2 : Int32)), (.int (0 : Int32))])
            refine ow_imul C A962 at_171 rfl ?_
            show OwnWP _ _ _ _ _ _ _ _ _ T962 (mkF m 172 #[.val (.long q0), .second, .val (.long q1), .second, .val (.long q2), .second, .val (.long q3), .second, .val (.long q4), .second, .val (.int p5), .val (.int (3 : Int32)), .val (.long (q3 - q1)), .second, .val (.int (3 : Int32)), .val (.ref b874), .val (.ref b901), .val (.ref b929), .val (.ref rr962)] [(.int (0 : Int32)), (.int (0 : Int32))])
            refine ow_icmp_eq C A962 at_172 (by decide) (pcY := 177) (by decide) (pcN := 175) rfl (fun _ => ?_) (fun zq => absurd (by decide) zq)
            refine ow_aload C A962 at_177 rfl rfl rfl ?_
            refine ow_aload C A962 at_179 rfl rfl rfl ?_
            refine ow_aload C A962 at_181 rfl rfl rfl ?_
            refine ow_iload C A962 at_183 rfl rfl ?_
            refine ow_iload C A962 at_185 rfl rfl ?_
            refine ow_iconst C A962 at_187 (v := 0) rfl rfl ?_
            have f963 := (((((f941.keep K943 (ninS ne935 nin0)).keep K953 (ninS ne935 (ninS ne947 (ninS ne949 (ninS ne951 nin0))))).keep K956 (ninS ne935 (ninS ne947 (ninS ne949 (ninS ne951 nin0))))).keep K959 (ninS ne935 (ninS ne947 (ninS ne949 (ninS ne951 nin0))))).keep K962 nin0)
            have f964 := (((((f942.keep K943 (ninS ne936 nin0)).keep K953 (ninS ne936 (ninS ne948 (ninS ne950 (ninS ne952 nin0))))).keep K956 (ninS ne936 (ninS ne948 (ninS ne950 (ninS ne952 nin0))))).keep K959 (ninS ne936 (ninS ne948 (ninS ne950 (ninS ne952 nin0))))).keep K962 nin0)
            refine ow_callS C A962 (argsL := [(.ref rr962), (.ref b874), (.ref b901), (.int (3 : Int32)), (.int (3 : Int32)), (.int (0 : Int32))]) (rm_at3_3_0 l Z a0 hw rr962 b874 b901 kr962 kk875 kk902 q0 q1 q2 q3 q4 (q3 - q1) T962.heap yR962 f963 f964 []) tw_43 tw_44 tw_45 tw_46 (by decide) all0 (by decide) (by decide) (ck' := 7) (sk' := 2064) rfl rfl (by decide) (by decide) rfl (lenOf pd_5 rfl) (S := []) rfl (W := 0) (Nat.le_of_eq rfl) at_188 rfl ?_
            intro T965 v965 K965 hQ965 A965
            obtain ⟨rfl, ee965⟩ := hQ965
            rw [ee965] at A965 K965
            show OwnWP _ _ _ _ _ _ _ _ _ T965 (mkF m 191 #[.val (.long q0), .second, .val (.long q1), .second, .val (.long q2), .second, .val (.long q3), .second, .val (.long q4), .second, .val (.int p5), .val (.int (3 : Int32)), .val (.long (q3 - q1)), .second, .val (.int (3 : Int32)), .val (.ref b874), .val (.ref b901), .val (.ref b929), .val (.ref rr962)] [(.int (1 : Int32))])
            refine ow_if_eq C A965 at_191 (by decide) (pcY := 242) (by decide) (pcN := 194) rfl (fun zq => absurd zq (by decide)) (fun _ => ?_)
            refine ow_aload C A965 at_194 rfl rfl rfl ?_
            refine ow_aload C A965 at_196 rfl rfl rfl ?_
            refine ow_aload C A965 at_198 rfl rfl rfl ?_
            refine ow_iload C A965 at_200 rfl rfl ?_
            refine ow_iload C A965 at_202 rfl rfl ?_
            refine ow_iconst C A965 at_204 (v := 1) rfl rfl ?_
            refine ow_callS C A965 (argsL := [(.ref rr962), (.ref b874), (.ref b901), (.int (3 : Int32)), (.int (3 : Int32)), (.int (1 : Int32))]) (rm_at3_3_1 l Z a0 hw rr962 b874 b901 kr962 kk875 kk902 q0 q1 q2 q3 q4 (q3 - q1) T962.heap yR962 f963 f964 []) tw_43 tw_44 tw_45 tw_46 (by decide) all0 (by decide) (by decide) (ck' := 7) (sk' := 2064) rfl rfl (by decide) (by decide) rfl (lenOf pd_5 rfl) (S := []) rfl (W := 0) (Nat.le_of_eq rfl) at_205 rfl ?_
            intro T966 v966 K966 hQ966 A966
            obtain ⟨rfl, ee966⟩ := hQ966
            rw [ee966] at A966 K966
            show OwnWP _ _ _ _ _ _ _ _ _ T966 (mkF m 208 #[.val (.long q0), .second, .val (.long q1), .second, .val (.long q2), .second, .val (.long q3), .second, .val (.long q4), .second, .val (.int p5), .val (.int (3 : Int32)), .val (.long (q3 - q1)), .second, .val (.int (3 : Int32)), .val (.ref b874), .val (.ref b901), .val (.ref b929), .val (.ref rr962)] [(.int (1 : Int32))])
            refine ow_if_eq C A966 at_208 (by decide) (pcY := 242) (by decide) (pcN := 211) rfl (fun zq => absurd zq (by decide)) (fun _ => ?_)
            refine ow_aload C A966 at_211 rfl rfl rfl ?_
            refine ow_aload C A966 at_213 rfl rfl rfl ?_
            refine ow_aload C A966 at_215 rfl rfl rfl ?_
            refine ow_iload C A966 at_217 rfl rfl ?_
            refine ow_iload C A966 at_219 rfl rfl ?_
            refine ow_iconst C A966 at_221 (v := 2) rfl rfl ?_
            refine ow_callS C A966 (argsL := [(.ref rr962), (.ref b874), (.ref b901), (.int (3 : Int32)), (.int (3 : Int32)), (.int (2 : Int32))]) (rm_at3_3_2 l Z a0 hw rr962 b874 b901 kr962 kk875 kk902 q0 q1 q2 q3 q4 (q3 - q1) T962.heap yR962 f963 f964 []) tw_43 tw_44 tw_45 tw_46 (by decide) all0 (by decide) (by decide) (ck' := 7) (sk' := 2064) rfl rfl (by decide) (by decide) rfl (lenOf pd_5 rfl) (S := []) rfl (W := 0) (Nat.le_of_eq rfl) at_222 rfl ?_
            intro T967 v967 K967 hQ967 A967
            obtain ⟨rfl, ee967⟩ := hQ967
            rw [ee967] at A967 K967
            show OwnWP _ _ _ _ _ _ _ _ _ T967 (mkF m 225 #[.val (.long q0), .second, .val (.long q1), .second, .val (.long q2), .second, .val (.long q3), .second, .val (.long q4), .second, .val (.int p5), .val (.int (3 : Int32)), .val (.long (q3 - q1)), .second, .val (.int (3 : Int32)), .val (.ref b874), .val (.ref b901), .val (.ref b929), .val (.ref rr962)] [(.int (1 : Int32))])
            refine ow_if_eq C A967 at_225 (by decide) (pcY := 242) (by decide) (pcN := 228) rfl (fun zq => absurd zq (by decide)) (fun _ => ?_)
            refine ow_aload C A967 at_228 rfl rfl rfl ?_
            have f968 := (xZ960.keep K962 nin0)
            have f970 := (xE960.keep K962)
            refine ow_callV C A967 (argsL := []) f970 (rm_size l Z a0 hw b929 (3 : Int32) T962.heap f968 []) tw_47 tw_48 (ow_nf hw tw_50) tw_50 tw_49 tw_3 tw_51 (by decide) all0 (by decide) (by decide) (ck' := 7) (sk' := 2064) rfl rfl (by decide) (by decide) rfl (lenOf pd_6 rfl) (S := []) rfl (W := 0) (Nat.le_of_eq rfl) at_230 rfl ?_
            intro T969 v969 K969 hQ969 A969
            obtain ⟨rfl, ee969⟩ := hQ969
            rw [ee969] at A969 K969
            show OwnWP _ _ _ _ _ _ _ _ _ T969 (mkF m 233 #[.val (.long q0), .second, .val (.long q1), .second, .val (.long q2), .second, .val (.long q3), .second, .val (.long q4), .second, .val (.int p5), .val (.int (3 : Int32)), .val (.long (q3 - q1)), .second, .val (.int (3 : Int32)), .val (.ref b874), .val (.ref b901), .val (.ref b929), .val (.ref rr962)] [(.int (3 : Int32))])
            refine ow_iload C A969 at_233 rfl rfl ?_
            refine ow_icmp_ne C A969 at_235 (by decide) (pcY := 242) (by decide) (pcN := 238) rfl (fun zq => absurd (by decide) zq) (fun _ => ?_)
            refine ow_iconst C A969 at_238 (v := 1) rfl rfl ?_
            refine ow_goto C A969 at_239 (by decide) (pc' := 243) (by decide) ?_
            refine ow_ireturn C A969 (t := .boolean) rfl rfl (by simp) at_243 (by decide) (by decide) ?_
            exact rfl
        · skip
          refine ow_iconst C A0 at_48 (v := 1) rfl rfl ?_
          refine ow_ireturn C A0 (t := .boolean) rfl rfl (by simp) at_49 (by decide) (by decide) ?_
          exact rfl
    · skip
      refine ow_iconst C A0 at_25 (v := 1) rfl rfl ?_
      refine ow_ireturn C A0 (t := .boolean) rfl rfl (by simp) at_26 (by decide) (by decide) ?_
      exact rfl
set_option maxRecDepth 65536 in
set_option maxHeartbeats 40000000 in
theorem comes_1 {Post : Tables → Env → Array Value → State → Outcome → State → Prop} (hpost : ∀ tb e args s v u, (limb_1_1.after args s (.returned v) u = true ∧ limb_1_2.after args s (.returned v) u = true ∧ True) → FrameEnd s (.returned v) u (Jvm.fieldLocs frame_1_writes args s ++ Jvm.arrayLocs frame_1_arrays args s ++ Jvm.staticLocs frame_1_statics s) 24 4224 → Post tb e args s (.returned v) u) :
    ArmFor flags0 classFile x code maxLocals ret World_1 tables_1 room_1 Calls_1 rest_1 Pre_1 Post := by
  intro l hfl _ _ p e ha hc hk s m args below hf hA hF happ hP
  obtain ⟨hcalls, hrest, hpre⟩ := hP
  obtain ⟨-, -, -, hnamed, -, -, -, hat⟩ := (Spec.applies_iff hf).mp happ
  obtain ⟨hg, hn⟩ := and_e (Cond.before_iff.mp (show (Jvm.Cond.and given_1 narrow_1).before args s = true from hpre))
  obtain ⟨gg1, gg2⟩ := and_e hg
  obtain ⟨gg3, gg4⟩ := and_e gg2
  obtain ⟨gg5, gg6⟩ := and_e gg4
  obtain ⟨gg7, gg8⟩ := and_e gg6
  obtain ⟨gg9, gg10⟩ := and_e gg8
  obtain ⟨gg11, gg12⟩ := and_e gg10
  obtain ⟨w0, w1, w2, w3, w4, w5, rfl⟩ : ∃ w0 w1 w2 w3 w4 w5 : Value, args = #[w0, w1, w2, w3, w4, w5] := by
    have hs : args.size = 6 := by simpa [Cond.value, given_1] using gg1
    obtain ⟨L⟩ := args
    match L, hs with
    | [w0, w1, w2, w3, w4, w5], _ => exact ⟨w0, w1, w2, w3, w4, w5, rfl⟩
  have hw := fun d (hd : d ∈ tables_1) => atoms_spec (ws := Jvm.Cond.code x code maxLocals ret :: tables_1) hat d (List.mem_cons_of_mem _ hd)
  have hfit : Fit s := fun {y c} hc i hi => by
    obtain ⟨ha, rfl⟩ := Array.getElem?_eq_some_iff.mp hc
    have q := List.all_eq_true.mp ((Array.all_eq_true_iff_forall_mem.mp hF) _ (Array.getElem_mem ha)) i (List.mem_range.mpr hi)
    simpa [Array.getElem?_eq_getElem hi] using q
  obtain ⟨i0, ei0⟩ := isL_v gg3
  obtain rfl : w0 = (.long i0) := Option.some.inj ei0
  obtain ⟨i1, ei1⟩ := isL_v gg5
  obtain rfl : w1 = (.long i1) := Option.some.inj ei1
  obtain ⟨i2, ei2⟩ := isL_v gg7
  obtain rfl : w2 = (.long i2) := Option.some.inj ei2
  obtain ⟨i3, ei3⟩ := isL_v gg9
  obtain rfl : w3 = (.long i3) := Option.some.inj ei3
  obtain ⟨i4, ei4⟩ := isL_v gg11
  obtain rfl : w4 = (.long i4) := Option.some.inj ei4
  obtain ⟨i5, ei5⟩ := is_v gg12
  obtain rfl : w5 = (.int i5) := Option.some.inj ei5
  obtain ⟨n, o, h1, h2, h3, _, L, rfl, ⟨N, -, rfl⟩, hq⟩ := rm0 l s _ hw i0 i1 i2 i3 i4 i5 s.heap  tables_1 p e ha hc hk s m _ below hf ((Spec.applies_iff_loose hf).mp happ).1 ⟨rfl, State.Warmed39.refl s, rfl⟩ trivial
  refine ⟨n, _, h1, h2, h3, hpost _ _ _ _ _ _ ⟨Cond.after_iff.mpr rfl, Cond.after_iff.mpr (eq_i res_at (Term.int_eval (1)) rfl), trivial⟩ ⟨hq.1, hq.2.1, (hq.2.2.sift fun y hy => Or.inr ((N y hy).elim (fun q => nomatch q) id)).mono (by decide) (by decide)⟩⟩
theorem main_1_1 : Claimed_1_1 := comes_1 fun _ _ _ _ _ _ h hF => ⟨h.1, hF⟩
theorem main_1_2 : Claimed_1_2 := comes_1 fun _ _ _ _ _ _ h hF => ⟨h.2.1, hF⟩
end Jvm.Pilot.@@N@@
namespace Jvm.Pilot.@@N@@
open Jvm Jvm.ClassFile Sem Op Lib Jvm.Free Jvm.Stand Jvm.Pilot.@@N@@.Jvm.D
/-! MADE BY PROGRAM (witnessworld.py) out of the Statement's table words and the real class files: 11 classes; the members and pool entries that the words name. The judged class is class 1, her method 1. -/
namespace start1
open Jvm.ClassFile
def u (s : String) : CpInfo := .utf8 (stringToUtf16 s)
/-- a pool by its gaps: so many unusable entries, then the entry; so many at the end -/
def gap : Nat → List CpInfo → List CpInfo
  | 0, r => r
  | n + 1, r => .unusable :: gap n r
def poolList (es : List (Nat × CpInfo)) (last : Nat) : List CpInfo := es.foldr (fun e r => gap e.1 (e.2 :: r)) (gap last [])
def pool (es : List (Nat × CpInfo)) (last : Nat) : Array CpInfo := ⟨poolList es last⟩
def fileOf (pool : Array CpInfo) (this : Nat) (attrs : Array Attribute := #[]) (ms : Array MethodInfo := #[]) (fl : Nat := 33) (sup : Nat := 0) (ifs : Array Nat := #[]) (fds : Array FieldInfo := #[]) : ClassFile where
  minorVersion := 0
  majorVersion := 65
  constantPool := pool
  accessFlags := fl
  thisClass := this
  superClass := sup
  interfaces := ifs
  fields := fds
  methods := ms
  attributes := attrs
def plain (name : String) (sup : Option ClassId) : Class where
  name := name
  kind := .ordinary
  loader := none
  accessFlags := 33
  super := sup
  interfaces := #[]
  cf := none
  fields := #[]
  methods := #[]
  instanceTypes := #[]
  staticTypes := #[]
  resolved := #[]
  callSites := []
  init := .initialized
  statics := none
  mirror := none

def pool0 : Array CpInfo := pool [(5, u "<init>"), (0, u "()V"), (1, .class_ 10), (1, u "java/lang/Object")] 113

def k0c0 : Code := { maxStack := 0, maxLocals := 1, code := object_method_1_code, exceptionTable := #[], attributes := #[] }
def k0m0 : Method := { name := "<init>", desc := "()V", sig := { parameters := [], returnType := none }, accessFlags := 1, code := some k0c0 }
/-- java/lang/Object -/
def k0 : Class := { plain "java/lang/Object" none with
  accessFlags := 33
  interfaces := #[]
  cf := some (fileOf pool0 8 #[] #[{ accessFlags := 1, nameIndex := 5, descriptorIndex := 6, attributes := #[] }] 33 0 #[] #[])
  fields := #[]
  methods := #[k0m0]
  instanceTypes := #[]
  staticTypes := #[]
  resolved := Array.replicate 124 none
  statics := none }

def pool1 : Array CpInfo := pool [(2, .class_ 4), (0, .nameAndType 5 6), (0, u "java/lang/Object"), (0, u "<init>"), (0, u "()V"), (0, .class_ 8), (0, u "com/example/ratebook/ratebook/journal/RecentKeys"), (0, .methodref 7 3), (0, .methodref 7 11), (0, .nameAndType 12 13), (0, u "add"), (0, u "(JJ)V"), (0, .methodref 7 15), (0, .nameAndType 16 17), (0, u "pairsFrom"), (0, u "(I)[J"), (0, .methodref 19 20), (0, .class_ 21), (0, .nameAndType 22 23), (0, u "com/example/ratebook/ratebook/journal/RecentKeysPairsFromPinLaw"), (0, u "at"), (0, u "([J[J[JIII)Z"), (0, .methodref 7 25), (0, .nameAndType 26 27), (0, u "size"), (0, u "()I"), (2, u "law"), (0, u "(JJJJJI)Z")] 5

def k1m0 : Method := { name := "<init>", desc := "()V", sig := { parameters := [], returnType := none }, accessFlags := 1, code := none }
def k1c1 : Code := { maxStack := 6, maxLocals := 19, code := code, exceptionTable := #[], attributes := #[] }
def k1m1 : Method := { name := "law", desc := "(JJJJJI)Z", sig := { parameters := [.long, .long, .long, .long, .long, .int], returnType := some .boolean }, accessFlags := 9, code := some k1c1 }
def k1c2 : Code := { maxStack := 4, maxLocals := 7, code := method_3_code, exceptionTable := #[], attributes := #[] }
def k1m2 : Method := { name := "at", desc := "([J[J[JIII)Z", sig := { parameters := [(.array .long), (.array .long), (.array .long), .int, .int, .int], returnType := some .boolean }, accessFlags := 10, code := some k1c2 }
/-- com/example/ratebook/ratebook/journal/RecentKeysPairsFromPinLaw -/
def k1 : Class := { plain "com/example/ratebook/ratebook/journal/RecentKeysPairsFromPinLaw" (some 0) with
  accessFlags := 49
  interfaces := #[]
  cf := some (fileOf pool1 19 #[] #[{ accessFlags := 1, nameIndex := 5, descriptorIndex := 6, attributes := #[] }, { accessFlags := 9, nameIndex := 30, descriptorIndex := 31, attributes := #[] }, { accessFlags := 10, nameIndex := 22, descriptorIndex := 23, attributes := #[] }] 49 2 #[] #[])
  fields := #[]
  methods := #[k1m0, k1m1, k1m2]
  instanceTypes := #[]
  staticTypes := #[]
  resolved := Array.replicate 37 none
  statics := none }

def pool2 : Array CpInfo := pool [(1, .methodref 2 3), (0, .class_ 4), (0, .nameAndType 5 6), (0, u "java/lang/Object"), (0, u "<init>"), (0, u "()V"), (0, .class_ 8), (0, u "com/example/ratebook/ratebook/journal/RecentKeys"), (0, .fieldref 7 10), (0, .nameAndType 11 12), (0, u "keys"), (0, u "[J"), (0, .fieldref 7 14), (0, .nameAndType 15 12), (0, u "numbers"), (0, .fieldref 7 17), (0, .nameAndType 18 19), (0, u "slots"), (0, u "[I"), (0, .fieldref 7 21), (0, .nameAndType 22 23), (0, u "size"), (0, u "I"), (0, .methodref 7 25), (0, .nameAndType 26 27), (0, u "slotOf"), (0, u "(JI)I"), (0, .long 18446744073709551615), (1, .methodref 7 31), (0, .nameAndType 32 33), (0, u "number"), (0, u "(J)J"), (15, .methodref 7 50), (0, .nameAndType 51 52), (0, u "place"), (0, u "(I)V"), (4, .long 11400714819323198485), (1, u "FIRST_SLOTS"), (4, u "()I"), (1, u "add"), (0, u "(JJ)V"), (0, u "pairsFrom"), (0, u "(I)[J")] 20

def k2c0 : Code := { maxStack := 2, maxLocals := 1, code := prog_11_method_1_code, exceptionTable := #[], attributes := #[] }
def k2m0 : Method := { name := "<init>", desc := "()V", sig := { parameters := [], returnType := none }, accessFlags := 0, code := some k2c0 }
def k2c1 : Code := { maxStack := 1, maxLocals := 1, code := prog_11_method_2_code, exceptionTable := #[], attributes := #[] }
def k2m1 : Method := { name := "size", desc := "()I", sig := { parameters := [], returnType := some .int }, accessFlags := 0, code := some k2c1 }
def k2c2 : Code := { maxStack := 4, maxLocals := 6, code := prog_11_method_3_code, exceptionTable := #[], attributes := #[] }
def k2m2 : Method := { name := "number", desc := "(J)J", sig := { parameters := [.long], returnType := some .long }, accessFlags := 0, code := some k2c2 }
def k2c3 : Code := { maxStack := 5, maxLocals := 6, code := prog_11_method_4_code, exceptionTable := #[], attributes := #[] }
def k2m3 : Method := { name := "add", desc := "(JJ)V", sig := { parameters := [.long, .long], returnType := none }, accessFlags := 0, code := some k2c3 }
def k2c4 : Code := { maxStack := 4, maxLocals := 4, code := prog_11_method_5_code, exceptionTable := #[], attributes := #[] }
def k2m4 : Method := { name := "pairsFrom", desc := "(I)[J", sig := { parameters := [.int], returnType := some (.array .long) }, accessFlags := 0, code := some k2c4 }
def k2c5 : Code := { maxStack := 4, maxLocals := 4, code := prog_11_method_7_code, exceptionTable := #[], attributes := #[] }
def k2m5 : Method := { name := "place", desc := "(I)V", sig := { parameters := [.int], returnType := none }, accessFlags := 2, code := some k2c5 }
def k2c6 : Code := { maxStack := 4, maxLocals := 3, code := prog_11_method_8_code, exceptionTable := #[], attributes := #[] }
def k2m6 : Method := { name := "slotOf", desc := "(JI)I", sig := { parameters := [.long, .int], returnType := some .int }, accessFlags := 10, code := some k2c6 }
/-- com/example/ratebook/ratebook/journal/RecentKeys -/
def k2 : Class := { plain "com/example/ratebook/ratebook/journal/RecentKeys" (some 0) with
  accessFlags := 48
  interfaces := #[]
  cf := some (fileOf pool2 7 #[] #[{ accessFlags := 0, nameIndex := 5, descriptorIndex := 6, attributes := #[] }, { accessFlags := 0, nameIndex := 22, descriptorIndex := 64, attributes := #[] }, { accessFlags := 0, nameIndex := 32, descriptorIndex := 33, attributes := #[] }, { accessFlags := 0, nameIndex := 66, descriptorIndex := 67, attributes := #[] }, { accessFlags := 0, nameIndex := 68, descriptorIndex := 69, attributes := #[] }, { accessFlags := 2, nameIndex := 51, descriptorIndex := 52, attributes := #[] }, { accessFlags := 10, nameIndex := 26, descriptorIndex := 27, attributes := #[] }] 48 2 #[] #[{ accessFlags := 26, nameIndex := 59, descriptorIndex := 23, attributes := #[] }, { accessFlags := 2, nameIndex := 11, descriptorIndex := 12, attributes := #[] }, { accessFlags := 2, nameIndex := 15, descriptorIndex := 12, attributes := #[] }, { accessFlags := 2, nameIndex := 22, descriptorIndex := 23, attributes := #[] }, { accessFlags := 2, nameIndex := 18, descriptorIndex := 19, attributes := #[] }])
  fields := #[{ name := "FIRST_SLOTS", type := .int, accessFlags := 26, slot := 0, constantValue := 0 }, { name := "keys", type := (.array .long), accessFlags := 2, slot := 0, constantValue := 0 }, { name := "numbers", type := (.array .long), accessFlags := 2, slot := 1, constantValue := 0 }, { name := "size", type := .int, accessFlags := 2, slot := 2, constantValue := 0 }, { name := "slots", type := (.array .int), accessFlags := 2, slot := 3, constantValue := 0 }]
  methods := #[k2m0, k2m1, k2m2, k2m3, k2m4, k2m5, k2m6]
  instanceTypes := #[(.array .long), (.array .long), .int, (.array .int)]
  staticTypes := #[.int]
  resolved := Array.replicate 90 none
  statics := none }

def pool3 : Array CpInfo := pool [(1, u "java/lang/Cloneable"), (0, .class_ 1), (0, u "java/lang/Object"), (0, .class_ 3)] 3

/-- java/lang/Cloneable -/
def k3 : Class := { plain "java/lang/Cloneable" (some 0) with
  accessFlags := 1537
  interfaces := #[]
  cf := some (fileOf pool3 2 #[] #[] 1537 4 #[] #[])
  fields := #[]
  methods := #[]
  instanceTypes := #[]
  staticTypes := #[]
  resolved := Array.replicate 8 none
  statics := none }

def pool4 : Array CpInfo := pool [(1, u "java/io/Serializable"), (0, .class_ 1), (0, u "java/lang/Object"), (0, .class_ 3)] 3

/-- java/io/Serializable -/
def k4 : Class := { plain "java/io/Serializable" (some 0) with
  accessFlags := 1537
  interfaces := #[]
  cf := some (fileOf pool4 2 #[] #[] 1537 4 #[] #[])
  fields := #[]
  methods := #[]
  instanceTypes := #[]
  staticTypes := #[]
  resolved := Array.replicate 8 none
  statics := none }

/-- the primitive byte -/
def k5 : Class := { plain "byte" none with kind := .primitive 'B', accessFlags := 0x411 }
/-- [B -/
def k6 : Class := { plain "[B" (some 0) with kind := .array 5 .byte, interfaces := #[3, 4], accessFlags := 1041 }

/-- the primitive int -/
def k7 : Class := { plain "int" none with kind := .primitive 'I', accessFlags := 0x411 }
/-- [I -/
def k8 : Class := { plain "[I" (some 0) with kind := .array 7 .int, interfaces := #[3, 4], accessFlags := 1041 }

/-- the primitive long -/
def k9 : Class := { plain "long" none with kind := .primitive 'J', accessFlags := 0x411 }
/-- [J -/
def k10 : Class := { plain "[J" (some 0) with kind := .array 9 .long, interfaces := #[3, 4], accessFlags := 1041 }

def heap : Heap := #[]
def classes : Array Class := #[k0, k1, k2, k3, k4, k5, k6, k7, k8, k9, k10]
def interned : List (Array UInt16 × Addr) := []
def slotsUsed : Nat := 0
def theMethod : MethodId := ⟨1, 1⟩
def args0 : Array Value := #[.long 5, .long 5, .long 5, .long 5, .long 5, .int 5]
def aboutOver (below : List Frame) : State where
  vm := { classes := classes, interned := interned.toArray }
  heap := heap
  slotsUsed := slotsUsed
  threads := #[{ frames := .invoking theMethod args0 :: below }]
def below0 : List Frame := [.native { method := ⟨0, 0⟩, args := #[] }]
def about1 : State := aboutOver below0
def p0 : Program := .bare "" "" ""
def e0 : Env := launch0.env 0 0 0
theorem w_frames : about1.frames = Frame.invoking theMethod args0 :: below0 := rfl
set_option maxRecDepth 65536 in
theorem w_args : argsFit about1.vm theMethod args0 = true := by decide +kernel
set_option maxRecDepth 65536 in
theorem w_heap : heapFits about1 = true := by decide +kernel
set_option maxRecDepth 65536 in
theorem w_runnable : about1.curStatus? = some .runnable := by decide +kernel
set_option maxRecDepth 65536 in
theorem w_alone : about1.alone = true := by decide +kernel
set_option maxRecDepth 65536 in
theorem w_named : about1.methodNamed? x = some theMethod := by decide +kernel
set_option maxRecDepth 65536 in
theorem w_hears : about1.hears theMethod below0 = true := by decide +kernel
set_option maxRecDepth 65536 in
theorem w_ripe : about1.ripe theMethod args0 below0 = true := by decide +kernel
theorem w_running : about1.status = .running := rfl
set_option maxRecDepth 65536 in
theorem w_room : about1.hasRoom e0.platform room_1 = true :=
  launch0.hasRoom_least _ room_1 (by decide +kernel) (by decide +kernel) (by decide +kernel) (by decide +kernel) (by decide +kernel) (by decide +kernel)
theorem allAtoms_all (ts : List Jvm.Cond) (a : Array Jvm.Value) (st : Jvm.State) : (allAtoms ts).before a st = ts.all (fun c => c.before a st) := by
  induction ts with
  | nil => rfl
  | cons c t ih =>
    show (Jvm.Cond.and c (allAtoms t)).before a st = _
    rw [Jvm.Cond.before_and, ih, List.all_cons]
def words1 : List Jvm.Cond := Jvm.Cond.code x code maxLocals ret :: tables_1
/-- a 'code' word, met by the world's own term for the bytes: nothing is compared byte by byte -/
theorem code_word {y : MethodName} {bytes : ByteArray} {mx : Nat} {rt : Option FieldType} {a : Array Value} {s : State} {m : MethodId} {meth : Method} {c : Code} (h1 : s.methodNamed? y = some m) (h2 : s.vm.method? m = some meth) (h3 : meth.code = some c) (h4 : c.code = bytes)
    (h5 : (c.maxLocals == mx && c.exceptionTable.isEmpty && decide (c.maxStack ≤ mostOperands) && decide (meth.sig.returnType = rt) && !meth.locks && decide (parseMethodDescriptor y.desc = some meth.sig)) = true) : (Jvm.Cond.code y bytes mx rt).before a s = true := by
  simp only [Bool.and_eq_true, beq_iff_eq, Bool.not_eq_true', decide_eq_true_eq] at h5
  obtain ⟨⟨⟨⟨⟨g1, g2⟩, g3⟩, g4⟩, g5⟩, g6⟩ := h5
  simp [Cond.before, Cond.holds, Cond.value, h1, h2, h3, h4, g1, g2, g3, g4, g5, g6]
def isCode : Jvm.Cond → Bool
  | .code _ _ _ _ => true
  | _ => false
theorem all_split {L : List Jvm.Cond} {P : Jvm.Cond → Bool} (h1 : L.all (fun c => isCode c || P c) = true) (h2 : ∀ c ∈ L.filter isCode, P c = true) : L.all P = true := by
  refine List.all_eq_true.mpr fun c hc => ?_
  have h := List.all_eq_true.mp h1 c hc
  rcases Bool.eq_false_or_eq_true (isCode c) with hi | hi
  · exact h2 c (List.mem_filter.mpr ⟨hc, hi⟩)
  · simpa [hi] using h
set_option maxRecDepth 65536 in
theorem w_c0 : (Jvm.Cond.code x code maxLocals ret).before args0 about1 = true := code_word (m := ⟨1, 1⟩) (meth := k1m1) (c := k1c1) (by decide +kernel) rfl rfl rfl (by decide +kernel)
set_option maxRecDepth 65536 in
theorem w_c1 : (Jvm.Cond.code ({ cls := "com/example/ratebook/ratebook/journal/RecentKeys", name := "<init>", desc := "()V" } : Jvm.MethodName) prog_11_method_1_code (1 : Nat) (Option.none : Option Jvm.ClassFile.FieldType)).before args0 about1 = true := code_word (m := ⟨2, 0⟩) (meth := k2m0) (c := k2c0) (by decide +kernel) rfl rfl rfl (by decide +kernel)
set_option maxRecDepth 65536 in
theorem w_c2 : (Jvm.Cond.code ({ cls := "java/lang/Object", name := "<init>", desc := "()V" } : Jvm.MethodName) object_method_1_code (1 : Nat) (Option.none : Option Jvm.ClassFile.FieldType)).before args0 about1 = true := code_word (m := ⟨0, 0⟩) (meth := k0m0) (c := k0c0) (by decide +kernel) rfl rfl rfl (by decide +kernel)
set_option maxRecDepth 65536 in
theorem w_c3 : (Jvm.Cond.code ({ cls := "com/example/ratebook/ratebook/journal/RecentKeys", name := "add", desc := "(JJ)V" } : Jvm.MethodName) prog_11_method_4_code (6 : Nat) (Option.none : Option Jvm.ClassFile.FieldType)).before args0 about1 = true := code_word (m := ⟨2, 3⟩) (meth := k2m3) (c := k2c3) (by decide +kernel) rfl rfl rfl (by decide +kernel)
set_option maxRecDepth 65536 in
theorem w_c4 : (Jvm.Cond.code ({ cls := "com/example/ratebook/ratebook/journal/RecentKeys", name := "number", desc := "(J)J" } : Jvm.MethodName) prog_11_method_3_code (6 : Nat) (Option.some Jvm.ClassFile.FieldType.long)).before args0 about1 = true := code_word (m := ⟨2, 2⟩) (meth := k2m2) (c := k2c2) (by decide +kernel) rfl rfl rfl (by decide +kernel)
set_option maxRecDepth 65536 in
theorem w_c5 : (Jvm.Cond.code ({ cls := "com/example/ratebook/ratebook/journal/RecentKeys", name := "slotOf", desc := "(JI)I" } : Jvm.MethodName) prog_11_method_8_code (3 : Nat) (Option.some Jvm.ClassFile.FieldType.int)).before args0 about1 = true := code_word (m := ⟨2, 6⟩) (meth := k2m6) (c := k2c6) (by decide +kernel) rfl rfl rfl (by decide +kernel)
set_option maxRecDepth 65536 in
theorem w_c6 : (Jvm.Cond.code ({ cls := "com/example/ratebook/ratebook/journal/RecentKeys", name := "place", desc := "(I)V" } : Jvm.MethodName) prog_11_method_7_code (4 : Nat) (Option.none : Option Jvm.ClassFile.FieldType)).before args0 about1 = true := code_word (m := ⟨2, 5⟩) (meth := k2m5) (c := k2c5) (by decide +kernel) rfl rfl rfl (by decide +kernel)
set_option maxRecDepth 65536 in
theorem w_c7 : (Jvm.Cond.code ({ cls := "com/example/ratebook/ratebook/journal/RecentKeys", name := "pairsFrom", desc := "(I)[J" } : Jvm.MethodName) prog_11_method_5_code (4 : Nat) (Option.some (Jvm.ClassFile.FieldType.array Jvm.ClassFile.FieldType.long))).before args0 about1 = true := code_word (m := ⟨2, 4⟩) (meth := k2m4) (c := k2c4) (by decide +kernel) rfl rfl rfl (by decide +kernel)
set_option maxRecDepth 65536 in
theorem w_c8 : (Jvm.Cond.code ({ cls := "com/example/ratebook/ratebook/journal/RecentKeysPairsFromPinLaw", name := "at", desc := "([J[J[JIII)Z" } : Jvm.MethodName) method_3_code (7 : Nat) (Option.some Jvm.ClassFile.FieldType.boolean)).before args0 about1 = true := code_word (m := ⟨1, 2⟩) (meth := k1m2) (c := k1c2) (by decide +kernel) rfl rfl rfl (by decide +kernel)
set_option maxRecDepth 65536 in
theorem w_c9 : (Jvm.Cond.code ({ cls := "com/example/ratebook/ratebook/journal/RecentKeys", name := "size", desc := "()I" } : Jvm.MethodName) prog_11_method_2_code (1 : Nat) (Option.some Jvm.ClassFile.FieldType.int)).before args0 about1 = true := code_word (m := ⟨2, 1⟩) (meth := k2m1) (c := k2c1) (by decide +kernel) rfl rfl rfl (by decide +kernel)
def codes1 : List Jvm.Cond := [Jvm.Cond.code x code maxLocals ret, Jvm.Cond.code ({ cls := "com/example/ratebook/ratebook/journal/RecentKeys", name := "<init>", desc := "()V" } : Jvm.MethodName) prog_11_method_1_code (1 : Nat) (Option.none : Option Jvm.ClassFile.FieldType), Jvm.Cond.code ({ cls := "java/lang/Object", name := "<init>", desc := "()V" } : Jvm.MethodName) object_method_1_code (1 : Nat) (Option.none : Option Jvm.ClassFile.FieldType), Jvm.Cond.code ({ cls := "com/example/ratebook/ratebook/journal/RecentKeys", name := "add", desc := "(JJ)V" } : Jvm.MethodName) prog_11_method_4_code (6 : Nat) (Option.none : Option Jvm.ClassFile.FieldType), Jvm.Cond.code ({ cls := "com/example/ratebook/ratebook/journal/RecentKeys", name := "number", desc := "(J)J" } : Jvm.MethodName) prog_11_method_3_code (6 : Nat) (Option.some Jvm.ClassFile.FieldType.long), Jvm.Cond.code ({ cls := "com/example/ratebook/ratebook/journal/RecentKeys", name := "slotOf", desc := "(JI)I" } : Jvm.MethodName) prog_11_method_8_code (3 : Nat) (Option.some Jvm.ClassFile.FieldType.int), Jvm.Cond.code ({ cls := "com/example/ratebook/ratebook/journal/RecentKeys", name := "place", desc := "(I)V" } : Jvm.MethodName) prog_11_method_7_code (4 : Nat) (Option.none : Option Jvm.ClassFile.FieldType), Jvm.Cond.code ({ cls := "com/example/ratebook/ratebook/journal/RecentKeys", name := "pairsFrom", desc := "(I)[J" } : Jvm.MethodName) prog_11_method_5_code (4 : Nat) (Option.some (Jvm.ClassFile.FieldType.array Jvm.ClassFile.FieldType.long)), Jvm.Cond.code ({ cls := "com/example/ratebook/ratebook/journal/RecentKeysPairsFromPinLaw", name := "at", desc := "([J[J[JIII)Z" } : Jvm.MethodName) method_3_code (7 : Nat) (Option.some Jvm.ClassFile.FieldType.boolean), Jvm.Cond.code ({ cls := "com/example/ratebook/ratebook/journal/RecentKeys", name := "size", desc := "()I" } : Jvm.MethodName) prog_11_method_2_code (1 : Nat) (Option.some Jvm.ClassFile.FieldType.int)]
set_option maxRecDepth 65536 in
theorem codes_eq : words1.filter isCode = codes1 := rfl
theorem w_codes : ∀ c ∈ words1.filter isCode, c.before args0 about1 = true := by
  rw [codes_eq]
  intro c hc
  simp only [codes1, List.mem_cons, List.not_mem_nil, or_false] at hc
  rcases hc with rfl | rfl | rfl | rfl | rfl | rfl | rfl | rfl | rfl | rfl
  · exact w_c0
  · exact w_c1
  · exact w_c2
  · exact w_c3
  · exact w_c4
  · exact w_c5
  · exact w_c6
  · exact w_c7
  · exact w_c8
  · exact w_c9
set_option maxRecDepth 65536 in
theorem w_t1 : (words1.take 24).all (fun c => isCode c || c.before args0 about1) = true := by decide +kernel
set_option maxRecDepth 65536 in
theorem w_t2 : ((words1.drop 24).take 24).all (fun c => isCode c || c.before args0 about1) = true := by decide +kernel
set_option maxRecDepth 65536 in
theorem w_t3 : ((words1.drop 24).drop 24).all (fun c => isCode c || c.before args0 about1) = true := by decide +kernel
theorem w_tables : (allAtoms (Jvm.Cond.code x code maxLocals ret :: tables_1)).before args0 about1 = true := by
  rw [allAtoms_all]
  show words1.all (fun c => c.before args0 about1) = true
  refine all_split ?_ w_codes
  rw [← List.take_append_drop 24 words1, List.all_append, w_t1, ← List.take_append_drop 24 (words1.drop 24), List.all_append, w_t2, w_t3]
  rfl
set_option maxRecDepth 65536 in
theorem w_case : (Jvm.Cond.and given_1 narrow_1).before args0 about1 = true := by decide +kernel
theorem w_applies : (headSpec (Jvm.Cond.code x code maxLocals ret :: tables_1) room_1).applies x e0.platform about1 = true :=
  (Spec.applies_iff w_frames).mpr ⟨w_running, w_runnable, w_alone, w_named, w_hears, w_ripe, w_room, w_tables⟩
theorem atStart : AtStart classFile x code maxLocals ret World_1 tables_1 room_1 Calls_1 rest_1 Pre_1 launch0 p0 e0 about1 theMethod args0 below0 :=
  ⟨lists_1, trivial, launch0.admits_env _ _ _, launch0.least_env, fairChoices_fair.cas, fairChoices_fair.clock, w_frames, w_args, w_heap, w_applies, trivial, trivial, w_case⟩
end start1
theorem witness_1 : WitnessClaimed_1 := ⟨start1.p0, start1.e0, start1.about1, start1.theMethod, start1.args0, start1.below0, start1.atStart⟩
end Jvm.Pilot.@@N@@
