import JvmDerived
import JvmDerived.Pilot.@@N@@Statement
import JvmDerived.Pilot.@@N@@Code
set_option linter.unusedVariables false
set_option linter.unusedSimpArgs false
namespace Jvm.RoadKit
open Sem ClassFile Op Lib Jvm.Stand Jvm.Free Jvm.LawKit
section Own
variable {p : Program} {l : Launch} {e : Env} {R : Room} {s : State} {m : MethodId} {args : Array Value} {below : List Frame} {meth : Method} {c : Code} {T T' : State} {Z : State} {a0 : Array Value} {h h' h0 : Heap} {ws : List Addr} {ck sk CK SK : Nat} {Q : Option Value → Heap → Prop} {bytes : ByteArray} {ml : Nat} {ret : Option FieldType} {y0 : MethodName} {tw : List Jvm.Cond} {pc pc' : Nat} {Ls Ls' : Array Slot} {S : List Value} {g g' : JFrame}
/-- Java's >>> -/
def own_ushr (x y : Int32) : Int32 := (x.toUInt32 >>> (y &&& 31).toUInt32).toInt32
def own_ushrL (x : Int64) (y : Int32) : Int64 := (x.toUInt64 >>> (y &&& 63).toInt64.toUInt64).toInt64
/-- what is known of the method that is walked -/
def OwnCtx (p : Program) (s : State) (m : MethodId) (meth : Method) (c : Code) (Z : State) (a0 : Array Value) (tw : List Jvm.Cond) (y0 : MethodName) (bytes : ByteArray) (ml : Nat) (ret : Option FieldType) : Prop :=
  p.tables.exec = Jvm.exec ∧ Z.Warmed39 s.vm ∧ (∀ d ∈ tw, d.before a0 Z = true) ∧ c.code = bytes ∧ c.maxLocals = ml ∧ s.vm.findClass y0.cls = some m.cls ∧ meth.name = y0.name ∧ meth.sig.returnType = ret ∧ meth.locks = false
/-- where the walk stands: the heap h; of the heap h0 at the entry only the cells at ws may have been written -/
def OwnPos (p : Program) (l : Launch) (e : Env) (R : Room) (s : State) (m : MethodId) (args : Array Value) (below : List Frame) (meth : Method) (c : Code) (h0 : Heap) (ws : List Addr) (T : State) (h : Heap) (ck sk : Nat) : Prop :=
  ∃ locs, Stand p l e R s m args below meth c T locs ck sk ∧ T.heap = h ∧ (∀ y ∈ locs, y.base ∈ ws ∨ h0.size ≤ y.base) ∧ Keep h0 h ws
/-- from here the method returns as Q says -/
def OwnWP (p : Program) (e : Env) (below : List Frame) (s : State) (h0 : Heap) (ws : List Addr) (Q : Option Value → Heap → Prop) (CK SK : Nat) (T : State) (g : JFrame) : Prop :=
  ∃ s₂ o, Steps p.tables e below (T.setTop g) s₂ ∧ s₂.status = .running ∧ Ended s₂ below o ∧ ∃ v L, o = .returned v ∧ ((∀ y ∈ L, y.base ∈ ws ∨ h0.size ≤ y.base) ∧ Keep h0 s₂.heap ws ∧ Q v s₂.heap) ∧ FrameEnd s o s₂ L CK SK
/-- a method's contract -/
def OwnCtr (l : Launch) (Z : State) (y : MethodName) (bytes : ByteArray) (ml : Nat) (ret : Option FieldType) (rm : Room) (as : Array Value) (h0 : Heap) (ws : List Addr) (Q : Option Value → Heap → Prop) (cs : List Jvm.Cond) : Prop :=
  MetFree l y (head1 (Jvm.Cond.code y bytes ml ret :: cs) rm) (fun a U => a = as ∧ Z.Warmed39 U.vm ∧ U.heap = h0) (fun _ _ _ _ _ => True) (fun _ U o U' => ∃ v L, o = .returned v ∧ ((∀ y ∈ L, y.base ∈ ws ∨ h0.size ≤ y.base) ∧ Keep h0 U'.heap ws ∧ Q v U'.heap) ∧ FrameEnd U o U' L rm.cells rm.slots)
theorem ow_le (A : OwnPos p l e R s m args below meth c h0 ws T h ck sk) : h0.size ≤ h.size := by obtain ⟨_, _, _, _, K⟩ := A; exact K.1
theorem ow_st (q : ∀ target, Steps p.tables e below (T'.setTop g') target → Steps p.tables e below (T.setTop g) target) (k : OwnWP p e below s h0 ws Q CK SK T' g') : OwnWP p e below s h0 ws Q CK SK T g := by
  obtain ⟨s₂, o, k1, k2⟩ := k; exact ⟨s₂, o, q _ k1, k2⟩
theorem ow_stT (q : Steps p.tables e below (T.setTop g) (T'.setTop g')) (k : OwnWP p e below s h0 ws Q CK SK T' g') : OwnWP p e below s h0 ws Q CK SK T g := by
  obtain ⟨s₂, o, k1, k2⟩ := k; exact ⟨s₂, o, q.trans k1, k2⟩
theorem ow_mono {Q' : Option Value → Heap → Prop} (q : ∀ v h, Q' v h → Q v h) (k : OwnWP p e below s h0 ws Q' CK SK T g) : OwnWP p e below s h0 ws Q CK SK T g := by
  obtain ⟨s₂, o, k1, k2, k3, v, L, k4, ⟨k5, k6, k7⟩, k8⟩ := k; exact ⟨s₂, o, k1, k2, k3, v, L, k4, ⟨k5, k6, q _ _ k7⟩, k8⟩
theorem ow_ctr {rm : Room} {as : Array Value} {cs : List Jvm.Cond} {Ls : Array Slot} (hp : plainFor y0 = true) (hw : ∀ d ∈ tw, d.before a0 Z = true) (ef : ∀ m, entryFrame m as ml = mkF m 0 Ls [])
    (body : ∀ (p : Program) (e : Env) (s : State) (m : MethodId) (below : List Frame) (meth : Method) (c : Code) (T : State), OwnCtx p s m meth c Z a0 tw y0 bytes ml ret → OwnPos p l e rm s m as below meth c h0 ws T h0 0 0 → OwnWP p e below s h0 ws Q rm.cells rm.slots T (mkF m 0 Ls [])) :
    OwnCtr l Z y0 bytes ml ret rm as h0 ws Q cs := by
  refine MetFree.of_bodySF hp hisR ?_
  intro p e s m args below meth c s₁ Bd hml0 hP hK
  obtain ⟨rfl, hZ, hh⟩ := hP
  have X0 : Stand p l e rm s m _ below meth c s₁ [] 0 0 := Stand.of_body Bd
  have e0 : s₁.heap = h0 := by rw [← hh, Bd.state]; rfl
  have hk : meth.locks = false := BodyLoose.notSynchronized Bd
  obtain ⟨s₂, o, k1, k2⟩ := body p e s m below meth c s₁ ⟨Bd.exec, hZ, hw, Bd.bytes, hml0, findClass_of_methodNamed Bd.named, (name_of_methodNamed Bd.named Bd.method).1, Bd.returns, hk⟩ ⟨[], X0, e0, (fun _ q => nomatch q), Keep.refl _ _⟩
  exact ⟨s₂, o, castTop (ef m) k1, k2⟩
theorem ow_ctr_mono {rm : Room} {as : Array Value} {cs : List Jvm.Cond} {y : MethodName} {Q' : Option Value → Heap → Prop} (M : OwnCtr l Z y bytes ml ret rm as h0 ws Q cs) (q : ∀ v h, Q v h → Q' v h) : OwnCtr l Z y bytes ml ret rm as h0 ws Q' cs := by
  intro p e ha hc hk s m args below hf happ hP hK
  obtain ⟨n, o, h1, h2, h3, v, L, h4, ⟨h5, h6, h7⟩, h8⟩ := M p e ha hc hk s m args below hf happ hP hK
  exact ⟨n, o, h1, h2, h3, v, L, h4, ⟨h5, h6, q _ _ h7⟩, h8⟩
theorem ow_done {v : Option Value} (C : OwnCtx p s m meth c Z a0 tw y0 bytes ml ret) (A : OwnPos p l e R s m args below meth c h0 ws T h ck sk) (hv : ret = none → v = none) (h1 : ck ≤ CK) (h2 : sk ≤ SK) (hq : Q v h)
    (hst : ∀ {locs : List Loc} {fs : List Frame}, Stand p l e R s m args below meth c T locs ck sk → (∀ (f : JFrame) (acts : List Action), f.method = m → f.locked = none → f.entered = [] → (doReturn e (T.setTop f) acts v).1 = T.setFrames fs) → Steps p.tables e below (T.setTop g) (T.setFrames fs)) :
    OwnWP p e below s h0 ws Q CK SK T g := by
  obtain ⟨locs, X, rfl, N, K⟩ := A
  obtain ⟨fs, hr, hrun, hended, hW, hsame⟩ := X.leave (v := v) (fun q => hv (C.2.2.2.2.2.2.2.1.symm.trans q)) C.2.2.2.2.2.2.2.2
  exact ⟨_, _, hst X hr, hrun, hended, _, _, rfl, ⟨N, K, hq⟩, ⟨_, rfl⟩, hW, hsame.mono h1 h2⟩
theorem ow_ireturn (C : OwnCtx p s m meth c Z a0 tw y0 bytes ml ret) (A : OwnPos p l e R s m args below meth c h0 ws T h ck sk) {t : FieldType} {w : Int32} (hret : ret = some t) (hn : narrow t (.int w) = .int w) (hti : t = .int ∨ t = .boolean ∨ t = .byte ∨ t = .char ∨ t = .short)
    (hd : decode bytes pc = .ok (.ireturn, 1)) (h1 : ck ≤ CK) (h2 : sk ≤ SK) (hq : Q (some (.int w)) h) : OwnWP p e below s h0 ws Q CK SK T (mkF m pc Ls [.int w]) :=
  ow_done C A (fun q => by rw [hret] at q; cases q) h1 h2 hq fun X hr => X.ireturnOut C.1 (C.2.2.2.2.2.2.2.1.trans hret) hn hti (hb C.2.2.2.1 hd) hr
theorem ow_lreturn (C : OwnCtx p s m meth c Z a0 tw y0 bytes ml ret) (A : OwnPos p l e R s m args below meth c h0 ws T h ck sk) {w : Int64} (hret : ret = some .long)
    (hd : decode bytes pc = .ok (.lreturn, 1)) (h1 : ck ≤ CK) (h2 : sk ≤ SK) (hq : Q (some (.long w)) h) : OwnWP p e below s h0 ws Q CK SK T (mkF m pc Ls [.long w]) :=
  ow_done C A (fun q => by rw [hret] at q; cases q) h1 h2 hq fun X hr => X.lreturnOut C.1 (C.2.2.2.2.2.2.2.1.trans hret) (hb C.2.2.2.1 hd) hr
theorem ow_areturn (C : OwnCtx p s m meth c Z a0 tw y0 bytes ml ret) (A : OwnPos p l e R s m args below meth c h0 ws T h ck sk) {t : FieldType} {w : Value} (hret : ret = some t) (ht : t.isReference = true) (hw : w.isRef = true)
    (hd : decode bytes pc = .ok (.areturn, 1)) (h1 : ck ≤ CK) (h2 : sk ≤ SK) (hq : Q (some w) h) : OwnWP p e below s h0 ws Q CK SK T (mkF m pc Ls [w]) :=
  ow_done C A (fun q => by rw [hret] at q; cases q) h1 h2 hq fun X hr => X.areturnOut C.1 hw (C.2.2.2.2.2.2.2.1.trans hret) ht (hb C.2.2.2.1 hd) hr
theorem ow_return (C : OwnCtx p s m meth c Z a0 tw y0 bytes ml ret) (A : OwnPos p l e R s m args below meth c h0 ws T h ck sk) (hret : ret = none)
    (hd : decode bytes pc = .ok (.return_, 1)) (h1 : ck ≤ CK) (h2 : sk ≤ SK) (hq : Q none h) : OwnWP p e below s h0 ws Q CK SK T (mkF m pc Ls []) :=
  ow_done C A (fun _ => rfl) h1 h2 hq fun X hr => X.returnOut C.1 (C.2.2.2.2.2.2.2.1.trans hret) (hb C.2.2.2.1 hd) hr
theorem ow_iadd (C : OwnCtx p s m meth c Z a0 tw y0 bytes ml ret) (A : OwnPos p l e R s m args below meth c h0 ws T h ck sk) {x y : Int32} (hd : decode bytes pc = .ok (.iadd, 1)) (hp : pc + 1 = pc') (k : OwnWP p e below s h0 ws Q CK SK T (mkF m pc' Ls (.int (x + y) :: S))) : OwnWP p e below s h0 ws Q CK SK T (mkF m pc Ls (.int y :: .int x :: S)) := by
  obtain ⟨locs, X, -⟩ := A; subst hp
  exact ow_st (fun _ k => XS.iadd X.here C.1 rfl (hb C.2.2.2.1 hd) rfl k) k
theorem ow_isub (C : OwnCtx p s m meth c Z a0 tw y0 bytes ml ret) (A : OwnPos p l e R s m args below meth c h0 ws T h ck sk) {x y : Int32} (hd : decode bytes pc = .ok (.isub, 1)) (hp : pc + 1 = pc') (k : OwnWP p e below s h0 ws Q CK SK T (mkF m pc' Ls (.int (x - y) :: S))) : OwnWP p e below s h0 ws Q CK SK T (mkF m pc Ls (.int y :: .int x :: S)) := by
  obtain ⟨locs, X, -⟩ := A; subst hp
  exact ow_st (fun _ k => XS.isub X.here C.1 rfl (hb C.2.2.2.1 hd) rfl k) k
theorem ow_imul (C : OwnCtx p s m meth c Z a0 tw y0 bytes ml ret) (A : OwnPos p l e R s m args below meth c h0 ws T h ck sk) {x y : Int32} (hd : decode bytes pc = .ok (.imul, 1)) (hp : pc + 1 = pc') (k : OwnWP p e below s h0 ws Q CK SK T (mkF m pc' Ls (.int (x * y) :: S))) : OwnWP p e below s h0 ws Q CK SK T (mkF m pc Ls (.int y :: .int x :: S)) := by
  obtain ⟨locs, X, -⟩ := A; subst hp
  exact ow_st (fun _ k => XS.imul X.here C.1 rfl (hb C.2.2.2.1 hd) rfl k) k
theorem ow_iand (C : OwnCtx p s m meth c Z a0 tw y0 bytes ml ret) (A : OwnPos p l e R s m args below meth c h0 ws T h ck sk) {x y : Int32} (hd : decode bytes pc = .ok (.iand, 1)) (hp : pc + 1 = pc') (k : OwnWP p e below s h0 ws Q CK SK T (mkF m pc' Ls (.int (x &&& y) :: S))) : OwnWP p e below s h0 ws Q CK SK T (mkF m pc Ls (.int y :: .int x :: S)) := by
  obtain ⟨locs, X, -⟩ := A; subst hp
  exact ow_st (fun _ k => XS.iand X.here C.1 rfl (hb C.2.2.2.1 hd) rfl k) k
theorem ow_ior (C : OwnCtx p s m meth c Z a0 tw y0 bytes ml ret) (A : OwnPos p l e R s m args below meth c h0 ws T h ck sk) {x y : Int32} (hd : decode bytes pc = .ok (.ior, 1)) (hp : pc + 1 = pc') (k : OwnWP p e below s h0 ws Q CK SK T (mkF m pc' Ls (.int (x ||| y) :: S))) : OwnWP p e below s h0 ws Q CK SK T (mkF m pc Ls (.int y :: .int x :: S)) := by
  obtain ⟨locs, X, -⟩ := A; subst hp
  exact ow_st (fun _ k => XS.ior X.here C.1 rfl (hb C.2.2.2.1 hd) rfl k) k
theorem ow_ixor (C : OwnCtx p s m meth c Z a0 tw y0 bytes ml ret) (A : OwnPos p l e R s m args below meth c h0 ws T h ck sk) {x y : Int32} (hd : decode bytes pc = .ok (.ixor, 1)) (hp : pc + 1 = pc') (k : OwnWP p e below s h0 ws Q CK SK T (mkF m pc' Ls (.int (x ^^^ y) :: S))) : OwnWP p e below s h0 ws Q CK SK T (mkF m pc Ls (.int y :: .int x :: S)) := by
  obtain ⟨locs, X, -⟩ := A; subst hp
  exact ow_st (fun _ k => XS.ixor X.here C.1 rfl (hb C.2.2.2.1 hd) rfl k) k
theorem ow_ishl (C : OwnCtx p s m meth c Z a0 tw y0 bytes ml ret) (A : OwnPos p l e R s m args below meth c h0 ws T h ck sk) {x y : Int32} (hd : decode bytes pc = .ok (.ishl, 1)) (hp : pc + 1 = pc') (k : OwnWP p e below s h0 ws Q CK SK T (mkF m pc' Ls (.int (x <<< (y &&& 31)) :: S))) : OwnWP p e below s h0 ws Q CK SK T (mkF m pc Ls (.int y :: .int x :: S)) := by
  obtain ⟨locs, X, -⟩ := A; subst hp
  exact ow_st (fun _ k => XS.ishl X.here C.1 rfl (hb C.2.2.2.1 hd) rfl k) k
theorem ow_ishr (C : OwnCtx p s m meth c Z a0 tw y0 bytes ml ret) (A : OwnPos p l e R s m args below meth c h0 ws T h ck sk) {x y : Int32} (hd : decode bytes pc = .ok (.ishr, 1)) (hp : pc + 1 = pc') (k : OwnWP p e below s h0 ws Q CK SK T (mkF m pc' Ls (.int (x >>> (y &&& 31)) :: S))) : OwnWP p e below s h0 ws Q CK SK T (mkF m pc Ls (.int y :: .int x :: S)) := by
  obtain ⟨locs, X, -⟩ := A; subst hp
  exact ow_st (fun _ k => XS.ishr X.here C.1 rfl (hb C.2.2.2.1 hd) rfl k) k
theorem ow_iushr (C : OwnCtx p s m meth c Z a0 tw y0 bytes ml ret) (A : OwnPos p l e R s m args below meth c h0 ws T h ck sk) {x y : Int32} (hd : decode bytes pc = .ok (.iushr, 1)) (hp : pc + 1 = pc') (k : OwnWP p e below s h0 ws Q CK SK T (mkF m pc' Ls (.int (own_ushr x y) :: S))) : OwnWP p e below s h0 ws Q CK SK T (mkF m pc Ls (.int y :: .int x :: S)) := by
  obtain ⟨locs, X, -⟩ := A; subst hp
  exact ow_st (fun _ k => XS.iushr X.here C.1 rfl (hb C.2.2.2.1 hd) rfl k) k
theorem ow_ladd (C : OwnCtx p s m meth c Z a0 tw y0 bytes ml ret) (A : OwnPos p l e R s m args below meth c h0 ws T h ck sk) {x y : Int64} (hd : decode bytes pc = .ok (.ladd, 1)) (hp : pc + 1 = pc') (k : OwnWP p e below s h0 ws Q CK SK T (mkF m pc' Ls (.long (x + y) :: S))) : OwnWP p e below s h0 ws Q CK SK T (mkF m pc Ls (.long y :: .long x :: S)) := by
  obtain ⟨locs, X, -⟩ := A; subst hp
  exact ow_st (fun _ k => XS.ladd X.here C.1 rfl (hb C.2.2.2.1 hd) rfl k) k
theorem ow_lsub (C : OwnCtx p s m meth c Z a0 tw y0 bytes ml ret) (A : OwnPos p l e R s m args below meth c h0 ws T h ck sk) {x y : Int64} (hd : decode bytes pc = .ok (.lsub, 1)) (hp : pc + 1 = pc') (k : OwnWP p e below s h0 ws Q CK SK T (mkF m pc' Ls (.long (x - y) :: S))) : OwnWP p e below s h0 ws Q CK SK T (mkF m pc Ls (.long y :: .long x :: S)) := by
  obtain ⟨locs, X, -⟩ := A; subst hp
  exact ow_st (fun _ k => XS.lsub X.here C.1 rfl (hb C.2.2.2.1 hd) rfl k) k
theorem ow_lmul (C : OwnCtx p s m meth c Z a0 tw y0 bytes ml ret) (A : OwnPos p l e R s m args below meth c h0 ws T h ck sk) {x y : Int64} (hd : decode bytes pc = .ok (.lmul, 1)) (hp : pc + 1 = pc') (k : OwnWP p e below s h0 ws Q CK SK T (mkF m pc' Ls (.long (x * y) :: S))) : OwnWP p e below s h0 ws Q CK SK T (mkF m pc Ls (.long y :: .long x :: S)) := by
  obtain ⟨locs, X, -⟩ := A; subst hp
  exact ow_st (fun _ k => XS.lmul X.here C.1 rfl (hb C.2.2.2.1 hd) rfl k) k
theorem ow_land (C : OwnCtx p s m meth c Z a0 tw y0 bytes ml ret) (A : OwnPos p l e R s m args below meth c h0 ws T h ck sk) {x y : Int64} (hd : decode bytes pc = .ok (.land, 1)) (hp : pc + 1 = pc') (k : OwnWP p e below s h0 ws Q CK SK T (mkF m pc' Ls (.long (x &&& y) :: S))) : OwnWP p e below s h0 ws Q CK SK T (mkF m pc Ls (.long y :: .long x :: S)) := by
  obtain ⟨locs, X, -⟩ := A; subst hp
  exact ow_st (fun _ k => XS.land X.here C.1 rfl (hb C.2.2.2.1 hd) rfl k) k
theorem ow_lor (C : OwnCtx p s m meth c Z a0 tw y0 bytes ml ret) (A : OwnPos p l e R s m args below meth c h0 ws T h ck sk) {x y : Int64} (hd : decode bytes pc = .ok (.lor, 1)) (hp : pc + 1 = pc') (k : OwnWP p e below s h0 ws Q CK SK T (mkF m pc' Ls (.long (x ||| y) :: S))) : OwnWP p e below s h0 ws Q CK SK T (mkF m pc Ls (.long y :: .long x :: S)) := by
  obtain ⟨locs, X, -⟩ := A; subst hp
  exact ow_st (fun _ k => XS.lor X.here C.1 rfl (hb C.2.2.2.1 hd) rfl k) k
theorem ow_lxor (C : OwnCtx p s m meth c Z a0 tw y0 bytes ml ret) (A : OwnPos p l e R s m args below meth c h0 ws T h ck sk) {x y : Int64} (hd : decode bytes pc = .ok (.lxor, 1)) (hp : pc + 1 = pc') (k : OwnWP p e below s h0 ws Q CK SK T (mkF m pc' Ls (.long (x ^^^ y) :: S))) : OwnWP p e below s h0 ws Q CK SK T (mkF m pc Ls (.long y :: .long x :: S)) := by
  obtain ⟨locs, X, -⟩ := A; subst hp
  exact ow_st (fun _ k => XS.lxor X.here C.1 rfl (hb C.2.2.2.1 hd) rfl k) k
theorem ow_lshl (C : OwnCtx p s m meth c Z a0 tw y0 bytes ml ret) (A : OwnPos p l e R s m args below meth c h0 ws T h ck sk) {x : Int64} {y : Int32} (hd : decode bytes pc = .ok (.lshl, 1)) (hp : pc + 1 = pc') (k : OwnWP p e below s h0 ws Q CK SK T (mkF m pc' Ls (.long (x <<< (y &&& 63).toInt64) :: S))) : OwnWP p e below s h0 ws Q CK SK T (mkF m pc Ls (.int y :: .long x :: S)) := by
  obtain ⟨locs, X, -⟩ := A; subst hp
  exact ow_st (fun _ k => XS.lshl X.here C.1 rfl (hb C.2.2.2.1 hd) rfl k) k
theorem ow_lshr (C : OwnCtx p s m meth c Z a0 tw y0 bytes ml ret) (A : OwnPos p l e R s m args below meth c h0 ws T h ck sk) {x : Int64} {y : Int32} (hd : decode bytes pc = .ok (.lshr, 1)) (hp : pc + 1 = pc') (k : OwnWP p e below s h0 ws Q CK SK T (mkF m pc' Ls (.long (x >>> (y &&& 63).toInt64) :: S))) : OwnWP p e below s h0 ws Q CK SK T (mkF m pc Ls (.int y :: .long x :: S)) := by
  obtain ⟨locs, X, -⟩ := A; subst hp
  exact ow_st (fun _ k => XS.lshr X.here C.1 rfl (hb C.2.2.2.1 hd) rfl k) k
theorem ow_lushr (C : OwnCtx p s m meth c Z a0 tw y0 bytes ml ret) (A : OwnPos p l e R s m args below meth c h0 ws T h ck sk) {x : Int64} {y : Int32} (hd : decode bytes pc = .ok (.lushr, 1)) (hp : pc + 1 = pc') (k : OwnWP p e below s h0 ws Q CK SK T (mkF m pc' Ls (.long (own_ushrL x y) :: S))) : OwnWP p e below s h0 ws Q CK SK T (mkF m pc Ls (.int y :: .long x :: S)) := by
  obtain ⟨locs, X, -⟩ := A; subst hp
  exact ow_st (fun _ k => XS.lushr X.here C.1 rfl (hb C.2.2.2.1 hd) rfl k) k
theorem ow_idiv (C : OwnCtx p s m meth c Z a0 tw y0 bytes ml ret) (A : OwnPos p l e R s m args below meth c h0 ws T h ck sk) {x y : Int32} (hd : decode bytes pc = .ok (.idiv, 1)) (hy : y ≠ 0) (hp : pc + 1 = pc') (k : OwnWP p e below s h0 ws Q CK SK T (mkF m pc' Ls (.int (x / y) :: S))) : OwnWP p e below s h0 ws Q CK SK T (mkF m pc Ls (.int y :: .int x :: S)) := by
  obtain ⟨locs, X, -⟩ := A; subst hp
  exact ow_st (fun _ k => XS.idiv X.here C.1 rfl (hb C.2.2.2.1 hd) rfl hy k) k
theorem ow_irem (C : OwnCtx p s m meth c Z a0 tw y0 bytes ml ret) (A : OwnPos p l e R s m args below meth c h0 ws T h ck sk) {x y : Int32} (hd : decode bytes pc = .ok (.irem, 1)) (hy : y ≠ 0) (hp : pc + 1 = pc') (k : OwnWP p e below s h0 ws Q CK SK T (mkF m pc' Ls (.int (x % y) :: S))) : OwnWP p e below s h0 ws Q CK SK T (mkF m pc Ls (.int y :: .int x :: S)) := by
  obtain ⟨locs, X, -⟩ := A; subst hp
  exact ow_st (fun _ k => iremM X C.1 rfl (hb C.2.2.2.1 hd) rfl hy k) k
theorem ow_ldiv (C : OwnCtx p s m meth c Z a0 tw y0 bytes ml ret) (A : OwnPos p l e R s m args below meth c h0 ws T h ck sk) {x y : Int64} (hd : decode bytes pc = .ok (.ldiv, 1)) (hy : y ≠ 0) (hp : pc + 1 = pc') (k : OwnWP p e below s h0 ws Q CK SK T (mkF m pc' Ls (.long (x / y) :: S))) : OwnWP p e below s h0 ws Q CK SK T (mkF m pc Ls (.long y :: .long x :: S)) := by
  obtain ⟨locs, X, -⟩ := A; subst hp
  exact ow_st (fun _ k => XS.ldiv X.here C.1 rfl (hb C.2.2.2.1 hd) rfl hy k) k
theorem ow_lrem (C : OwnCtx p s m meth c Z a0 tw y0 bytes ml ret) (A : OwnPos p l e R s m args below meth c h0 ws T h ck sk) {x y : Int64} (hd : decode bytes pc = .ok (.lrem, 1)) (hy : y ≠ 0) (hp : pc + 1 = pc') (k : OwnWP p e below s h0 ws Q CK SK T (mkF m pc' Ls (.long (x % y) :: S))) : OwnWP p e below s h0 ws Q CK SK T (mkF m pc Ls (.long y :: .long x :: S)) := by
  obtain ⟨locs, X, -⟩ := A; subst hp
  exact ow_st (fun _ k => XS.lrem X.here C.1 rfl (hb C.2.2.2.1 hd) rfl hy (by rw [lrem_mod]; exact k)) k
theorem ow_ineg (C : OwnCtx p s m meth c Z a0 tw y0 bytes ml ret) (A : OwnPos p l e R s m args below meth c h0 ws T h ck sk) {x : Int32} (hd : decode bytes pc = .ok (.ineg, 1)) (hp : pc + 1 = pc') (k : OwnWP p e below s h0 ws Q CK SK T (mkF m pc' Ls (.int (-x) :: S))) : OwnWP p e below s h0 ws Q CK SK T (mkF m pc Ls (.int x :: S)) := by
  obtain ⟨locs, X, -⟩ := A; subst hp
  exact ow_st (fun _ k => XS.ineg X.here C.1 rfl (hb C.2.2.2.1 hd) rfl k) k
theorem ow_lneg (C : OwnCtx p s m meth c Z a0 tw y0 bytes ml ret) (A : OwnPos p l e R s m args below meth c h0 ws T h ck sk) {x : Int64} (hd : decode bytes pc = .ok (.lneg, 1)) (hp : pc + 1 = pc') (k : OwnWP p e below s h0 ws Q CK SK T (mkF m pc' Ls (.long (-x) :: S))) : OwnWP p e below s h0 ws Q CK SK T (mkF m pc Ls (.long x :: S)) := by
  obtain ⟨locs, X, -⟩ := A; subst hp
  exact ow_st (fun _ k => XS.lneg X.here C.1 rfl (hb C.2.2.2.1 hd) rfl k) k
theorem ow_i2l (C : OwnCtx p s m meth c Z a0 tw y0 bytes ml ret) (A : OwnPos p l e R s m args below meth c h0 ws T h ck sk) {x : Int32} (hd : decode bytes pc = .ok (.i2l, 1)) (hp : pc + 1 = pc') (k : OwnWP p e below s h0 ws Q CK SK T (mkF m pc' Ls (.long x.toInt64 :: S))) : OwnWP p e below s h0 ws Q CK SK T (mkF m pc Ls (.int x :: S)) := by
  obtain ⟨locs, X, -⟩ := A; subst hp
  exact ow_st (fun _ k => XS.i2l X.here C.1 rfl (hb C.2.2.2.1 hd) rfl k) k
theorem ow_l2i (C : OwnCtx p s m meth c Z a0 tw y0 bytes ml ret) (A : OwnPos p l e R s m args below meth c h0 ws T h ck sk) {x : Int64} (hd : decode bytes pc = .ok (.l2i, 1)) (hp : pc + 1 = pc') (k : OwnWP p e below s h0 ws Q CK SK T (mkF m pc' Ls (.int x.toInt32 :: S))) : OwnWP p e below s h0 ws Q CK SK T (mkF m pc Ls (.long x :: S)) := by
  obtain ⟨locs, X, -⟩ := A; subst hp
  exact ow_st (fun _ k => XS.l2i X.here C.1 rfl (hb C.2.2.2.1 hd) rfl k) k
theorem ow_i2b (C : OwnCtx p s m meth c Z a0 tw y0 bytes ml ret) (A : OwnPos p l e R s m args below meth c h0 ws T h ck sk) {x : Int32} (hd : decode bytes pc = .ok (.i2b, 1)) (hp : pc + 1 = pc') (k : OwnWP p e below s h0 ws Q CK SK T (mkF m pc' Ls (.int x.toInt8.toInt32 :: S))) : OwnWP p e below s h0 ws Q CK SK T (mkF m pc Ls (.int x :: S)) := by
  obtain ⟨locs, X, -⟩ := A; subst hp
  exact ow_st (fun _ k => XS.i2b X.here C.1 rfl (hb C.2.2.2.1 hd) rfl k) k
theorem ow_i2s (C : OwnCtx p s m meth c Z a0 tw y0 bytes ml ret) (A : OwnPos p l e R s m args below meth c h0 ws T h ck sk) {x : Int32} (hd : decode bytes pc = .ok (.i2s, 1)) (hp : pc + 1 = pc') (k : OwnWP p e below s h0 ws Q CK SK T (mkF m pc' Ls (.int x.toInt16.toInt32 :: S))) : OwnWP p e below s h0 ws Q CK SK T (mkF m pc Ls (.int x :: S)) := by
  obtain ⟨locs, X, -⟩ := A; subst hp
  exact ow_st (fun _ k => XS.i2s X.here C.1 rfl (hb C.2.2.2.1 hd) rfl k) k
theorem ow_i2c (C : OwnCtx p s m meth c Z a0 tw y0 bytes ml ret) (A : OwnPos p l e R s m args below meth c h0 ws T h ck sk) {x : Int32} (hd : decode bytes pc = .ok (.i2c, 1)) (hp : pc + 1 = pc') (k : OwnWP p e below s h0 ws Q CK SK T (mkF m pc' Ls (.int x.toUInt32.toUInt16.toUInt32.toInt32 :: S))) : OwnWP p e below s h0 ws Q CK SK T (mkF m pc Ls (.int x :: S)) := by
  obtain ⟨locs, X, -⟩ := A; subst hp
  exact ow_st (fun _ k => XS.i2c X.here C.1 rfl (hb C.2.2.2.1 hd) rfl k) k
theorem ow_iconst (C : OwnCtx p s m meth c Z a0 tw y0 bytes ml ret) (A : OwnPos p l e R s m args below meth c h0 ws T h ck sk) {i : Int} {v : Int32} (hd : decode bytes pc = .ok (.iconst i, 1)) (hv : Int32.ofInt i = v) (hp : pc + 1 = pc') (k : OwnWP p e below s h0 ws Q CK SK T (mkF m pc' Ls (.int v :: S))) : OwnWP p e below s h0 ws Q CK SK T (mkF m pc Ls (S)) := by
  obtain ⟨locs, X, -⟩ := A; subst hp
  exact ow_st (fun _ k => by subst hv; exact XS.iconst X.here C.1 rfl (hb C.2.2.2.1 hd) k) k
theorem ow_bipush (C : OwnCtx p s m meth c Z a0 tw y0 bytes ml ret) (A : OwnPos p l e R s m args below meth c h0 ws T h ck sk) {i : Int} {v : Int32} (hd : decode bytes pc = .ok (.bipush i, 2)) (hv : (Int8.ofInt i).toInt32 = v) (hp : pc + 2 = pc') (k : OwnWP p e below s h0 ws Q CK SK T (mkF m pc' Ls (.int v :: S))) : OwnWP p e below s h0 ws Q CK SK T (mkF m pc Ls (S)) := by
  obtain ⟨locs, X, -⟩ := A; subst hp
  exact ow_st (fun _ k => by subst hv; exact XS.bipush X.here C.1 rfl (hb C.2.2.2.1 hd) k) k
theorem ow_sipush (C : OwnCtx p s m meth c Z a0 tw y0 bytes ml ret) (A : OwnPos p l e R s m args below meth c h0 ws T h ck sk) {i : Int} {v : Int32} (hd : decode bytes pc = .ok (.sipush i, 3)) (hv : (Int16.ofInt i).toInt32 = v) (hp : pc + 3 = pc') (k : OwnWP p e below s h0 ws Q CK SK T (mkF m pc' Ls (.int v :: S))) : OwnWP p e below s h0 ws Q CK SK T (mkF m pc Ls (S)) := by
  obtain ⟨locs, X, -⟩ := A; subst hp
  exact ow_st (fun _ k => by subst hv; exact XS.sipush X.here C.1 rfl (hb C.2.2.2.1 hd) k) k
theorem ow_lconst (C : OwnCtx p s m meth c Z a0 tw y0 bytes ml ret) (A : OwnPos p l e R s m args below meth c h0 ws T h ck sk) {i : Fin 2} {v : Int64} (hd : decode bytes pc = .ok (.lconst i, 1)) (hv : Int64.ofNat i = v) (hp : pc + 1 = pc') (k : OwnWP p e below s h0 ws Q CK SK T (mkF m pc' Ls (.long v :: S))) : OwnWP p e below s h0 ws Q CK SK T (mkF m pc Ls (S)) := by
  obtain ⟨locs, X, -⟩ := A; subst hp
  exact ow_st (fun _ k => by subst hv; exact XS.lconst X.here C.1 rfl (hb C.2.2.2.1 hd) k) k
theorem ow_aconst_null (C : OwnCtx p s m meth c Z a0 tw y0 bytes ml ret) (A : OwnPos p l e R s m args below meth c h0 ws T h ck sk)  (hd : decode bytes pc = .ok (.aconst_null, 1)) (hp : pc + 1 = pc') (k : OwnWP p e below s h0 ws Q CK SK T (mkF m pc' Ls (.null :: S))) : OwnWP p e below s h0 ws Q CK SK T (mkF m pc Ls (S)) := by
  obtain ⟨locs, X, -⟩ := A; subst hp
  exact ow_st (fun _ k => XS.aconstNull X.here C.1 rfl (hb C.2.2.2.1 hd) k) k
theorem ow_iload (C : OwnCtx p s m meth c Z a0 tw y0 bytes ml ret) (A : OwnPos p l e R s m args below meth c h0 ws T h ck sk) {j : Nat} {v : Int32} (hd : decode bytes pc = .ok (.iload j, 2)) (hl : Ls[j]? = some (.val (.int v))) (hp : pc + 2 = pc') (k : OwnWP p e below s h0 ws Q CK SK T (mkF m pc' Ls (.int v :: S))) : OwnWP p e below s h0 ws Q CK SK T (mkF m pc Ls (S)) := by
  obtain ⟨locs, X, -⟩ := A; subst hp
  exact ow_st (fun _ k => XS.iload X.here C.1 rfl (hb C.2.2.2.1 hd) hl k) k
theorem ow_iloadN (C : OwnCtx p s m meth c Z a0 tw y0 bytes ml ret) (A : OwnPos p l e R s m args below meth c h0 ws T h ck sk) {j : Fin 4} {v : Int32} (hd : decode bytes pc = .ok (.iload_n j, 1)) (hl : Ls[j.val]? = some (.val (.int v))) (hp : pc + 1 = pc') (k : OwnWP p e below s h0 ws Q CK SK T (mkF m pc' Ls (.int v :: S))) : OwnWP p e below s h0 ws Q CK SK T (mkF m pc Ls (S)) := by
  obtain ⟨locs, X, -⟩ := A; subst hp
  exact ow_st (fun _ k => XS.iloadN X.here C.1 rfl (hb C.2.2.2.1 hd) hl k) k
theorem ow_lload (C : OwnCtx p s m meth c Z a0 tw y0 bytes ml ret) (A : OwnPos p l e R s m args below meth c h0 ws T h ck sk) {j : Nat} {v : Int64} (hd : decode bytes pc = .ok (.lload j, 2)) (hl : Ls[j]? = some (.val (.long v))) (hp : pc + 2 = pc') (k : OwnWP p e below s h0 ws Q CK SK T (mkF m pc' Ls (.long v :: S))) : OwnWP p e below s h0 ws Q CK SK T (mkF m pc Ls (S)) := by
  obtain ⟨locs, X, -⟩ := A; subst hp
  exact ow_st (fun _ k => XS.lload X.here C.1 rfl (hb C.2.2.2.1 hd) hl k) k
theorem ow_lloadN (C : OwnCtx p s m meth c Z a0 tw y0 bytes ml ret) (A : OwnPos p l e R s m args below meth c h0 ws T h ck sk) {j : Fin 4} {v : Int64} (hd : decode bytes pc = .ok (.lload_n j, 1)) (hl : Ls[j.val]? = some (.val (.long v))) (hp : pc + 1 = pc') (k : OwnWP p e below s h0 ws Q CK SK T (mkF m pc' Ls (.long v :: S))) : OwnWP p e below s h0 ws Q CK SK T (mkF m pc Ls (S)) := by
  obtain ⟨locs, X, -⟩ := A; subst hp
  exact ow_st (fun _ k => XS.lloadN X.here C.1 rfl (hb C.2.2.2.1 hd) hl k) k
theorem ow_aload (C : OwnCtx p s m meth c Z a0 tw y0 bytes ml ret) (A : OwnPos p l e R s m args below meth c h0 ws T h ck sk) {j : Nat} {v : Value} (hd : decode bytes pc = .ok (.aload j, 2)) (hl : Ls[j]? = some (.val v)) (hv : v.isRef = true) (hp : pc + 2 = pc') (k : OwnWP p e below s h0 ws Q CK SK T (mkF m pc' Ls (v :: S))) : OwnWP p e below s h0 ws Q CK SK T (mkF m pc Ls (S)) := by
  obtain ⟨locs, X, -⟩ := A; subst hp
  exact ow_st (fun _ k => XS.aload X.here C.1 rfl (hb C.2.2.2.1 hd) hl hv k) k
theorem ow_aloadN (C : OwnCtx p s m meth c Z a0 tw y0 bytes ml ret) (A : OwnPos p l e R s m args below meth c h0 ws T h ck sk) {j : Fin 4} {v : Value} (hd : decode bytes pc = .ok (.aload_n j, 1)) (hl : Ls[j.val]? = some (.val v)) (hv : v.isRef = true) (hp : pc + 1 = pc') (k : OwnWP p e below s h0 ws Q CK SK T (mkF m pc' Ls (v :: S))) : OwnWP p e below s h0 ws Q CK SK T (mkF m pc Ls (S)) := by
  obtain ⟨locs, X, -⟩ := A; subst hp
  exact ow_st (fun _ k => XS.aloadN X.here C.1 rfl (hb C.2.2.2.1 hd) hl hv k) k
theorem ow_istore (C : OwnCtx p s m meth c Z a0 tw y0 bytes ml ret) (A : OwnPos p l e R s m args below meth c h0 ws T h ck sk) {j : Nat} {v : Int32} (hd : decode bytes pc = .ok (.istore j, 2)) (hl : storeLocals Ls j (.int v) = some Ls') (hp : pc + 2 = pc') (k : OwnWP p e below s h0 ws Q CK SK T (mkF m pc' Ls' (S))) : OwnWP p e below s h0 ws Q CK SK T (mkF m pc Ls (.int v :: S)) := by
  obtain ⟨locs, X, -⟩ := A; subst hp
  exact ow_st (fun _ k => XS.istore X.here C.1 rfl (hb C.2.2.2.1 hd) rfl hl k) k
theorem ow_istoreN (C : OwnCtx p s m meth c Z a0 tw y0 bytes ml ret) (A : OwnPos p l e R s m args below meth c h0 ws T h ck sk) {j : Fin 4} {v : Int32} (hd : decode bytes pc = .ok (.istore_n j, 1)) (hl : storeLocals Ls j.val (.int v) = some Ls') (hp : pc + 1 = pc') (k : OwnWP p e below s h0 ws Q CK SK T (mkF m pc' Ls' (S))) : OwnWP p e below s h0 ws Q CK SK T (mkF m pc Ls (.int v :: S)) := by
  obtain ⟨locs, X, -⟩ := A; subst hp
  exact ow_st (fun _ k => XS.istoreN X.here C.1 rfl (hb C.2.2.2.1 hd) rfl hl k) k
theorem ow_lstore (C : OwnCtx p s m meth c Z a0 tw y0 bytes ml ret) (A : OwnPos p l e R s m args below meth c h0 ws T h ck sk) {j : Nat} {v : Int64} (hd : decode bytes pc = .ok (.lstore j, 2)) (hl : storeLocals Ls j (.long v) = some Ls') (hp : pc + 2 = pc') (k : OwnWP p e below s h0 ws Q CK SK T (mkF m pc' Ls' (S))) : OwnWP p e below s h0 ws Q CK SK T (mkF m pc Ls (.long v :: S)) := by
  obtain ⟨locs, X, -⟩ := A; subst hp
  exact ow_st (fun _ k => XS.lstore X.here C.1 rfl (hb C.2.2.2.1 hd) rfl hl k) k
theorem ow_lstoreN (C : OwnCtx p s m meth c Z a0 tw y0 bytes ml ret) (A : OwnPos p l e R s m args below meth c h0 ws T h ck sk) {j : Fin 4} {v : Int64} (hd : decode bytes pc = .ok (.lstore_n j, 1)) (hl : storeLocals Ls j.val (.long v) = some Ls') (hp : pc + 1 = pc') (k : OwnWP p e below s h0 ws Q CK SK T (mkF m pc' Ls' (S))) : OwnWP p e below s h0 ws Q CK SK T (mkF m pc Ls (.long v :: S)) := by
  obtain ⟨locs, X, -⟩ := A; subst hp
  exact ow_st (fun _ k => XS.lstoreN X.here C.1 rfl (hb C.2.2.2.1 hd) rfl hl k) k
theorem ow_astore (C : OwnCtx p s m meth c Z a0 tw y0 bytes ml ret) (A : OwnPos p l e R s m args below meth c h0 ws T h ck sk) {j : Nat} {v : Value} (hd : decode bytes pc = .ok (.astore j, 2)) (hv : v.isRef = true) (hl : storeLocals Ls j v = some Ls') (hp : pc + 2 = pc') (k : OwnWP p e below s h0 ws Q CK SK T (mkF m pc' Ls' (S))) : OwnWP p e below s h0 ws Q CK SK T (mkF m pc Ls (v :: S)) := by
  obtain ⟨locs, X, -⟩ := A; subst hp
  exact ow_st (fun _ k => XS.astore X.here C.1 rfl (hb C.2.2.2.1 hd) rfl hv hl k) k
theorem ow_astoreN (C : OwnCtx p s m meth c Z a0 tw y0 bytes ml ret) (A : OwnPos p l e R s m args below meth c h0 ws T h ck sk) {j : Fin 4} {v : Value} (hd : decode bytes pc = .ok (.astore_n j, 1)) (hv : v.isRef = true) (hl : storeLocals Ls j.val v = some Ls') (hp : pc + 1 = pc') (k : OwnWP p e below s h0 ws Q CK SK T (mkF m pc' Ls' (S))) : OwnWP p e below s h0 ws Q CK SK T (mkF m pc Ls (v :: S)) := by
  obtain ⟨locs, X, -⟩ := A; subst hp
  exact ow_st (fun _ k => XS.astoreN X.here C.1 rfl (hb C.2.2.2.1 hd) rfl hv hl k) k
theorem ow_iinc (C : OwnCtx p s m meth c Z a0 tw y0 bytes ml ret) (A : OwnPos p l e R s m args below meth c h0 ws T h ck sk) {j : Nat} {cst : Int} {v : Int32} (hd : decode bytes pc = .ok (.iinc j cst, 3)) (hl : Ls[j]? = some (.val (.int v))) (hl' : storeLocals Ls j (.int (v + Int32.ofInt cst)) = some Ls') (hp : pc + 3 = pc') (k : OwnWP p e below s h0 ws Q CK SK T (mkF m pc' Ls' (S))) : OwnWP p e below s h0 ws Q CK SK T (mkF m pc Ls (S)) := by
  obtain ⟨locs, X, -⟩ := A; subst hp
  exact ow_st (fun _ k => XS.iinc X.here C.1 rfl (hb C.2.2.2.1 hd) hl hl' k) k
theorem ow_dup (C : OwnCtx p s m meth c Z a0 tw y0 bytes ml ret) (A : OwnPos p l e R s m args below meth c h0 ws T h ck sk) {v : Value} (hd : decode bytes pc = .ok (.dup, 1)) (hc : v.category = 1) (hp : pc + 1 = pc') (k : OwnWP p e below s h0 ws Q CK SK T (mkF m pc' Ls (v :: v :: S))) : OwnWP p e below s h0 ws Q CK SK T (mkF m pc Ls (v :: S)) := by
  obtain ⟨locs, X, -⟩ := A; subst hp
  exact ow_st (fun _ k => XS.dup X.here C.1 rfl (hb C.2.2.2.1 hd) rfl hc k) k
theorem ow_dup_x1 (C : OwnCtx p s m meth c Z a0 tw y0 bytes ml ret) (A : OwnPos p l e R s m args below meth c h0 ws T h ck sk) {v w : Value} (hd : decode bytes pc = .ok (.dup_x1, 1)) (hc : v.category = 1) (hc' : w.category = 1) (hp : pc + 1 = pc') (k : OwnWP p e below s h0 ws Q CK SK T (mkF m pc' Ls (v :: w :: v :: S))) : OwnWP p e below s h0 ws Q CK SK T (mkF m pc Ls (v :: w :: S)) := by
  obtain ⟨locs, X, -⟩ := A; subst hp
  exact ow_st (fun _ k => XS.dupX1 X.here C.1 rfl (hb C.2.2.2.1 hd) rfl hc hc' k) k
theorem ow_dup2 (C : OwnCtx p s m meth c Z a0 tw y0 bytes ml ret) (A : OwnPos p l e R s m args below meth c h0 ws T h ck sk) {v w : Value} (hd : decode bytes pc = .ok (.dup2, 1)) (hc : v.category = 1) (hc' : w.category = 1) (hp : pc + 1 = pc') (k : OwnWP p e below s h0 ws Q CK SK T (mkF m pc' Ls (v :: w :: v :: w :: S))) : OwnWP p e below s h0 ws Q CK SK T (mkF m pc Ls (v :: w :: S)) := by
  obtain ⟨locs, X, -⟩ := A; subst hp
  exact ow_st (fun _ k => XT.dup2 X.here C.1 rfl (hb C.2.2.2.1 hd) rfl hc hc' k) k
theorem ow_pop (C : OwnCtx p s m meth c Z a0 tw y0 bytes ml ret) (A : OwnPos p l e R s m args below meth c h0 ws T h ck sk) {v : Value} (hd : decode bytes pc = .ok (.pop, 1)) (hc : v.category = 1) (hp : pc + 1 = pc') (k : OwnWP p e below s h0 ws Q CK SK T (mkF m pc' Ls (S))) : OwnWP p e below s h0 ws Q CK SK T (mkF m pc Ls (v :: S)) := by
  obtain ⟨locs, X, -⟩ := A; subst hp
  exact ow_st (fun _ k => XS.pop X.here C.1 rfl (hb C.2.2.2.1 hd) rfl hc k) k
theorem ow_goto (C : OwnCtx p s m meth c Z a0 tw y0 bytes ml ret) (A : OwnPos p l e R s m args below meth c h0 ws T h ck sk) {o : Int} (hd : decode bytes pc = .ok (.goto o, 3)) (ho : 0 ≤ (pc : Int) + o) (hp : ((pc : Int) + o).toNat = pc') (k : OwnWP p e below s h0 ws Q CK SK T (mkF m pc' Ls S)) : OwnWP p e below s h0 ws Q CK SK T (mkF m pc Ls S) := by
  obtain ⟨locs, X, -⟩ := A
  exact ow_st (fun _ k => XS.goto X.here C.1 rfl (pc0 := pc) (pc' := pc') rfl (hb C.2.2.2.1 hd) ho hp k) k
theorem ow_icmp_lt (C : OwnCtx p s m meth c Z a0 tw y0 bytes ml ret) (A : OwnPos p l e R s m args below meth c h0 ws T h ck sk) {x y : Int32} {o : Int} {pcY pcN : Nat} (hd : decode bytes pc = .ok (.if_icmp .lt o, 3)) (ho : 0 ≤ (pc : Int) + o) (hpY : ((pc : Int) + o).toNat = pcY) (hpN : pc + 3 = pcN) (kY : x < y → OwnWP p e below s h0 ws Q CK SK T (mkF m pcY Ls S)) (kN : ¬ (x < y) → OwnWP p e below s h0 ws Q CK SK T (mkF m pcN Ls S)) : OwnWP p e below s h0 ws Q CK SK T (mkF m pc Ls (.int y :: .int x :: S)) := by
  obtain ⟨locs, X, -⟩ := A; subst hpN
  by_cases q : x < y
  · exact ow_st (fun _ k => XS.icmpYes X.here C.1 rfl (pc0 := pc) (pc' := pcY) rfl (hb C.2.2.2.1 hd) rfl (tlt q).1 ho hpY k) (kY q)
  · exact ow_st (fun _ k => XS.icmpNo X.here C.1 rfl (hb C.2.2.2.1 hd) rfl (flt q).1 k) (kN q)
theorem ow_if_lt (C : OwnCtx p s m meth c Z a0 tw y0 bytes ml ret) (A : OwnPos p l e R s m args below meth c h0 ws T h ck sk) {x : Int32} {o : Int} {pcY pcN : Nat} (hd : decode bytes pc = .ok (.ifCond .lt o, 3)) (ho : 0 ≤ (pc : Int) + o) (hpY : ((pc : Int) + o).toNat = pcY) (hpN : pc + 3 = pcN) (kY : x < 0 → OwnWP p e below s h0 ws Q CK SK T (mkF m pcY Ls S)) (kN : ¬ (x < 0) → OwnWP p e below s h0 ws Q CK SK T (mkF m pcN Ls S)) : OwnWP p e below s h0 ws Q CK SK T (mkF m pc Ls (.int x :: S)) := by
  obtain ⟨locs, X, -⟩ := A; subst hpN
  by_cases q : x < 0
  · exact ow_st (fun _ k => XS.ifYes X.here C.1 rfl (pc0 := pc) (pc' := pcY) rfl (hb C.2.2.2.1 hd) rfl ((if0 _ _).trans (tlt q).1) ho hpY k) (kY q)
  · exact ow_st (fun _ k => XS.ifNo X.here C.1 rfl (hb C.2.2.2.1 hd) rfl ((if0 _ _).trans (flt q).1) k) (kN q)
theorem ow_lcmp_lt (C : OwnCtx p s m meth c Z a0 tw y0 bytes ml ret) (A : OwnPos p l e R s m args below meth c h0 ws T h ck sk) {x y : Int64} {o : Int} {pc1 pcY pcN : Nat} (hd : decode bytes pc = .ok (.lcmp, 1)) (hp1 : pc + 1 = pc1) (hd1 : decode bytes pc1 = .ok (.ifCond .lt o, 3)) (ho : 0 ≤ (pc1 : Int) + o) (hpY : ((pc1 : Int) + o).toNat = pcY) (hpN : pc1 + 3 = pcN) (kY : x < y → OwnWP p e below s h0 ws Q CK SK T (mkF m pcY Ls S)) (kN : ¬ (x < y) → OwnWP p e below s h0 ws Q CK SK T (mkF m pcN Ls S)) : OwnWP p e below s h0 ws Q CK SK T (mkF m pc Ls (.long y :: .long x :: S)) := by
  have A' := A; obtain ⟨locs, X, -⟩ := A'; subst hp1
  refine ow_st (fun _ k => XS.lcmp X.here C.1 rfl (hb C.2.2.2.1 hd) rfl k) ?_
  show OwnWP p e below s h0 ws Q CK SK T (mkF m (pc + 1) Ls (.int (lcmpW x y) :: S))
  exact ow_if_lt C A hd1 ho hpY hpN (fun q => kY ((lw_lt x y).mp q)) (fun q => kN (fun z => q ((lw_lt x y).mpr z)))
theorem ow_icmp_ge (C : OwnCtx p s m meth c Z a0 tw y0 bytes ml ret) (A : OwnPos p l e R s m args below meth c h0 ws T h ck sk) {x y : Int32} {o : Int} {pcY pcN : Nat} (hd : decode bytes pc = .ok (.if_icmp .ge o, 3)) (ho : 0 ≤ (pc : Int) + o) (hpY : ((pc : Int) + o).toNat = pcY) (hpN : pc + 3 = pcN) (kY : ¬ (x < y) → OwnWP p e below s h0 ws Q CK SK T (mkF m pcY Ls S)) (kN : x < y → OwnWP p e below s h0 ws Q CK SK T (mkF m pcN Ls S)) : OwnWP p e below s h0 ws Q CK SK T (mkF m pc Ls (.int y :: .int x :: S)) := by
  obtain ⟨locs, X, -⟩ := A; subst hpN
  by_cases q : x < y
  · exact ow_st (fun _ k => XS.icmpNo X.here C.1 rfl (hb C.2.2.2.1 hd) rfl (tlt q).2.1 k) (kN q)
  · exact ow_st (fun _ k => XS.icmpYes X.here C.1 rfl (pc0 := pc) (pc' := pcY) rfl (hb C.2.2.2.1 hd) rfl (flt q).2.1 ho hpY k) (kY q)
theorem ow_if_ge (C : OwnCtx p s m meth c Z a0 tw y0 bytes ml ret) (A : OwnPos p l e R s m args below meth c h0 ws T h ck sk) {x : Int32} {o : Int} {pcY pcN : Nat} (hd : decode bytes pc = .ok (.ifCond .ge o, 3)) (ho : 0 ≤ (pc : Int) + o) (hpY : ((pc : Int) + o).toNat = pcY) (hpN : pc + 3 = pcN) (kY : ¬ (x < 0) → OwnWP p e below s h0 ws Q CK SK T (mkF m pcY Ls S)) (kN : x < 0 → OwnWP p e below s h0 ws Q CK SK T (mkF m pcN Ls S)) : OwnWP p e below s h0 ws Q CK SK T (mkF m pc Ls (.int x :: S)) := by
  obtain ⟨locs, X, -⟩ := A; subst hpN
  by_cases q : x < 0
  · exact ow_st (fun _ k => XS.ifNo X.here C.1 rfl (hb C.2.2.2.1 hd) rfl ((if0 _ _).trans (tlt q).2.1) k) (kN q)
  · exact ow_st (fun _ k => XS.ifYes X.here C.1 rfl (pc0 := pc) (pc' := pcY) rfl (hb C.2.2.2.1 hd) rfl ((if0 _ _).trans (flt q).2.1) ho hpY k) (kY q)
theorem ow_lcmp_ge (C : OwnCtx p s m meth c Z a0 tw y0 bytes ml ret) (A : OwnPos p l e R s m args below meth c h0 ws T h ck sk) {x y : Int64} {o : Int} {pc1 pcY pcN : Nat} (hd : decode bytes pc = .ok (.lcmp, 1)) (hp1 : pc + 1 = pc1) (hd1 : decode bytes pc1 = .ok (.ifCond .ge o, 3)) (ho : 0 ≤ (pc1 : Int) + o) (hpY : ((pc1 : Int) + o).toNat = pcY) (hpN : pc1 + 3 = pcN) (kY : ¬ (x < y) → OwnWP p e below s h0 ws Q CK SK T (mkF m pcY Ls S)) (kN : x < y → OwnWP p e below s h0 ws Q CK SK T (mkF m pcN Ls S)) : OwnWP p e below s h0 ws Q CK SK T (mkF m pc Ls (.long y :: .long x :: S)) := by
  have A' := A; obtain ⟨locs, X, -⟩ := A'; subst hp1
  refine ow_st (fun _ k => XS.lcmp X.here C.1 rfl (hb C.2.2.2.1 hd) rfl k) ?_
  show OwnWP p e below s h0 ws Q CK SK T (mkF m (pc + 1) Ls (.int (lcmpW x y) :: S))
  exact ow_if_ge C A hd1 ho hpY hpN (fun q => kY (fun z => q ((lw_lt x y).mpr z))) (fun q => kN ((lw_lt x y).mp q))
theorem ow_icmp_gt (C : OwnCtx p s m meth c Z a0 tw y0 bytes ml ret) (A : OwnPos p l e R s m args below meth c h0 ws T h ck sk) {x y : Int32} {o : Int} {pcY pcN : Nat} (hd : decode bytes pc = .ok (.if_icmp .gt o, 3)) (ho : 0 ≤ (pc : Int) + o) (hpY : ((pc : Int) + o).toNat = pcY) (hpN : pc + 3 = pcN) (kY : y < x → OwnWP p e below s h0 ws Q CK SK T (mkF m pcY Ls S)) (kN : ¬ (y < x) → OwnWP p e below s h0 ws Q CK SK T (mkF m pcN Ls S)) : OwnWP p e below s h0 ws Q CK SK T (mkF m pc Ls (.int y :: .int x :: S)) := by
  obtain ⟨locs, X, -⟩ := A; subst hpN
  by_cases q : y < x
  · exact ow_st (fun _ k => XS.icmpYes X.here C.1 rfl (pc0 := pc) (pc' := pcY) rfl (hb C.2.2.2.1 hd) rfl (tlt q).2.2.1 ho hpY k) (kY q)
  · exact ow_st (fun _ k => XS.icmpNo X.here C.1 rfl (hb C.2.2.2.1 hd) rfl (flt q).2.2.1 k) (kN q)
theorem ow_if_gt (C : OwnCtx p s m meth c Z a0 tw y0 bytes ml ret) (A : OwnPos p l e R s m args below meth c h0 ws T h ck sk) {x : Int32} {o : Int} {pcY pcN : Nat} (hd : decode bytes pc = .ok (.ifCond .gt o, 3)) (ho : 0 ≤ (pc : Int) + o) (hpY : ((pc : Int) + o).toNat = pcY) (hpN : pc + 3 = pcN) (kY : 0 < x → OwnWP p e below s h0 ws Q CK SK T (mkF m pcY Ls S)) (kN : ¬ (0 < x) → OwnWP p e below s h0 ws Q CK SK T (mkF m pcN Ls S)) : OwnWP p e below s h0 ws Q CK SK T (mkF m pc Ls (.int x :: S)) := by
  obtain ⟨locs, X, -⟩ := A; subst hpN
  by_cases q : 0 < x
  · exact ow_st (fun _ k => XS.ifYes X.here C.1 rfl (pc0 := pc) (pc' := pcY) rfl (hb C.2.2.2.1 hd) rfl ((if0 _ _).trans (tlt q).2.2.1) ho hpY k) (kY q)
  · exact ow_st (fun _ k => XS.ifNo X.here C.1 rfl (hb C.2.2.2.1 hd) rfl ((if0 _ _).trans (flt q).2.2.1) k) (kN q)
theorem ow_lcmp_gt (C : OwnCtx p s m meth c Z a0 tw y0 bytes ml ret) (A : OwnPos p l e R s m args below meth c h0 ws T h ck sk) {x y : Int64} {o : Int} {pc1 pcY pcN : Nat} (hd : decode bytes pc = .ok (.lcmp, 1)) (hp1 : pc + 1 = pc1) (hd1 : decode bytes pc1 = .ok (.ifCond .gt o, 3)) (ho : 0 ≤ (pc1 : Int) + o) (hpY : ((pc1 : Int) + o).toNat = pcY) (hpN : pc1 + 3 = pcN) (kY : y < x → OwnWP p e below s h0 ws Q CK SK T (mkF m pcY Ls S)) (kN : ¬ (y < x) → OwnWP p e below s h0 ws Q CK SK T (mkF m pcN Ls S)) : OwnWP p e below s h0 ws Q CK SK T (mkF m pc Ls (.long y :: .long x :: S)) := by
  have A' := A; obtain ⟨locs, X, -⟩ := A'; subst hp1
  refine ow_st (fun _ k => XS.lcmp X.here C.1 rfl (hb C.2.2.2.1 hd) rfl k) ?_
  show OwnWP p e below s h0 ws Q CK SK T (mkF m (pc + 1) Ls (.int (lcmpW x y) :: S))
  exact ow_if_gt C A hd1 ho hpY hpN (fun q => kY ((lw_gt x y).mp q)) (fun q => kN (fun z => q ((lw_gt x y).mpr z)))
theorem ow_icmp_le (C : OwnCtx p s m meth c Z a0 tw y0 bytes ml ret) (A : OwnPos p l e R s m args below meth c h0 ws T h ck sk) {x y : Int32} {o : Int} {pcY pcN : Nat} (hd : decode bytes pc = .ok (.if_icmp .le o, 3)) (ho : 0 ≤ (pc : Int) + o) (hpY : ((pc : Int) + o).toNat = pcY) (hpN : pc + 3 = pcN) (kY : ¬ (y < x) → OwnWP p e below s h0 ws Q CK SK T (mkF m pcY Ls S)) (kN : y < x → OwnWP p e below s h0 ws Q CK SK T (mkF m pcN Ls S)) : OwnWP p e below s h0 ws Q CK SK T (mkF m pc Ls (.int y :: .int x :: S)) := by
  obtain ⟨locs, X, -⟩ := A; subst hpN
  by_cases q : y < x
  · exact ow_st (fun _ k => XS.icmpNo X.here C.1 rfl (hb C.2.2.2.1 hd) rfl (tlt q).2.2.2 k) (kN q)
  · exact ow_st (fun _ k => XS.icmpYes X.here C.1 rfl (pc0 := pc) (pc' := pcY) rfl (hb C.2.2.2.1 hd) rfl (flt q).2.2.2 ho hpY k) (kY q)
theorem ow_if_le (C : OwnCtx p s m meth c Z a0 tw y0 bytes ml ret) (A : OwnPos p l e R s m args below meth c h0 ws T h ck sk) {x : Int32} {o : Int} {pcY pcN : Nat} (hd : decode bytes pc = .ok (.ifCond .le o, 3)) (ho : 0 ≤ (pc : Int) + o) (hpY : ((pc : Int) + o).toNat = pcY) (hpN : pc + 3 = pcN) (kY : ¬ (0 < x) → OwnWP p e below s h0 ws Q CK SK T (mkF m pcY Ls S)) (kN : 0 < x → OwnWP p e below s h0 ws Q CK SK T (mkF m pcN Ls S)) : OwnWP p e below s h0 ws Q CK SK T (mkF m pc Ls (.int x :: S)) := by
  obtain ⟨locs, X, -⟩ := A; subst hpN
  by_cases q : 0 < x
  · exact ow_st (fun _ k => XS.ifNo X.here C.1 rfl (hb C.2.2.2.1 hd) rfl ((if0 _ _).trans (tlt q).2.2.2) k) (kN q)
  · exact ow_st (fun _ k => XS.ifYes X.here C.1 rfl (pc0 := pc) (pc' := pcY) rfl (hb C.2.2.2.1 hd) rfl ((if0 _ _).trans (flt q).2.2.2) ho hpY k) (kY q)
theorem ow_lcmp_le (C : OwnCtx p s m meth c Z a0 tw y0 bytes ml ret) (A : OwnPos p l e R s m args below meth c h0 ws T h ck sk) {x y : Int64} {o : Int} {pc1 pcY pcN : Nat} (hd : decode bytes pc = .ok (.lcmp, 1)) (hp1 : pc + 1 = pc1) (hd1 : decode bytes pc1 = .ok (.ifCond .le o, 3)) (ho : 0 ≤ (pc1 : Int) + o) (hpY : ((pc1 : Int) + o).toNat = pcY) (hpN : pc1 + 3 = pcN) (kY : ¬ (y < x) → OwnWP p e below s h0 ws Q CK SK T (mkF m pcY Ls S)) (kN : y < x → OwnWP p e below s h0 ws Q CK SK T (mkF m pcN Ls S)) : OwnWP p e below s h0 ws Q CK SK T (mkF m pc Ls (.long y :: .long x :: S)) := by
  have A' := A; obtain ⟨locs, X, -⟩ := A'; subst hp1
  refine ow_st (fun _ k => XS.lcmp X.here C.1 rfl (hb C.2.2.2.1 hd) rfl k) ?_
  show OwnWP p e below s h0 ws Q CK SK T (mkF m (pc + 1) Ls (.int (lcmpW x y) :: S))
  exact ow_if_le C A hd1 ho hpY hpN (fun q => kY (fun z => q ((lw_gt x y).mpr z))) (fun q => kN ((lw_gt x y).mp q))
theorem ow_icmp_eq (C : OwnCtx p s m meth c Z a0 tw y0 bytes ml ret) (A : OwnPos p l e R s m args below meth c h0 ws T h ck sk) {x y : Int32} {o : Int} {pcY pcN : Nat} (hd : decode bytes pc = .ok (.if_icmp .eq o, 3)) (ho : 0 ≤ (pc : Int) + o) (hpY : ((pc : Int) + o).toNat = pcY) (hpN : pc + 3 = pcN) (kY : x = y → OwnWP p e below s h0 ws Q CK SK T (mkF m pcY Ls S)) (kN : ¬ (x = y) → OwnWP p e below s h0 ws Q CK SK T (mkF m pcN Ls S)) : OwnWP p e below s h0 ws Q CK SK T (mkF m pc Ls (.int y :: .int x :: S)) := by
  obtain ⟨locs, X, -⟩ := A; subst hpN
  by_cases q : x = y
  · exact ow_st (fun _ k => XS.icmpYes X.here C.1 rfl (pc0 := pc) (pc' := pcY) rfl (hb C.2.2.2.1 hd) rfl (teq q).1 ho hpY k) (kY q)
  · exact ow_st (fun _ k => XS.icmpNo X.here C.1 rfl (hb C.2.2.2.1 hd) rfl (feq q).1 k) (kN q)
theorem ow_if_eq (C : OwnCtx p s m meth c Z a0 tw y0 bytes ml ret) (A : OwnPos p l e R s m args below meth c h0 ws T h ck sk) {x : Int32} {o : Int} {pcY pcN : Nat} (hd : decode bytes pc = .ok (.ifCond .eq o, 3)) (ho : 0 ≤ (pc : Int) + o) (hpY : ((pc : Int) + o).toNat = pcY) (hpN : pc + 3 = pcN) (kY : x = 0 → OwnWP p e below s h0 ws Q CK SK T (mkF m pcY Ls S)) (kN : ¬ (x = 0) → OwnWP p e below s h0 ws Q CK SK T (mkF m pcN Ls S)) : OwnWP p e below s h0 ws Q CK SK T (mkF m pc Ls (.int x :: S)) := by
  obtain ⟨locs, X, -⟩ := A; subst hpN
  by_cases q : x = 0
  · exact ow_st (fun _ k => XS.ifYes X.here C.1 rfl (pc0 := pc) (pc' := pcY) rfl (hb C.2.2.2.1 hd) rfl ((if0 _ _).trans (teq q).1) ho hpY k) (kY q)
  · exact ow_st (fun _ k => XS.ifNo X.here C.1 rfl (hb C.2.2.2.1 hd) rfl ((if0 _ _).trans (feq q).1) k) (kN q)
theorem ow_lcmp_eq (C : OwnCtx p s m meth c Z a0 tw y0 bytes ml ret) (A : OwnPos p l e R s m args below meth c h0 ws T h ck sk) {x y : Int64} {o : Int} {pc1 pcY pcN : Nat} (hd : decode bytes pc = .ok (.lcmp, 1)) (hp1 : pc + 1 = pc1) (hd1 : decode bytes pc1 = .ok (.ifCond .eq o, 3)) (ho : 0 ≤ (pc1 : Int) + o) (hpY : ((pc1 : Int) + o).toNat = pcY) (hpN : pc1 + 3 = pcN) (kY : x = y → OwnWP p e below s h0 ws Q CK SK T (mkF m pcY Ls S)) (kN : ¬ (x = y) → OwnWP p e below s h0 ws Q CK SK T (mkF m pcN Ls S)) : OwnWP p e below s h0 ws Q CK SK T (mkF m pc Ls (.long y :: .long x :: S)) := by
  have A' := A; obtain ⟨locs, X, -⟩ := A'; subst hp1
  refine ow_st (fun _ k => XS.lcmp X.here C.1 rfl (hb C.2.2.2.1 hd) rfl k) ?_
  show OwnWP p e below s h0 ws Q CK SK T (mkF m (pc + 1) Ls (.int (lcmpW x y) :: S))
  exact ow_if_eq C A hd1 ho hpY hpN (fun q => kY ((lw_eq x y).mp q)) (fun q => kN (fun z => q ((lw_eq x y).mpr z)))
theorem ow_icmp_ne (C : OwnCtx p s m meth c Z a0 tw y0 bytes ml ret) (A : OwnPos p l e R s m args below meth c h0 ws T h ck sk) {x y : Int32} {o : Int} {pcY pcN : Nat} (hd : decode bytes pc = .ok (.if_icmp .ne o, 3)) (ho : 0 ≤ (pc : Int) + o) (hpY : ((pc : Int) + o).toNat = pcY) (hpN : pc + 3 = pcN) (kY : ¬ (x = y) → OwnWP p e below s h0 ws Q CK SK T (mkF m pcY Ls S)) (kN : x = y → OwnWP p e below s h0 ws Q CK SK T (mkF m pcN Ls S)) : OwnWP p e below s h0 ws Q CK SK T (mkF m pc Ls (.int y :: .int x :: S)) := by
  obtain ⟨locs, X, -⟩ := A; subst hpN
  by_cases q : x = y
  · exact ow_st (fun _ k => XS.icmpNo X.here C.1 rfl (hb C.2.2.2.1 hd) rfl (teq q).2 k) (kN q)
  · exact ow_st (fun _ k => XS.icmpYes X.here C.1 rfl (pc0 := pc) (pc' := pcY) rfl (hb C.2.2.2.1 hd) rfl (feq q).2 ho hpY k) (kY q)
theorem ow_if_ne (C : OwnCtx p s m meth c Z a0 tw y0 bytes ml ret) (A : OwnPos p l e R s m args below meth c h0 ws T h ck sk) {x : Int32} {o : Int} {pcY pcN : Nat} (hd : decode bytes pc = .ok (.ifCond .ne o, 3)) (ho : 0 ≤ (pc : Int) + o) (hpY : ((pc : Int) + o).toNat = pcY) (hpN : pc + 3 = pcN) (kY : ¬ (x = 0) → OwnWP p e below s h0 ws Q CK SK T (mkF m pcY Ls S)) (kN : x = 0 → OwnWP p e below s h0 ws Q CK SK T (mkF m pcN Ls S)) : OwnWP p e below s h0 ws Q CK SK T (mkF m pc Ls (.int x :: S)) := by
  obtain ⟨locs, X, -⟩ := A; subst hpN
  by_cases q : x = 0
  · exact ow_st (fun _ k => XS.ifNo X.here C.1 rfl (hb C.2.2.2.1 hd) rfl ((if0 _ _).trans (teq q).2) k) (kN q)
  · exact ow_st (fun _ k => XS.ifYes X.here C.1 rfl (pc0 := pc) (pc' := pcY) rfl (hb C.2.2.2.1 hd) rfl ((if0 _ _).trans (feq q).2) ho hpY k) (kY q)
theorem ow_lcmp_ne (C : OwnCtx p s m meth c Z a0 tw y0 bytes ml ret) (A : OwnPos p l e R s m args below meth c h0 ws T h ck sk) {x y : Int64} {o : Int} {pc1 pcY pcN : Nat} (hd : decode bytes pc = .ok (.lcmp, 1)) (hp1 : pc + 1 = pc1) (hd1 : decode bytes pc1 = .ok (.ifCond .ne o, 3)) (ho : 0 ≤ (pc1 : Int) + o) (hpY : ((pc1 : Int) + o).toNat = pcY) (hpN : pc1 + 3 = pcN) (kY : ¬ (x = y) → OwnWP p e below s h0 ws Q CK SK T (mkF m pcY Ls S)) (kN : x = y → OwnWP p e below s h0 ws Q CK SK T (mkF m pcN Ls S)) : OwnWP p e below s h0 ws Q CK SK T (mkF m pc Ls (.long y :: .long x :: S)) := by
  have A' := A; obtain ⟨locs, X, -⟩ := A'; subst hp1
  refine ow_st (fun _ k => XS.lcmp X.here C.1 rfl (hb C.2.2.2.1 hd) rfl k) ?_
  show OwnWP p e below s h0 ws Q CK SK T (mkF m (pc + 1) Ls (.int (lcmpW x y) :: S))
  exact ow_if_ne C A hd1 ho hpY hpN (fun q => kY (fun z => q ((lw_eq x y).mpr z))) (fun q => kN ((lw_eq x y).mp q))
theorem ow_ifnonnullYes (C : OwnCtx p s m meth c Z a0 tw y0 bytes ml ret) (A : OwnPos p l e R s m args below meth c h0 ws T h ck sk) {o : Int} {b : Addr} (hd : decode bytes pc = .ok (.ifnonnull o, 3)) (ho : 0 ≤ (pc : Int) + o) (hp : ((pc : Int) + o).toNat = pc') (k : OwnWP p e below s h0 ws Q CK SK T (mkF m pc' Ls S)) : OwnWP p e below s h0 ws Q CK SK T (mkF m pc Ls (.ref b :: S)) := by
  obtain ⟨locs, X, -⟩ := A
  exact ow_st (fun _ k => XS.ifnonnullYes X.here C.1 rfl (pc0 := pc) (pc' := pc') rfl (hb C.2.2.2.1 hd) rfl ho hp k) k
theorem ow_ifnonnullNo (C : OwnCtx p s m meth c Z a0 tw y0 bytes ml ret) (A : OwnPos p l e R s m args below meth c h0 ws T h ck sk) {o : Int} (hd : decode bytes pc = .ok (.ifnonnull o, 3)) (hp : pc + 3 = pc') (k : OwnWP p e below s h0 ws Q CK SK T (mkF m pc' Ls S)) : OwnWP p e below s h0 ws Q CK SK T (mkF m pc Ls (.null :: S)) := by
  obtain ⟨locs, X, -⟩ := A; subst hp
  exact ow_st (fun _ k => XS.ifnonnullNo X.here C.1 rfl (hb C.2.2.2.1 hd) rfl k) k
theorem ow_ldcInt (C : OwnCtx p s m meth c Z a0 tw y0 bytes ml ret) (A : OwnPos p l e R s m args below meth c h0 ws T h ck sk) {i : Nat} {v : Int32} (w : Jvm.Cond.constant y0.cls i v ∈ tw) (hd : decode bytes pc = .ok (.ldc i, 2)) (hp : pc + 2 = pc') (k : OwnWP p e below s h0 ws Q CK SK T (mkF m pc' Ls (.int v :: S))) : OwnWP p e below s h0 ws Q CK SK T (mkF m pc Ls S) := by
  obtain ⟨locs, X, -⟩ := A; subst hp
  exact ow_st (X.ldcInt C.1 C.2.2.2.2.2.1 (mvT C.2.1 (C.2.2.1 _ w)) (g := mkF m pc Ls S) rfl (hb C.2.2.2.1 hd)) k
theorem ow_ldc2 (C : OwnCtx p s m meth c Z a0 tw y0 bytes ml ret) (A : OwnPos p l e R s m args below meth c h0 ws T h ck sk) {i : Nat} {v : Int64} (w : Jvm.Cond.constantLong y0.cls i v ∈ tw) (hd : decode bytes pc = .ok (.ldc2_w i, 3)) (hp : pc + 3 = pc') (k : OwnWP p e below s h0 ws Q CK SK T (mkF m pc' Ls (.long v :: S))) : OwnWP p e below s h0 ws Q CK SK T (mkF m pc Ls S) := by
  obtain ⟨locs, X, -⟩ := A; subst hp
  exact ow_st (X.ldc2Long C.1 C.2.2.2.2.2.1 (mvT C.2.1 (C.2.2.1 _ w)) (g := mkF m pc Ls S) rfl (hb C.2.2.2.1 hd)) k
theorem ow_getF (C : OwnCtx p s m meth c Z a0 tw y0 bytes ml ret) (A : OwnPos p l e R s m args below meth c h0 ws T h ck sk) {i : Nat} {R0 O n d : String} {a : Addr} {v : Value} (w : Jvm.Cond.fieldLink y0.cls i R0 n d ∈ tw) (via : Via Z R0 O n d) (F : Fld Z h a O n d v) (hd : decode bytes pc = .ok (.getfield i, 3)) (hp : pc + 3 = pc') (k : ∀ T', OwnPos p l e R s m args below meth c h0 ws T' h ck sk → OwnWP p e below s h0 ws Q CK SK T' (mkF m pc' Ls (v :: S))) : OwnWP p e below s h0 ws Q CK SK T (mkF m pc Ls (.ref a :: S)) := by
  obtain ⟨locs, X, e1, N, K⟩ := A; subst hp
  obtain ⟨T', X', e', st⟩ := getF X C.1 C.2.1 C.2.2.2.2.2.1 (host := "") (Or.inl (C.2.2.1 _ w)) via e1 F (g := mkF m pc Ls (.ref a :: S)) rfl rfl (hb C.2.2.2.1 hd)
  exact ow_st st (k T' ⟨locs, X', e', N, K⟩)
theorem ow_putF (C : OwnCtx p s m meth c Z a0 tw y0 bytes ml ret) (A : OwnPos p l e R s m args below meth c h0 ws T h ck sk) {i kk : Nat} {R0 O n d D : String} {a : Addr} {v old : Value} {ty : FieldType} (w : Jvm.Cond.fieldLink y0.cls i R0 n d ∈ tw) (via : Via Z R0 O n d) (F : Fld Z h a O n d old) (E : Exa Z h a D) (wl : Jvm.Cond.lays D O n d ∈ tw) (wi : Jvm.Cond.instantiable D kk ∈ tw) (hty : parseFieldDescriptor d = some ty) (hn : narrow ty v = v) (hf : fits ty v = true) (q : a ∈ ws ∨ h0.size ≤ a) (hd : decode bytes pc = .ok (.putfield i, 3)) (hp : pc + 3 = pc') (k : ∀ T' h', Wr h h' a (slotOf Z O n d) v → OwnPos p l e R s m args below meth c h0 ws T' h' ck sk → OwnWP p e below s h0 ws Q CK SK T' (mkF m pc' Ls S)) : OwnWP p e below s h0 ws Q CK SK T (mkF m pc Ls (v :: .ref a :: S)) := by
  obtain ⟨locs, X, e1, N, K⟩ := A; subst hp
  obtain ⟨T', h', X', e', W', st⟩ := putF X C.1 C.2.1 C.2.2.2.2.2.1 (host := "") (Or.inl (C.2.2.1 _ w)) via e1 F E (Or.inl (C.2.2.1 _ wl)) (C.2.2.1 _ wi) hty hn hf (g := mkF m pc Ls (v :: .ref a :: S)) rfl rfl (hb C.2.2.2.1 hd)
  exact ow_st st (k T' h' W' ⟨_, X', e', fun y hy => (List.mem_append.mp hy).elim (N y) fun z => by cases List.mem_singleton.mp z; exact q, K.wr W' q⟩)
theorem ow_putFin (C : OwnCtx p s m meth c Z a0 tw y0 bytes ml ret) (A : OwnPos p l e R s m args below meth c h0 ws T h ck sk) {i kk : Nat} {R0 O n d D : String} {a : Addr} {v old : Value} {ty : FieldType} (w : Jvm.Cond.fieldLink y0.cls i R0 n d ∈ tw) (via : Via Z R0 O n d) (F : Fld Z h a O n d old) (E : Exa Z h a D) (wl : Jvm.Cond.laysFinal D O n d ∈ tw) (hO : y0.cls = O) (hi : y0.name = "<init>") (wi : Jvm.Cond.instantiable D kk ∈ tw) (hty : parseFieldDescriptor d = some ty) (hn : narrow ty v = v) (hf : fits ty v = true) (q : a ∈ ws ∨ h0.size ≤ a) (hd : decode bytes pc = .ok (.putfield i, 3)) (hp : pc + 3 = pc') (k : ∀ T' h', Wr h h' a (slotOf Z O n d) v → OwnPos p l e R s m args below meth c h0 ws T' h' ck sk → OwnWP p e below s h0 ws Q CK SK T' (mkF m pc' Ls S)) : OwnWP p e below s h0 ws Q CK SK T (mkF m pc Ls (v :: .ref a :: S)) := by
  obtain ⟨locs, X, e1, N, K⟩ := A; subst hp
  obtain ⟨T', h', X', e', W', st⟩ := putF X C.1 C.2.1 C.2.2.2.2.2.1 (host := "") (Or.inl (C.2.2.1 _ w)) via e1 F E (Or.inr ⟨C.2.2.1 _ wl, hO, C.2.2.2.2.2.2.1.trans hi⟩) (C.2.2.1 _ wi) hty hn hf (g := mkF m pc Ls (v :: .ref a :: S)) rfl rfl (hb C.2.2.2.1 hd)
  exact ow_st st (k T' h' W' ⟨_, X', e', fun y hy => (List.mem_append.mp hy).elim (N y) fun z => by cases List.mem_singleton.mp z; exact q, K.wr W' q⟩)
theorem ow_new (C : OwnCtx p s m meth c Z a0 tw y0 bytes ml ret) (A : OwnPos p l e R s m args below meth c h0 ws T h ck sk) {i n ck' sk' : Nat} {D : String} (w : Jvm.Cond.classLink y0.cls i D ∈ tw) (wi : Jvm.Cond.instantiable D n ∈ tw) (wz : Jvm.Cond.initialized D ∈ tw) (hd : decode bytes pc = .ok (.new i, 3)) (hp : pc + 3 = pc') (hck : ck + 1 = ck') (hsk : sk + n = sk') (hc : ck' ≤ R.cells) (hs : sk' ≤ R.slots)
    (k : ∀ T' h' b, b = h.size → Ext h h' → Exa Z h' b D → (∀ {O nm d : String} {ty : FieldType}, Laid Z a0 D O nm d → parseFieldDescriptor d = some ty → Fld Z h' b O nm d (defaultValue ty)) → OwnPos p l e R s m args below meth c h0 ws T' h' ck' sk' → OwnWP p e below s h0 ws Q CK SK T' (mkF m pc' Ls (.ref b :: S))) : OwnWP p e below s h0 ws Q CK SK T (mkF m pc Ls S) := by
  obtain ⟨locs, X, e1, N, K⟩ := A; subst hp hck hsk
  obtain ⟨T', h', X', e', E', A', D', -, st⟩ := newO X C.1 C.2.1 C.2.2.2.2.2.1 (C.2.2.1 _ w) (C.2.2.1 _ wi) (C.2.2.1 _ wz) e1 (g := mkF m pc Ls S) rfl (hb C.2.2.2.1 hd) hc hs
  exact ow_st st (k T' h' h.size rfl E' A' D' ⟨locs, X', e', N, K.ext E'⟩)
theorem ow_newA (C : OwnCtx p s m meth c Z a0 tw y0 bytes ml ret) (A : OwnPos p l e R s m args below meth c h0 ws T h ck sk) {aty : ArrayType} {ty : FieldType} {n : Int32} {cap ck' sk' : Nat} (hty : newarray.typeOf aty = ty) (w : Jvm.Cond.arrayClass ty ∈ tw) (hd : decode bytes pc = .ok (.newarray aty, 2)) (hp : pc + 2 = pc') (hn : ¬ n < 0) (hcap : n.toNatClampNeg ≤ cap) (hb8 : cap * 8 ≤ 536870912) (hck : ck + 1 = ck') (hsk : sk + cap = sk') (hc : ck' ≤ R.cells) (hs : sk' ≤ R.slots)
    (k : ∀ T' h' b kk, b = h.size → Ext h h' → Arv Z h' b kk ty n [] (defaultValue ty) → OwnPos p l e R s m args below meth c h0 ws T' h' ck' sk' → OwnWP p e below s h0 ws Q CK SK T' (mkF m pc' Ls (.ref b :: S))) : OwnWP p e below s h0 ws Q CK SK T (mkF m pc Ls (.int n :: S)) := by
  obtain ⟨locs, X, e1, N, K⟩ := A; subst hp hck hsk hty
  obtain ⟨T', h', kk, X', e', E', A', st⟩ := newP X C.1 C.2.1 (C.2.2.1 _ w) e1 (g := mkF m pc Ls (.int n :: S)) rfl (hb C.2.2.2.1 hd) rfl hn (cap := cap) hcap hb8 hc hs
  exact ow_st st (k T' h' h.size kk rfl E' (Arv.new A' hn) ⟨locs, X', e', N, K.ext E'⟩)
theorem ow_alen (C : OwnCtx p s m meth c Z a0 tw y0 bytes ml ret) (A : OwnPos p l e R s m args below meth c h0 ws T h ck sk) {a : Addr} {kk : ClassId} {ty : FieldType} {n : Int32} {vs : List Value} {dv : Value} (V : Arv Z h a kk ty n vs dv) (hd : decode bytes pc = .ok (.arraylength, 1)) (hp : pc + 1 = pc') (k : OwnWP p e below s h0 ws Q CK SK T (mkF m pc' Ls (.int n :: S))) : OwnWP p e below s h0 ws Q CK SK T (mkF m pc Ls (.ref a :: S)) := by
  obtain ⟨locs, X, rfl, -⟩ := A; subst hp
  obtain ⟨cl, Ar, -, S1, N1, -, -⟩ := V
  refine ow_st (fun t k => X.arraylength C.1 Ar.1 (State.isArrayOf_alike C.2.1.alike Ar.2.1) (g := mkF m pc Ls (.ref a :: S)) rfl rfl (hb C.2.2.2.1 hd) t k) ?_
  rw [len_of S1 N1]; exact k
theorem ow_iaload (C : OwnCtx p s m meth c Z a0 tw y0 bytes ml ret) (A : OwnPos p l e R s m args below meth c h0 ws T h ck sk) {a : Addr} {kk : ClassId} {n j : Int32} {vs : List Value} {dv v : Value} (V : Arv Z h a kk .int n vs dv) (hj : ¬ j < 0 ∧ j < n) (hv : vs.getD j.toNatClampNeg dv = v) (hd : decode bytes pc = .ok (.iaload, 1)) (hp : pc + 1 = pc') (k : OwnWP p e below s h0 ws Q CK SK T (mkF m pc' Ls (v :: S))) : OwnWP p e below s h0 ws Q CK SK T (mkF m pc Ls (.int j :: .ref a :: S)) := by
  obtain ⟨locs, X, rfl, -⟩ := A; subst hp
  obtain ⟨cl, Ar, -, S1, N1, H1, -⟩ := V
  have hin := inb_of S1 hj
  exact ow_st (fun t k => X.iaload C.1 (j := j) (v := v) Ar.1 (State.isArrayOf_alike C.2.1.alike Ar.2.1) Ar.2.2 hin (H1.at hin hv) (g := mkF m pc Ls (.int j :: .ref a :: S)) rfl rfl (hb C.2.2.2.1 hd) t k) k
theorem ow_laload (C : OwnCtx p s m meth c Z a0 tw y0 bytes ml ret) (A : OwnPos p l e R s m args below meth c h0 ws T h ck sk) {a : Addr} {kk : ClassId} {n j : Int32} {vs : List Value} {dv v : Value} (V : Arv Z h a kk .long n vs dv) (hj : ¬ j < 0 ∧ j < n) (hv : vs.getD j.toNatClampNeg dv = v) (hd : decode bytes pc = .ok (.laload, 1)) (hp : pc + 1 = pc') (k : OwnWP p e below s h0 ws Q CK SK T (mkF m pc' Ls (v :: S))) : OwnWP p e below s h0 ws Q CK SK T (mkF m pc Ls (.int j :: .ref a :: S)) := by
  obtain ⟨locs, X, rfl, -⟩ := A; subst hp
  obtain ⟨cl, Ar, -, S1, N1, H1, -⟩ := V
  have hin := inb_of S1 hj
  exact ow_st (fun t k => X.laload C.1 (j := j) (v := v) Ar.1 (State.isArrayOf_alike C.2.1.alike Ar.2.1) Ar.2.2 hin (H1.at hin hv) (g := mkF m pc Ls (.int j :: .ref a :: S)) rfl rfl (hb C.2.2.2.1 hd) t k) k
theorem ow_baload (C : OwnCtx p s m meth c Z a0 tw y0 bytes ml ret) (A : OwnPos p l e R s m args below meth c h0 ws T h ck sk) {a : Addr} {kk : ClassId} {n j : Int32} {vs : List Value} {dv v : Value} (V : Arv Z h a kk .byte n vs dv) (hj : ¬ j < 0 ∧ j < n) (hv : vs.getD j.toNatClampNeg dv = v) (hd : decode bytes pc = .ok (.baload, 1)) (hp : pc + 1 = pc') (k : OwnWP p e below s h0 ws Q CK SK T (mkF m pc' Ls (v :: S))) : OwnWP p e below s h0 ws Q CK SK T (mkF m pc Ls (.int j :: .ref a :: S)) := by
  obtain ⟨locs, X, rfl, -⟩ := A; subst hp
  obtain ⟨cl, Ar, -, S1, N1, H1, -⟩ := V
  have hin := inb_of S1 hj
  exact ow_st (fun t k => X.baloadBytes C.1 (j := j) (v := v) Ar.1 (State.isArrayOf_alike C.2.1.alike Ar.2.1) Ar.2.2 hin (H1.at hin hv) (g := mkF m pc Ls (.int j :: .ref a :: S)) rfl rfl (hb C.2.2.2.1 hd) t k) k
theorem ow_iastore (C : OwnCtx p s m meth c Z a0 tw y0 bytes ml ret) (A : OwnPos p l e R s m args below meth c h0 ws T h ck sk) {a : Addr} {kk : ClassId} {n j : Int32} {x : Int32} {vs : List Value} {dv : Value} {i : Nat} (V : Arv Z h a kk .int n vs dv) (hj : ¬ j < 0 ∧ j < n) (hi : j.toNatClampNeg = i) (hl : i < vs.length) (q : a ∈ ws ∨ h0.size ≤ a) (hd : decode bytes pc = .ok (.iastore, 1)) (hp : pc + 1 = pc')
    (k : ∀ T' h', Wr h h' a j.toNatClampNeg (.int x) → Arv Z h' a kk .int n (vs.set i (.int x)) dv → OwnPos p l e R s m args below meth c h0 ws T' h' ck sk → OwnWP p e below s h0 ws Q CK SK T' (mkF m pc' Ls S)) : OwnWP p e below s h0 ws Q CK SK T (mkF m pc Ls (.int x :: .int j :: .ref a :: S)) := by
  obtain ⟨locs, X, e1, N, K⟩ := A; subst hp
  obtain ⟨cl, Ar, q1, S1, N1, H1, G1⟩ := V
  have hin := inb_of S1 hj
  obtain ⟨T', h', X', e', W', st⟩ := stI X C.1 C.2.1 e1 Ar (j := j) hin (g := mkF m pc Ls (.int x :: .int j :: .ref a :: S)) rfl rfl (hb C.2.2.2.1 hd)
  exact ow_st st (k T' h' W' (Arv.set Ar q1 S1 N1 H1 G1 rfl W' i hi hl) ⟨_, X', e', fun y hy => (List.mem_append.mp hy).elim (N y) fun z => by cases List.mem_singleton.mp z; exact q, K.wr W' q⟩)
theorem ow_lastore (C : OwnCtx p s m meth c Z a0 tw y0 bytes ml ret) (A : OwnPos p l e R s m args below meth c h0 ws T h ck sk) {a : Addr} {kk : ClassId} {n j : Int32} {x : Int64} {vs : List Value} {dv : Value} {i : Nat} (V : Arv Z h a kk .long n vs dv) (hj : ¬ j < 0 ∧ j < n) (hi : j.toNatClampNeg = i) (hl : i < vs.length) (q : a ∈ ws ∨ h0.size ≤ a) (hd : decode bytes pc = .ok (.lastore, 1)) (hp : pc + 1 = pc')
    (k : ∀ T' h', Wr h h' a j.toNatClampNeg (.long x) → Arv Z h' a kk .long n (vs.set i (.long x)) dv → OwnPos p l e R s m args below meth c h0 ws T' h' ck sk → OwnWP p e below s h0 ws Q CK SK T' (mkF m pc' Ls S)) : OwnWP p e below s h0 ws Q CK SK T (mkF m pc Ls (.long x :: .int j :: .ref a :: S)) := by
  obtain ⟨locs, X, e1, N, K⟩ := A; subst hp
  obtain ⟨cl, Ar, q1, S1, N1, H1, G1⟩ := V
  have hin := inb_of S1 hj
  obtain ⟨T', h', X', e', W', st⟩ := stJ X C.1 C.2.1 e1 Ar (j := j) hin (g := mkF m pc Ls (.long x :: .int j :: .ref a :: S)) rfl rfl (hb C.2.2.2.1 hd)
  exact ow_st st (k T' h' W' (Arv.set Ar q1 S1 N1 H1 G1 rfl W' i hi hl) ⟨_, X', e', fun y hy => (List.mem_append.mp hy).elim (N y) fun z => by cases List.mem_singleton.mp z; exact q, K.wr W' q⟩)
theorem ow_bastore (C : OwnCtx p s m meth c Z a0 tw y0 bytes ml ret) (A : OwnPos p l e R s m args below meth c h0 ws T h ck sk) {a : Addr} {kk : ClassId} {n j : Int32} {x : Int32} {vs : List Value} {dv : Value} {i : Nat} (V : Arv Z h a kk .byte n vs dv) (hj : ¬ j < 0 ∧ j < n) (hi : j.toNatClampNeg = i) (hl : i < vs.length) (q : a ∈ ws ∨ h0.size ≤ a) (hd : decode bytes pc = .ok (.bastore, 1)) (hp : pc + 1 = pc')
    (k : ∀ T' h', Wr h h' a j.toNatClampNeg (.int x.toInt8.toInt32) → Arv Z h' a kk .byte n (vs.set i (.int x.toInt8.toInt32)) dv → OwnPos p l e R s m args below meth c h0 ws T' h' ck sk → OwnWP p e below s h0 ws Q CK SK T' (mkF m pc' Ls S)) : OwnWP p e below s h0 ws Q CK SK T (mkF m pc Ls (.int x :: .int j :: .ref a :: S)) := by
  obtain ⟨locs, X, e1, N, K⟩ := A; subst hp
  obtain ⟨cl, Ar, q1, S1, N1, H1, G1⟩ := V
  have hin := inb_of S1 hj
  obtain ⟨T', h', X', e', W', st⟩ := stB X C.1 C.2.1 e1 Ar (j := j) hin (g := mkF m pc Ls (.int x :: .int j :: .ref a :: S)) rfl rfl (hb C.2.2.2.1 hd)
  exact ow_st st (k T' h' W' (Arv.set Ar q1 S1 N1 H1 G1 (fits_nar_byte _) W' i hi hl) ⟨_, X', e', fun y hy => (List.mem_append.mp hy).elim (N y) fun z => by cases List.mem_singleton.mp z; exact q, K.wr W' q⟩)
theorem ow_initO (C : OwnCtx p s m meth c Z a0 tw y0 bytes ml ret) (A : OwnPos p l e R s m args below meth c h0 ws T h ck sk) {i W : Nat} {a : Addr} (w1 : Jvm.Cond.methodLink y0.cls i Lib.objectInit ∈ tw) (w2 : Jvm.Cond.instanceMethod Lib.objectInit ∈ tw) (w3 : Jvm.Cond.code Lib.objectInit ⟨#[0xb1]⟩ 1 none ∈ tw) (hsz : Ls.size = ml) (hd : decode bytes pc = .ok (.invokespecial i, 3)) (hp : pc + 3 = pc') (hf : 1 ≤ R.frames) (hW : 2 * 0 + (S.map fun v => v.category).sum ≤ W) (hl : W + 12 ≤ R.locals) (k : ∀ T', OwnPos p l e R s m args below meth c h0 ws T' h ck sk → OwnWP p e below s h0 ws Q CK SK T' (mkF m pc' Ls S)) : OwnWP p e below s h0 ws Q CK SK T (mkF m pc Ls (.ref a :: S)) := by
  obtain ⟨locs, X, e1, N, K⟩ := A; subst hp
  obtain ⟨T', X', e', st⟩ := initO X C.1 C.2.1 C.2.2.2.2.2.1 (C.2.2.1 _ w1) (C.2.2.1 _ w2) (C.2.2.1 _ w3) e1 (g := mkF m pc Ls (.ref a :: S)) rfl (hsz.trans C.2.2.2.2.1.symm) rfl (hb C.2.2.2.1 hd) hf (W := W) hW hl
  exact ow_st st (k T' ⟨locs, X', e', N, K⟩)
theorem ow_callS (C : OwnCtx p s m meth c Z a0 tw y0 bytes ml ret) (A : OwnPos p l e R s m args below meth c h0 ws T h ck sk) {rm : Room} {cb : ByteArray} {cm : Nat} {cr : Option FieldType} {ws' : List Addr} {Q' : Option Value → Heap → Prop} {y : MethodName} {i W ck' sk' : Nat} {argsL : List Value} (hM : OwnCtr l Z y cb cm cr rm argsL.toArray h ws' Q' []) (w1 : Jvm.Cond.methodLink y0.cls i y ∈ tw) (w2 : Jvm.Cond.static y ∈ tw) (w3 : Jvm.Cond.initialized y.cls ∈ tw) (w4 : Jvm.Cond.code y cb cm cr ∈ tw) (hy : y.cls ≠ "java/lang/invoke/MethodHandle" ∧ y.cls ≠ "java/lang/invoke/VarHandle") (hq : ∀ x ∈ ws', x ∈ ws ∨ h0.size ≤ x) (hfr : rm.frames + 1 ≤ R.frames) (hlo : W + (cm + 11) + rm.locals ≤ R.locals) (hck : ck + rm.cells = ck') (hsk : sk + rm.slots = sk') (hc : ck' ≤ R.cells) (hs : sk' ≤ R.slots) (hsz : Ls.size = ml) (hlen : ∀ sig, parseMethodDescriptor y.desc = some sig → argsL.length = sig.parameters.length) {st0 : List Value} (hst : st0 = argsL.reverse ++ S) (hW : 2 * 0 + (S.map fun v => v.category).sum ≤ W) (hd : decode bytes pc = .ok (.invokestatic i, 3)) (hp : pc + 3 = pc') (k : ∀ T' v, Keep h T'.heap ws' → Q' v T'.heap → OwnPos p l e R s m args below meth c h0 ws T' T'.heap ck' sk' → OwnWP p e below s h0 ws Q CK SK T' (mkF m pc' Ls (v.toList ++ S))) : OwnWP p e below s h0 ws Q CK SK T (mkF m pc Ls st0) := by
  obtain ⟨locs, X, e1, N, K⟩ := A; subst hp hck hsk hst
  obtain ⟨v, _, ⟨T', L', k', n'⟩, -, X', ⟨Lc, ⟨hN, hKe, hQ⟩, hl, hc', hs'⟩, st⟩ := Jvm.LawKit.callS X C.1 (y := y) C.2.2.2.2.2.1 (mvT C.2.1 (C.2.2.1 _ w1)) (mvT C.2.1 (C.2.2.1 _ w2)) (mvT C.2.1 (C.2.2.1 _ w3)) (mvT C.2.1 (C.2.2.1 _ w4)) hy (backOf (W := W) (Q := fun v hh L => ((∀ y ∈ L, y.base ∈ ws' ∨ h.size ≤ y.base) ∧ Keep h hh ws' ∧ Q' v hh)) hM C.2.1 (C.2.2.1 _ w4) (C.2.2.1 _ w3) hfr hlo) (g := mkF m pc Ls (argsL.reverse ++ S)) rfl (hsz.trans C.2.2.2.2.1.symm) (argsL := argsL) (rest := S) hlen rfl hW (hb C.2.2.2.1 hd) (fun _ _ => ⟨rfl, e1, hc, hs⟩)
  dsimp only [Pt.U, Pt.locs, Pt.cells, Pt.slots] at X' hl hc' hs' st hN hKe hQ
  subst hl hc' hs'
  exact ow_st st (k T' v hKe hQ ⟨_, X', rfl, fun y hy => (List.mem_append.mp hy).elim (N y) fun z => (hN y z).elim (fun u => hq _ u) fun u => Or.inr (Nat.le_trans K.1 u), K.trans hKe hq⟩)
theorem ow_callI (C : OwnCtx p s m meth c Z a0 tw y0 bytes ml ret) (A : OwnPos p l e R s m args below meth c h0 ws T h ck sk) {rm : Room} {cb : ByteArray} {cm : Nat} {cr : Option FieldType} {ws' : List Addr} {Q' : Option Value → Heap → Prop} {y : MethodName} {i W ck' sk' : Nat} {argsL : List Value} {a : Addr} (hM : OwnCtr l Z y cb cm none rm (.ref a :: argsL).toArray h ws' Q' []) (hy1 : y.name = "<init>") (w1 : Jvm.Cond.methodLink y0.cls i y ∈ tw) (w2 : Jvm.Cond.instanceMethod y ∈ tw) (w3 : Jvm.Cond.initialized y.cls ∈ tw) (w4 : Jvm.Cond.code y cb cm none ∈ tw) (hy : y.cls ≠ "java/lang/invoke/MethodHandle" ∧ y.cls ≠ "java/lang/invoke/VarHandle") (hq : ∀ x ∈ ws', x ∈ ws ∨ h0.size ≤ x) (hfr : rm.frames + 1 ≤ R.frames) (hlo : W + (cm + 11) + rm.locals ≤ R.locals) (hck : ck + rm.cells = ck') (hsk : sk + rm.slots = sk') (hc : ck' ≤ R.cells) (hs : sk' ≤ R.slots) (hsz : Ls.size = ml) (hlen : ∀ sig, parseMethodDescriptor y.desc = some sig → argsL.length = sig.parameters.length) {st0 : List Value} (hst : st0 = argsL.reverse ++ .ref a :: S) (hW : 2 * 0 + (S.map fun v => v.category).sum ≤ W) (hd : decode bytes pc = .ok (.invokespecial i, 3)) (hp : pc + 3 = pc') (k : ∀ T' v, Keep h T'.heap ws' → Q' v T'.heap → OwnPos p l e R s m args below meth c h0 ws T' T'.heap ck' sk' → OwnWP p e below s h0 ws Q CK SK T' (mkF m pc' Ls (v.toList ++ S))) : OwnWP p e below s h0 ws Q CK SK T (mkF m pc Ls st0) := by
  obtain ⟨locs, X, e1, N, K⟩ := A; subst hp hck hsk hst
  obtain ⟨v, _, ⟨T', L', k', n'⟩, -, X', ⟨Lc, ⟨hN, hKe, hQ⟩, hl, hc', hs'⟩, st⟩ := X.specialBack C.1 (y := y) hy1 C.2.2.2.2.2.1 (mvT C.2.1 (C.2.2.1 _ w1)) (mvT C.2.1 (C.2.2.1 _ w2)) (mvT C.2.1 (C.2.2.1 _ w4)) hy (backOf (W := W) (Q := fun v hh L => ((∀ y ∈ L, y.base ∈ ws' ∨ h.size ≤ y.base) ∧ Keep h hh ws' ∧ Q' v hh)) hM C.2.1 (C.2.2.1 _ w4) (C.2.2.1 _ w3) hfr hlo) (g := mkF m pc Ls (argsL.reverse ++ .ref a :: S)) rfl (hsz.trans C.2.2.2.2.1.symm) (Steps.refl _) (a := a) (argsL := argsL) (rest := S) hlen rfl hW (hb C.2.2.2.1 hd) (fun _ _ => ⟨rfl, e1, hc, hs⟩)
  dsimp only [Pt.U, Pt.locs, Pt.cells, Pt.slots] at X' hl hc' hs' st hN hKe hQ
  subst hl hc' hs'
  exact ow_stT st (k T' v hKe hQ ⟨_, X', rfl, fun y hy => (List.mem_append.mp hy).elim (N y) fun z => (hN y z).elim (fun u => hq _ u) fun u => Or.inr (Nat.le_trans K.1 u), K.trans hKe hq⟩)
theorem ow_callV (C : OwnCtx p s m meth c Z a0 tw y0 bytes ml ret) (A : OwnPos p l e R s m args below meth c h0 ws T h ck sk) {rm : Room} {cb : ByteArray} {cm : Nat} {cr : Option FieldType} {ws' : List Addr} {Q' : Option Value → Heap → Prop} {y : MethodName} {i W ck' sk' : Nat} {argsL : List Value} {z : MethodName} {D : String} {a : Addr} (E : Exa Z h a D) (hM : OwnCtr l Z z cb cm cr rm (.ref a :: argsL).toArray h ws' Q' []) (w1 : Jvm.Cond.methodLink y0.cls i y ∈ tw) (w5 : Jvm.Cond.declares y ∈ tw) (hnf : ∀ s : State, ∀ args : Array Value, Z.Warmed39 s.vm → NotFace s y) (w6 : Jvm.Cond.selects D y z ∈ tw) (w2 : Jvm.Cond.instanceMethod z ∈ tw) (w3 : Jvm.Cond.initialized z.cls ∈ tw) (w4 : Jvm.Cond.code z cb cm cr ∈ tw) (hy : y.cls ≠ "java/lang/invoke/MethodHandle" ∧ y.cls ≠ "java/lang/invoke/VarHandle") (hq : ∀ x ∈ ws', x ∈ ws ∨ h0.size ≤ x) (hfr : rm.frames + 1 ≤ R.frames) (hlo : W + (cm + 11) + rm.locals ≤ R.locals) (hck : ck + rm.cells = ck') (hsk : sk + rm.slots = sk') (hc : ck' ≤ R.cells) (hs : sk' ≤ R.slots) (hsz : Ls.size = ml) (hlen : ∀ sig, parseMethodDescriptor y.desc = some sig → argsL.length = sig.parameters.length) {st0 : List Value} (hst : st0 = argsL.reverse ++ .ref a :: S) (hW : 2 * 0 + (S.map fun v => v.category).sum ≤ W) (hd : decode bytes pc = .ok (.invokevirtual i, 3)) (hp : pc + 3 = pc') (k : ∀ T' v, Keep h T'.heap ws' → Q' v T'.heap → OwnPos p l e R s m args below meth c h0 ws T' T'.heap ck' sk' → OwnWP p e below s h0 ws Q CK SK T' (mkF m pc' Ls (v.toList ++ S))) : OwnWP p e below s h0 ws Q CK SK T (mkF m pc Ls st0) := by
  obtain ⟨locs, X, e1, N, K⟩ := A; subst hp hck hsk hst
  obtain ⟨cq, kq, qa, qb, qc⟩ := isOf C.2.1 e1 E
  obtain ⟨v, _, ⟨T', L', k', n'⟩, -, X', ⟨Lc, ⟨hN, hKe, hQ⟩, hl, hc', hs'⟩, st⟩ := X.virtualBack C.1 (y := y) (z := z) C.2.2.2.2.2.1 (mvT C.2.1 (C.2.2.1 _ w1)) (mvT C.2.1 (C.2.2.1 _ w5)) (hnf s #[] C.2.1) (mvT C.2.1 (C.2.2.1 _ w6)) (mvT C.2.1 (C.2.2.1 _ w2)) hy (backOf (W := W) (Q := fun v hh L => ((∀ y ∈ L, y.base ∈ ws' ∨ h.size ≤ y.base) ∧ Keep h hh ws' ∧ Q' v hh)) hM C.2.1 (C.2.2.1 _ w4) (C.2.2.1 _ w3) hfr hlo) qa qc (g := mkF m pc Ls (argsL.reverse ++ .ref a :: S)) rfl (hsz.trans C.2.2.2.2.1.symm) (Steps.refl _) (argsL := argsL) (rest := S) hlen rfl hW (hb C.2.2.2.1 hd) (fun _ _ => ⟨rfl, e1, hc, hs⟩)
  dsimp only [Pt.U, Pt.locs, Pt.cells, Pt.slots] at X' hl hc' hs' st hN hKe hQ
  subst hl hc' hs'
  exact ow_stT st (k T' v hKe hQ ⟨_, X', rfl, fun y hy => (List.mem_append.mp hy).elim (N y) fun z => (hN y z).elim (fun u => hq _ u) fun u => Or.inr (Nat.le_trans K.1 u), K.trans hKe hq⟩)
theorem ow_selP {y : MethodName} {n : Nat} (hy : y.cls ≠ "java/lang/invoke/MethodHandle" ∧ y.cls ≠ "java/lang/invoke/VarHandle") (hins : (Jvm.Cond.instantiable y.cls n).before args s = true) (hpriv : (Jvm.Cond.privateMethod y).before args s = true) (hinst : (Jvm.Cond.instanceMethod y).before args s = true) :
    (Jvm.Cond.selects y.cls y y).before args s = true := by
  obtain ⟨c, k, hc, hk, -, hniab, -, -⟩ := Cond.instantiable_spec hins
  have hni : k.isInterface = false := (Bool.or_eq_false_iff.mp hniab).1
  obtain ⟨mk, methM, hnamed, hmethM, -, -⟩ := Cond.instanceMethod_spec hinst
  have hfound : s.methodFound? y.cls y.name y.desc = some mk := State.methodFound?_of_named hnamed hy
  have hcls : mk.cls = c := Option.some.inj ((findClass_of_methodNamed hnamed).symm.trans hc)
  have hsel : selectMethod {} s.vm c mk = .method mk := selectMethod_private hmethM (Cond.privateMethod_at hpriv mk methM hnamed hmethM)
  simp only [Cond.before, Cond.holds, Cond.value, hc, hfound, hnamed, hsel, hcls, hk]
  simp; exact hni
theorem ow_callP (C : OwnCtx p s m meth c Z a0 tw y0 bytes ml ret) (A : OwnPos p l e R s m args below meth c h0 ws T h ck sk) {rm : Room} {cb : ByteArray} {cm : Nat} {cr : Option FieldType} {ws' : List Addr} {Q' : Option Value → Heap → Prop} {y : MethodName} {i W ck' sk' : Nat} {argsL : List Value} {D : String} {a : Addr} (E : Exa Z h a D) (hM : OwnCtr l Z y cb cm cr rm (.ref a :: argsL).toArray h ws' Q' []) (w1 : Jvm.Cond.methodLink y0.cls i y ∈ tw) (w5 : Jvm.Cond.privateMethod y ∈ tw) {ni : Nat} (w6 : Jvm.Cond.instantiable y.cls ni ∈ tw) (w2 : Jvm.Cond.instanceMethod y ∈ tw) (w3 : Jvm.Cond.initialized y.cls ∈ tw) (w4 : Jvm.Cond.code y cb cm cr ∈ tw) (hy : y.cls ≠ "java/lang/invoke/MethodHandle" ∧ y.cls ≠ "java/lang/invoke/VarHandle") (hq : ∀ x ∈ ws', x ∈ ws ∨ h0.size ≤ x) (hfr : rm.frames + 1 ≤ R.frames) (hlo : W + (cm + 11) + rm.locals ≤ R.locals) (hck : ck + rm.cells = ck') (hsk : sk + rm.slots = sk') (hc : ck' ≤ R.cells) (hs : sk' ≤ R.slots) (hsz : Ls.size = ml) (hlen : ∀ sig, parseMethodDescriptor y.desc = some sig → argsL.length = sig.parameters.length) {st0 : List Value} (hst : st0 = argsL.reverse ++ .ref a :: S) (hW : 2 * 0 + (S.map fun v => v.category).sum ≤ W) (hd : decode bytes pc = .ok (.invokevirtual i, 3)) (hp : pc + 3 = pc') (k : ∀ T' v, Keep h T'.heap ws' → Q' v T'.heap → OwnPos p l e R s m args below meth c h0 ws T' T'.heap ck' sk' → OwnWP p e below s h0 ws Q CK SK T' (mkF m pc' Ls (v.toList ++ S))) : OwnWP p e below s h0 ws Q CK SK T (mkF m pc Ls st0) := by
  obtain ⟨locs, X, e1, N, K⟩ := A; subst hp hck hsk hst
  obtain ⟨cq, qa, qb⟩ := E.cell
  obtain ⟨v, _, ⟨T', L', k', n'⟩, -, X', ⟨Lc, ⟨hN, hKe, hQ⟩, hl, hc', hs'⟩, st⟩ := X.privateBack C.1 (y := y) C.2.2.2.2.2.1 (mvT C.2.1 (C.2.2.1 _ w1)) (mvT C.2.1 (C.2.2.1 _ w2)) (ow_selP hy (mvT C.2.1 (C.2.2.1 _ w6)) (mvP C.2.1 (C.2.2.1 _ w5)) (mvT C.2.1 (C.2.2.1 _ w2))) (Cond.privateMethod_at (mvP C.2.1 (C.2.2.1 _ w5) (args := #[]))) (mvT C.2.1 (C.2.2.1 _ w4)) hy (backOf (W := W) (Q := fun v hh L => ((∀ y ∈ L, y.base ∈ ws' ∨ h.size ≤ y.base) ∧ Keep h hh ws' ∧ Q' v hh)) hM C.2.1 (C.2.2.1 _ w4) (C.2.2.1 _ w3) hfr hlo) (g := mkF m pc Ls (argsL.reverse ++ .ref a :: S)) rfl (hsz.trans C.2.2.2.2.1.symm) (Steps.refl _) (a := a) (by rw [e1]; exact qa) qb (argsL := argsL) (rest := S) hlen rfl hW (hb C.2.2.2.1 hd) (fun _ _ => ⟨rfl, e1, hc, hs⟩)
  dsimp only [Pt.U, Pt.locs, Pt.cells, Pt.slots] at X' hl hc' hs' st hN hKe hQ
  subst hl hc' hs'
  exact ow_stT st (k T' v hKe hQ ⟨_, X', rfl, fun y hy => (List.mem_append.mp hy).elim (N y) fun z => (hN y z).elim (fun u => hq _ u) fun u => Or.inr (Nat.le_trans K.1 u), K.trans hKe hq⟩)
theorem ow_nf {y : MethodName} {D : String} (hw : ∀ d ∈ tw, d.before a0 Z = true) (w6 : Jvm.Cond.selects D y y ∈ tw) : ∀ s : State, ∀ args : Array Value, Z.Warmed39 s.vm → NotFace s y := fun s args hZ => notFace_of_selects (args := args) (mvT hZ (hw _ w6))
end Own
end Jvm.RoadKit
namespace Jvm.Pilot.@@N@@
open Jvm Jvm.ClassFile Sem Op Lib Jvm.Free Jvm.Stand Jvm.LawKit Jvm.RoadKit Bundle Jvm.Pilot.@@N@@.Jvm.D
theorem tw_0 : (Jvm.Cond.arrayClass Jvm.ClassFile.FieldType.byte) ∈ tables_1 := List.mem_of_getElem? (i := 0) rfl
theorem tw_1 : (Jvm.Cond.methodLink "com/example/canonwire/canonwire/Utf8LengthPinLaw" (7 : Nat) ({ cls := "com/example/canonwire/canonwire/Utf8", name := "codePointAt", desc := "([BII)I" } : Jvm.MethodName)) ∈ tables_1 := List.mem_of_getElem? (i := 1) rfl
theorem tw_2 : (Jvm.Cond.static ({ cls := "com/example/canonwire/canonwire/Utf8", name := "codePointAt", desc := "([BII)I" } : Jvm.MethodName)) ∈ tables_1 := List.mem_of_getElem? (i := 2) rfl
theorem tw_3 : (Jvm.Cond.initialized "com/example/canonwire/canonwire/Utf8") ∈ tables_1 := List.mem_of_getElem? (i := 3) rfl
theorem tw_4 : (Jvm.Cond.code ({ cls := "com/example/canonwire/canonwire/Utf8", name := "codePointAt", desc := "([BII)I" } : Jvm.MethodName) prog_47_method_2_code (11 : Nat) (Option.some Jvm.ClassFile.FieldType.int)) ∈ tables_1 := List.mem_of_getElem? (i := 4) rfl
theorem tw_5 : (Jvm.Cond.methodLink "com/example/canonwire/canonwire/Utf8LengthPinLaw" (13 : Nat) ({ cls := "com/example/canonwire/canonwire/Utf8", name := "length", desc := "(I)I" } : Jvm.MethodName)) ∈ tables_1 := List.mem_of_getElem? (i := 5) rfl
theorem tw_6 : (Jvm.Cond.static ({ cls := "com/example/canonwire/canonwire/Utf8", name := "length", desc := "(I)I" } : Jvm.MethodName)) ∈ tables_1 := List.mem_of_getElem? (i := 6) rfl
theorem tw_7 : (Jvm.Cond.code ({ cls := "com/example/canonwire/canonwire/Utf8", name := "length", desc := "(I)I" } : Jvm.MethodName) prog_47_method_5_code (1 : Nat) (Option.some Jvm.ClassFile.FieldType.int)) ∈ tables_1 := List.mem_of_getElem? (i := 7) rfl
theorem tw_8 : (Jvm.Cond.methodLink "com/example/canonwire/canonwire/Utf8" (7 : Nat) ({ cls := "java/lang/Math", name := "min", desc := "(II)I" } : Jvm.MethodName)) ∈ tables_1 := List.mem_of_getElem? (i := 8) rfl
theorem tw_9 : (Jvm.Cond.static ({ cls := "java/lang/Math", name := "min", desc := "(II)I" } : Jvm.MethodName)) ∈ tables_1 := List.mem_of_getElem? (i := 9) rfl
theorem tw_10 : (Jvm.Cond.initialized "java/lang/Math") ∈ tables_1 := List.mem_of_getElem? (i := 10) rfl
theorem tw_11 : (Jvm.Cond.code ({ cls := "java/lang/Math", name := "min", desc := "(II)I" } : Jvm.MethodName) jdk_29_method_69_code (2 : Nat) (Option.some Jvm.ClassFile.FieldType.int)) ∈ tables_1 := List.mem_of_getElem? (i := 11) rfl
theorem tw_12 : (Jvm.Cond.constant "com/example/canonwire/canonwire/Utf8" (23 : Nat) (65536 : Int32)) ∈ tables_1 := List.mem_of_getElem? (i := 12) rfl
theorem pd_0 : parseMethodDescriptor "(II)I" = some ⟨[.int, .int], some .int⟩ := by decide +kernel
theorem pd_1 : parseMethodDescriptor "([BII)I" = some ⟨[(.array .byte), .int, .int], some .int⟩ := by decide +kernel
theorem pd_2 : parseMethodDescriptor "(I)I" = some ⟨[.int], some .int⟩ := by decide +kernel
theorem d1_0 : decode prog_47_method_2_code 0 = .ok (.aload_n 0, 1) := by decide +kernel
theorem d1_1 : decode prog_47_method_2_code 1 = .ok (.iload_n 1, 1) := by decide +kernel
theorem d1_2 : decode prog_47_method_2_code 2 = .ok (.baload, 1) := by decide +kernel
theorem d1_3 : decode prog_47_method_2_code 3 = .ok (.sipush 255, 3) := by decide +kernel
theorem d1_6 : decode prog_47_method_2_code 6 = .ok (.iand, 1) := by decide +kernel
theorem d1_7 : decode prog_47_method_2_code 7 = .ok (.istore_n 3, 1) := by decide +kernel
theorem d1_8 : decode prog_47_method_2_code 8 = .ok (.iload_n 3, 1) := by decide +kernel
theorem d1_9 : decode prog_47_method_2_code 9 = .ok (.sipush 128, 3) := by decide +kernel
theorem d1_12 : decode prog_47_method_2_code 12 = .ok (.if_icmp .ge 5, 3) := by decide +kernel
theorem d1_15 : decode prog_47_method_2_code 15 = .ok (.iload_n 3, 1) := by decide +kernel
theorem d1_16 : decode prog_47_method_2_code 16 = .ok (.ireturn, 1) := by decide +kernel
theorem d1_17 : decode prog_47_method_2_code 17 = .ok (.iload_n 3, 1) := by decide +kernel
theorem d1_18 : decode prog_47_method_2_code 18 = .ok (.sipush 194, 3) := by decide +kernel
theorem d1_21 : decode prog_47_method_2_code 21 = .ok (.if_icmp .lt 22, 3) := by decide +kernel
theorem d1_24 : decode prog_47_method_2_code 24 = .ok (.iload_n 3, 1) := by decide +kernel
theorem d1_25 : decode prog_47_method_2_code 25 = .ok (.sipush 223, 3) := by decide +kernel
theorem d1_28 : decode prog_47_method_2_code 28 = .ok (.if_icmp .gt 15, 3) := by decide +kernel
theorem d1_31 : decode prog_47_method_2_code 31 = .ok (.iconst 1, 1) := by decide +kernel
theorem d1_32 : decode prog_47_method_2_code 32 = .ok (.istore 4, 2) := by decide +kernel
theorem d1_34 : decode prog_47_method_2_code 34 = .ok (.iload_n 3, 1) := by decide +kernel
theorem d1_35 : decode prog_47_method_2_code 35 = .ok (.bipush 31, 2) := by decide +kernel
theorem d1_37 : decode prog_47_method_2_code 37 = .ok (.iand, 1) := by decide +kernel
theorem d1_38 : decode prog_47_method_2_code 38 = .ok (.istore 5, 2) := by decide +kernel
theorem d1_40 : decode prog_47_method_2_code 40 = .ok (.goto 57, 3) := by decide +kernel
theorem d1_43 : decode prog_47_method_2_code 43 = .ok (.iload_n 3, 1) := by decide +kernel
theorem d1_44 : decode prog_47_method_2_code 44 = .ok (.sipush 224, 3) := by decide +kernel
theorem d1_47 : decode prog_47_method_2_code 47 = .ok (.if_icmp .lt 22, 3) := by decide +kernel
theorem d1_50 : decode prog_47_method_2_code 50 = .ok (.iload_n 3, 1) := by decide +kernel
theorem d1_51 : decode prog_47_method_2_code 51 = .ok (.sipush 239, 3) := by decide +kernel
theorem d1_54 : decode prog_47_method_2_code 54 = .ok (.if_icmp .gt 15, 3) := by decide +kernel
theorem d1_57 : decode prog_47_method_2_code 57 = .ok (.iconst 2, 1) := by decide +kernel
theorem d1_58 : decode prog_47_method_2_code 58 = .ok (.istore 4, 2) := by decide +kernel
theorem d1_60 : decode prog_47_method_2_code 60 = .ok (.iload_n 3, 1) := by decide +kernel
theorem d1_61 : decode prog_47_method_2_code 61 = .ok (.bipush 15, 2) := by decide +kernel
theorem d1_63 : decode prog_47_method_2_code 63 = .ok (.iand, 1) := by decide +kernel
theorem d1_64 : decode prog_47_method_2_code 64 = .ok (.istore 5, 2) := by decide +kernel
theorem d1_66 : decode prog_47_method_2_code 66 = .ok (.goto 31, 3) := by decide +kernel
theorem d1_69 : decode prog_47_method_2_code 69 = .ok (.iload_n 3, 1) := by decide +kernel
theorem d1_70 : decode prog_47_method_2_code 70 = .ok (.sipush 240, 3) := by decide +kernel
theorem d1_73 : decode prog_47_method_2_code 73 = .ok (.if_icmp .lt 22, 3) := by decide +kernel
theorem d1_76 : decode prog_47_method_2_code 76 = .ok (.iload_n 3, 1) := by decide +kernel
theorem d1_77 : decode prog_47_method_2_code 77 = .ok (.sipush 244, 3) := by decide +kernel
theorem d1_80 : decode prog_47_method_2_code 80 = .ok (.if_icmp .gt 15, 3) := by decide +kernel
theorem d1_83 : decode prog_47_method_2_code 83 = .ok (.iconst 3, 1) := by decide +kernel
theorem d1_84 : decode prog_47_method_2_code 84 = .ok (.istore 4, 2) := by decide +kernel
theorem d1_86 : decode prog_47_method_2_code 86 = .ok (.iload_n 3, 1) := by decide +kernel
theorem d1_87 : decode prog_47_method_2_code 87 = .ok (.bipush 7, 2) := by decide +kernel
theorem d1_89 : decode prog_47_method_2_code 89 = .ok (.iand, 1) := by decide +kernel
theorem d1_90 : decode prog_47_method_2_code 90 = .ok (.istore 5, 2) := by decide +kernel
theorem d1_92 : decode prog_47_method_2_code 92 = .ok (.goto 5, 3) := by decide +kernel
theorem d1_95 : decode prog_47_method_2_code 95 = .ok (.iconst (-1), 1) := by decide +kernel
theorem d1_96 : decode prog_47_method_2_code 96 = .ok (.ireturn, 1) := by decide +kernel
theorem d1_97 : decode prog_47_method_2_code 97 = .ok (.iload_n 3, 1) := by decide +kernel
theorem d1_98 : decode prog_47_method_2_code 98 = .ok (.sipush 224, 3) := by decide +kernel
theorem d1_101 : decode prog_47_method_2_code 101 = .ok (.if_icmp .ne 9, 3) := by decide +kernel
theorem d1_104 : decode prog_47_method_2_code 104 = .ok (.sipush 160, 3) := by decide +kernel
theorem d1_107 : decode prog_47_method_2_code 107 = .ok (.goto 19, 3) := by decide +kernel
theorem d1_110 : decode prog_47_method_2_code 110 = .ok (.iload_n 3, 1) := by decide +kernel
theorem d1_111 : decode prog_47_method_2_code 111 = .ok (.sipush 240, 3) := by decide +kernel
theorem d1_114 : decode prog_47_method_2_code 114 = .ok (.if_icmp .ne 9, 3) := by decide +kernel
theorem d1_117 : decode prog_47_method_2_code 117 = .ok (.sipush 144, 3) := by decide +kernel
theorem d1_120 : decode prog_47_method_2_code 120 = .ok (.goto 6, 3) := by decide +kernel
theorem d1_123 : decode prog_47_method_2_code 123 = .ok (.sipush 128, 3) := by decide +kernel
theorem d1_126 : decode prog_47_method_2_code 126 = .ok (.istore 6, 2) := by decide +kernel
theorem d1_128 : decode prog_47_method_2_code 128 = .ok (.iload_n 3, 1) := by decide +kernel
theorem d1_129 : decode prog_47_method_2_code 129 = .ok (.sipush 237, 3) := by decide +kernel
theorem d1_132 : decode prog_47_method_2_code 132 = .ok (.if_icmp .ne 9, 3) := by decide +kernel
theorem d1_135 : decode prog_47_method_2_code 135 = .ok (.sipush 159, 3) := by decide +kernel
theorem d1_138 : decode prog_47_method_2_code 138 = .ok (.goto 19, 3) := by decide +kernel
theorem d1_141 : decode prog_47_method_2_code 141 = .ok (.iload_n 3, 1) := by decide +kernel
theorem d1_142 : decode prog_47_method_2_code 142 = .ok (.sipush 244, 3) := by decide +kernel
theorem d1_145 : decode prog_47_method_2_code 145 = .ok (.if_icmp .ne 9, 3) := by decide +kernel
theorem d1_148 : decode prog_47_method_2_code 148 = .ok (.sipush 143, 3) := by decide +kernel
theorem d1_151 : decode prog_47_method_2_code 151 = .ok (.goto 6, 3) := by decide +kernel
theorem d1_154 : decode prog_47_method_2_code 154 = .ok (.sipush 191, 3) := by decide +kernel
theorem d1_157 : decode prog_47_method_2_code 157 = .ok (.istore 7, 2) := by decide +kernel
theorem d1_159 : decode prog_47_method_2_code 159 = .ok (.iload_n 2, 1) := by decide +kernel
theorem d1_160 : decode prog_47_method_2_code 160 = .ok (.aload_n 0, 1) := by decide +kernel
theorem d1_161 : decode prog_47_method_2_code 161 = .ok (.arraylength, 1) := by decide +kernel
theorem d1_162 : decode prog_47_method_2_code 162 = .ok (.invokestatic 7, 3) := by decide +kernel
theorem d1_165 : decode prog_47_method_2_code 165 = .ok (.istore 8, 2) := by decide +kernel
theorem d1_167 : decode prog_47_method_2_code 167 = .ok (.iconst 1, 1) := by decide +kernel
theorem d1_168 : decode prog_47_method_2_code 168 = .ok (.istore 9, 2) := by decide +kernel
theorem d1_170 : decode prog_47_method_2_code 170 = .ok (.iload 9, 2) := by decide +kernel
theorem d1_172 : decode prog_47_method_2_code 172 = .ok (.iload 4, 2) := by decide +kernel
theorem d1_174 : decode prog_47_method_2_code 174 = .ok (.if_icmp .gt 73, 3) := by decide +kernel
theorem d1_177 : decode prog_47_method_2_code 177 = .ok (.iload_n 1, 1) := by decide +kernel
theorem d1_178 : decode prog_47_method_2_code 178 = .ok (.iload 9, 2) := by decide +kernel
theorem d1_180 : decode prog_47_method_2_code 180 = .ok (.iadd, 1) := by decide +kernel
theorem d1_181 : decode prog_47_method_2_code 181 = .ok (.iload 8, 2) := by decide +kernel
theorem d1_183 : decode prog_47_method_2_code 183 = .ok (.if_icmp .ge 16, 3) := by decide +kernel
theorem d1_186 : decode prog_47_method_2_code 186 = .ok (.aload_n 0, 1) := by decide +kernel
theorem d1_187 : decode prog_47_method_2_code 187 = .ok (.iload_n 1, 1) := by decide +kernel
theorem d1_188 : decode prog_47_method_2_code 188 = .ok (.iload 9, 2) := by decide +kernel
theorem d1_190 : decode prog_47_method_2_code 190 = .ok (.iadd, 1) := by decide +kernel
theorem d1_191 : decode prog_47_method_2_code 191 = .ok (.baload, 1) := by decide +kernel
theorem d1_192 : decode prog_47_method_2_code 192 = .ok (.sipush 255, 3) := by decide +kernel
theorem d1_195 : decode prog_47_method_2_code 195 = .ok (.iand, 1) := by decide +kernel
theorem d1_196 : decode prog_47_method_2_code 196 = .ok (.goto 4, 3) := by decide +kernel
theorem d1_200 : decode prog_47_method_2_code 200 = .ok (.istore 10, 2) := by decide +kernel
theorem d1_202 : decode prog_47_method_2_code 202 = .ok (.iload 10, 2) := by decide +kernel
theorem d1_204 : decode prog_47_method_2_code 204 = .ok (.iload 6, 2) := by decide +kernel
theorem d1_206 : decode prog_47_method_2_code 206 = .ok (.if_icmp .lt 10, 3) := by decide +kernel
theorem d1_209 : decode prog_47_method_2_code 209 = .ok (.iload 10, 2) := by decide +kernel
theorem d1_211 : decode prog_47_method_2_code 211 = .ok (.iload 7, 2) := by decide +kernel
theorem d1_213 : decode prog_47_method_2_code 213 = .ok (.if_icmp .le 5, 3) := by decide +kernel
theorem d1_216 : decode prog_47_method_2_code 216 = .ok (.iconst (-1), 1) := by decide +kernel
theorem d1_217 : decode prog_47_method_2_code 217 = .ok (.ireturn, 1) := by decide +kernel
theorem d1_218 : decode prog_47_method_2_code 218 = .ok (.iload 5, 2) := by decide +kernel
theorem d1_220 : decode prog_47_method_2_code 220 = .ok (.bipush 6, 2) := by decide +kernel
theorem d1_222 : decode prog_47_method_2_code 222 = .ok (.ishl, 1) := by decide +kernel
theorem d1_223 : decode prog_47_method_2_code 223 = .ok (.iload 10, 2) := by decide +kernel
theorem d1_225 : decode prog_47_method_2_code 225 = .ok (.bipush 63, 2) := by decide +kernel
theorem d1_227 : decode prog_47_method_2_code 227 = .ok (.iand, 1) := by decide +kernel
theorem d1_228 : decode prog_47_method_2_code 228 = .ok (.ior, 1) := by decide +kernel
theorem d1_229 : decode prog_47_method_2_code 229 = .ok (.istore 5, 2) := by decide +kernel
theorem d1_231 : decode prog_47_method_2_code 231 = .ok (.sipush 128, 3) := by decide +kernel
theorem d1_234 : decode prog_47_method_2_code 234 = .ok (.istore 6, 2) := by decide +kernel
theorem d1_236 : decode prog_47_method_2_code 236 = .ok (.sipush 191, 3) := by decide +kernel
theorem d1_239 : decode prog_47_method_2_code 239 = .ok (.istore 7, 2) := by decide +kernel
theorem d1_241 : decode prog_47_method_2_code 241 = .ok (.iinc 9 1, 3) := by decide +kernel
theorem d1_244 : decode prog_47_method_2_code 244 = .ok (.goto (-74), 3) := by decide +kernel
theorem d1_247 : decode prog_47_method_2_code 247 = .ok (.iload 5, 2) := by decide +kernel
theorem d1_249 : decode prog_47_method_2_code 249 = .ok (.ireturn, 1) := by decide +kernel
theorem d2_0 : decode prog_47_method_5_code 0 = .ok (.iload_n 0, 1) := by decide +kernel
theorem d2_1 : decode prog_47_method_5_code 1 = .ok (.sipush 128, 3) := by decide +kernel
theorem d2_4 : decode prog_47_method_5_code 4 = .ok (.if_icmp .ge 7, 3) := by decide +kernel
theorem d2_7 : decode prog_47_method_5_code 7 = .ok (.iconst 1, 1) := by decide +kernel
theorem d2_8 : decode prog_47_method_5_code 8 = .ok (.goto 25, 3) := by decide +kernel
theorem d2_11 : decode prog_47_method_5_code 11 = .ok (.iload_n 0, 1) := by decide +kernel
theorem d2_12 : decode prog_47_method_5_code 12 = .ok (.sipush 2048, 3) := by decide +kernel
theorem d2_15 : decode prog_47_method_5_code 15 = .ok (.if_icmp .ge 7, 3) := by decide +kernel
theorem d2_18 : decode prog_47_method_5_code 18 = .ok (.iconst 2, 1) := by decide +kernel
theorem d2_19 : decode prog_47_method_5_code 19 = .ok (.goto 14, 3) := by decide +kernel
theorem d2_22 : decode prog_47_method_5_code 22 = .ok (.iload_n 0, 1) := by decide +kernel
theorem d2_23 : decode prog_47_method_5_code 23 = .ok (.ldc 23, 2) := by decide +kernel
theorem d2_25 : decode prog_47_method_5_code 25 = .ok (.if_icmp .ge 7, 3) := by decide +kernel
theorem d2_28 : decode prog_47_method_5_code 28 = .ok (.iconst 3, 1) := by decide +kernel
theorem d2_29 : decode prog_47_method_5_code 29 = .ok (.goto 4, 3) := by decide +kernel
theorem d2_32 : decode prog_47_method_5_code 32 = .ok (.iconst 4, 1) := by decide +kernel
theorem d2_33 : decode prog_47_method_5_code 33 = .ok (.ireturn, 1) := by decide +kernel
theorem d3_0 : decode jdk_29_method_69_code 0 = .ok (.iload_n 0, 1) := by decide +kernel
theorem d3_1 : decode jdk_29_method_69_code 1 = .ok (.iload_n 1, 1) := by decide +kernel
theorem d3_2 : decode jdk_29_method_69_code 2 = .ok (.if_icmp .gt 7, 3) := by decide +kernel
theorem d3_5 : decode jdk_29_method_69_code 5 = .ok (.iload_n 0, 1) := by decide +kernel
theorem d3_6 : decode jdk_29_method_69_code 6 = .ok (.goto 4, 3) := by decide +kernel
theorem d3_9 : decode jdk_29_method_69_code 9 = .ok (.iload_n 1, 1) := by decide +kernel
theorem d3_10 : decode jdk_29_method_69_code 10 = .ok (.ireturn, 1) := by decide +kernel
theorem pn_0 : plainFor x = true := plainFor_of_name (by first | (simp [plainName, overriddenIn]; done) | decide +kernel)
theorem pn_1 : plainFor (⟨"com/example/canonwire/canonwire/Utf8", "codePointAt", "([BII)I"⟩ : MethodName) = true := plainFor_of_name (by first | (simp [plainName, overriddenIn]; done) | decide +kernel)
theorem pn_2 : plainFor (⟨"com/example/canonwire/canonwire/Utf8", "length", "(I)I"⟩ : MethodName) = true := plainFor_of_name (by first | (simp [plainName, overriddenIn]; done) | decide +kernel)
theorem pn_3 : plainFor (⟨"java/lang/Math", "min", "(II)I"⟩ : MethodName) = true := Jvm.Free.JP.mathPlain rfl (by decide +kernel)
theorem own_lt32 {a b : Int32} (h : a.toInt < b.toInt) : a < b := Int32.lt_iff_toInt_lt.mpr h
theorem own_nlt32 {a b : Int32} (h : ¬ a.toInt < b.toInt) : ¬ a < b := fun z => h (Int32.lt_iff_toInt_lt.mp z)
theorem own_eq32 {a b : Int32} (h : a.toInt = b.toInt) : a = b := Int32.toInt_inj.mp h
theorem own_ne32 {a b : Int32} (h : ¬ a.toInt = b.toInt) : ¬ a = b := fun z => h (congrArg Int32.toInt z)
theorem own_lt32' {a b : Int32} (h : a < b) : a.toInt < b.toInt := Int32.lt_iff_toInt_lt.mp h
theorem own_nlt32' {a b : Int32} (h : ¬ a < b) : ¬ a.toInt < b.toInt := fun z => h (Int32.lt_iff_toInt_lt.mpr z)
theorem own_eq32' {a b : Int32} (h : a = b) : a.toInt = b.toInt := congrArg Int32.toInt h
theorem own_ne32' {a b : Int32} (h : ¬ a = b) : ¬ a.toInt = b.toInt := fun z => h (Int32.toInt_inj.mp z)
theorem own_lt64 {a b : Int64} (h : a.toInt < b.toInt) : a < b := Int64.lt_iff_toInt_lt.mpr h
theorem own_nlt64 {a b : Int64} (h : ¬ a.toInt < b.toInt) : ¬ a < b := fun z => h (Int64.lt_iff_toInt_lt.mp z)
theorem own_eq64 {a b : Int64} (h : a.toInt = b.toInt) : a = b := Int64.toInt_inj.mp h
theorem own_ne64 {a b : Int64} (h : ¬ a.toInt = b.toInt) : ¬ a = b := fun z => h (congrArg Int64.toInt z)
theorem own_lt64' {a b : Int64} (h : a < b) : a.toInt < b.toInt := Int64.lt_iff_toInt_lt.mp h
theorem own_nlt64' {a b : Int64} (h : ¬ a < b) : ¬ a.toInt < b.toInt := fun z => h (Int64.lt_iff_toInt_lt.mpr z)
theorem own_eq64' {a b : Int64} (h : a = b) : a.toInt = b.toInt := congrArg Int64.toInt h
theorem own_ne64' {a b : Int64} (h : ¬ a = b) : ¬ a.toInt = b.toInt := fun z => h (Int64.toInt_inj.mp z)
def rmz : Room := { frames := 0, cells := 0, slots := 0, locals := 0 }
def rmc : Room := { frames := 1, cells := 0, slots := 0, locals := 13 }
def own_min (a b : Int32) : Int32 := if b < a then b else a
def QI (x : Int32) (h0 : Heap) (v : Option Value) (h : Heap) : Prop := v = some (.int x) ∧ h = h0
def QC (lo hi : Int) (h0 : Heap) (v : Option Value) (h : Heap) : Prop := h = h0 ∧ (v = some (.int (-1)) ∨ ∃ c : Int32, v = some (.int c) ∧ lo ≤ c.toInt ∧ c.toInt ≤ hi)
def QP (lo hi : Int) (h0 : Heap) (v : Option Value) (h : Heap) : Prop := h = h0 ∧ ∃ c : Int32, v = some (.int c) ∧ lo ≤ c.toInt ∧ c.toInt ≤ hi
def Q0 (v : Option Value) (h : Heap) : Prop := v = some (.int 1)
theorem own_p6 : ((2 ^ 6 : Nat) : Int) = 64 := rfl
theorem own_p5 : ((2 ^ 5 : Nat) : Int) = 32 := rfl
theorem own_p4 : ((2 ^ 4 : Nat) : Int) = 16 := rfl
theorem own_p3 : ((2 ^ 3 : Nat) : Int) = 8 := rfl
theorem own_p8 : ((2 ^ 8 : Nat) : Int) = 256 := rfl
theorem own_m31 (b : Int32) : (b &&& 31).toInt = b.toInt % 32 := (c_mask b 31 5 (by decide) (by decide)).trans (by rw [own_p5])
theorem own_m15 (b : Int32) : (b &&& 15).toInt = b.toInt % 16 := (c_mask b 15 4 (by decide) (by decide)).trans (by rw [own_p4])
theorem own_m7 (b : Int32) : (b &&& 7).toInt = b.toInt % 8 := (c_mask b 7 3 (by decide) (by decide)).trans (by rw [own_p3])
theorem own_m63 (b : Int32) : (b &&& 63).toInt = b.toInt % 64 := (c_mask b 63 6 (by decide) (by decide)).trans (by rw [own_p6])
theorem own_m255 (b : Int32) : (b &&& 255).toInt = b.toInt % 256 := (c_mask b 255 8 (by decide) (by decide)).trans (by rw [own_p8])
theorem own_push (acc b : Int32) (h : 0 ≤ acc.toInt ∧ acc.toInt < 1048576) (g : 128 ≤ b.toInt ∧ b.toInt ≤ 191) : ((acc <<< ((6 : Int32) &&& 31)) ||| (b &&& 63)).toInt = acc.toInt * 64 + (b.toInt - 128) := by
  have e1 := c_ishl acc 6 6 rfl
  rw [own_p6] at e1
  have e2 := own_m63 b
  have r1 := rng32 (acc <<< ((6 : Int32) &&& 31))
  have r2 := rng32 ((acc <<< ((6 : Int32) &&& 31)) ||| (b &&& 63))
  have f1 : (acc <<< ((6 : Int32) &&& 31)).toInt = acc.toInt * 64 := by omega
  have e3 := c_or (acc <<< ((6 : Int32) &&& 31)) (b &&& 63) 6 (by decide) 64 rfl (by omega) (by omega) (by omega)
  omega
theorem own_byte (z : Int32) (h : 0 ≤ z.toInt ∧ z.toInt ≤ 255) : z.toInt8.toInt32.toInt8.toInt32 &&& 255 = z := by
  have e1 := c_i2b z
  have e2 := c_i2b z.toInt8.toInt32
  apply Int32.toInt_inj.mp
  rw [own_m255]
  omega
theorem own_or (A u : Int32) (k : Nat) (hk : k ≤ 31) (P : Int) (hP : P = (2 ^ k : Nat)) (h1 : A.toInt % P = 0) (h2 : 0 ≤ A.toInt ∧ A.toInt ≤ 255) (h3 : 0 ≤ u.toInt ∧ u.toInt < P) (h4 : P ≤ 256) : (A ||| u).toInt = A.toInt + u.toInt := by
  have e := c_or A u k hk P hP h1 h3.1 h3.2
  have r := rng32 (A ||| u)
  omega
theorem own_and3 (x : Int32) : x &&& 3 = 0 ∨ x &&& 3 = 1 ∨ x &&& 3 = 2 ∨ x &&& 3 = 3 := by
  have e : (x &&& 3).toInt = x.toInt % 4 := c_mask x 3 2 (by decide) (by decide)
  have k : ∀ d : Int32, x &&& 3 = d ↔ (x &&& 3).toInt = d.toInt := fun d => Int32.toInt_inj.symm
  have k0 : (0 : Int32).toInt = 0 := rfl
  have k1 : (1 : Int32).toInt = 1 := rfl
  have k2 : (2 : Int32).toInt = 2 := rfl
  have k3 : (3 : Int32).toInt = 3 := rfl
  simp only [k, k0, k1, k2, k3]
  omega
def own_len (c : Int32) : Int32 := if c < 128 then 1 else if c < 2048 then 2 else if c < 65536 then 3 else 4
theorem own_L1 (c : Int32) (h : c.toInt ≤ 127) : own_len c = 1 := by
  unfold own_len; rw [if_pos (own_lt32 (by show c.toInt < 128; omega))]
theorem own_L2 (c : Int32) (h : 128 ≤ c.toInt) (g : c.toInt ≤ 2047) : own_len c = 2 := by
  unfold own_len; rw [if_neg (own_nlt32 (by show ¬ c.toInt < 128; omega)), if_pos (own_lt32 (by show c.toInt < 2048; omega))]
theorem own_L3 (c : Int32) (h : 2048 ≤ c.toInt) (g : c.toInt ≤ 65535) : own_len c = 3 := by
  unfold own_len; rw [if_neg (own_nlt32 (by show ¬ c.toInt < 128; omega)), if_neg (own_nlt32 (by show ¬ c.toInt < 2048; omega)), if_pos (own_lt32 (by show c.toInt < 65536; omega))]
theorem own_L4 (c : Int32) (h : 65536 ≤ c.toInt) : own_len c = 4 := by
  unfold own_len; rw [if_neg (own_nlt32 (by show ¬ c.toInt < 128; omega)), if_neg (own_nlt32 (by show ¬ c.toInt < 2048; omega)), if_neg (own_nlt32 (by show ¬ c.toInt < 65536; omega))]
theorem own_a7 (x : Int32) : 0 ≤ (x &&& 127).toInt ∧ (x &&& 127).toInt ≤ 127 := c_and x 127 (by decide)
theorem own_lead2 (u : Int32) : (192 ||| (u &&& 31)).toInt = 192 + u.toInt % 32 := by
  have e := own_m31 u
  have h := own_or 192 (u &&& 31) 5 (by decide) 32 rfl (by decide) (by decide) (by omega) (by decide)
  rw [h, e]; rfl
theorem own_lead3 (u : Int32) : (224 ||| (u &&& 15)).toInt = 224 + u.toInt % 16 := by
  have e := own_m15 u
  have h := own_or 224 (u &&& 15) 4 (by decide) 16 rfl (by decide) (by decide) (by omega) (by decide)
  rw [h, e]; rfl
theorem own_lead4 (u : Int32) : (240 ||| (u &&& 7)).toInt = 240 + u.toInt % 8 := by
  have e := own_m7 u
  have h := own_or 240 (u &&& 7) 3 (by decide) 8 rfl (by decide) (by decide) (by omega) (by decide)
  rw [h, e]; rfl
theorem own_cont (u : Int32) : (128 ||| (u &&& 63)).toInt = 128 + u.toInt % 64 := by
  have e := own_m63 u
  have h := own_or 128 (u &&& 63) 6 (by decide) 64 rfl (by decide) (by decide) (by omega) (by decide)
  rw [h, e]; rfl
theorem own_i2 (u : Int32) : 192 ≤ (192 ||| (u &&& 31)).toInt ∧ (192 ||| (u &&& 31)).toInt ≤ 223 := by rw [own_lead2]; omega
theorem own_i3 (u : Int32) : 224 ≤ (224 ||| (u &&& 15)).toInt ∧ (224 ||| (u &&& 15)).toInt ≤ 239 := by rw [own_lead3]; omega
theorem own_i4 (u : Int32) : 240 ≤ (240 ||| (u &&& 7)).toInt ∧ (240 ||| (u &&& 7)).toInt ≤ 247 := by rw [own_lead4]; omega
theorem own_ic (u : Int32) : 128 ≤ (128 ||| (u &&& 63)).toInt ∧ (128 ||| (u &&& 63)).toInt ≤ 191 := by rw [own_cont]; omega
theorem own_w255 {z : Int32} {lo hi : Int} (h : lo ≤ z.toInt ∧ z.toInt ≤ hi) (h0 : 0 ≤ lo) (h1 : hi ≤ 255) : 0 ≤ z.toInt ∧ z.toInt ≤ 255 := by omega
set_option maxRecDepth 65536 in
set_option maxHeartbeats 40000000 in
theorem rm_min (l : Launch) (Z : State) (a0 : Array Value) (hw : ∀ d ∈ tables_1, d.before a0 Z = true) (p1 p2 : Int32) (h0 : Heap)  (cs : List Jvm.Cond) :
    OwnCtr l Z (⟨"java/lang/Math", "min", "(II)I"⟩ : MethodName) jdk_29_method_69_code 2 (some .int) rmz #[(.int p1), (.int p2)] h0 [] (QI (own_min p1 p2) h0) cs := by
  refine ow_ctr pn_3 hw (Ls := #[.val (.int p1), .val (.int p2)]) (fun m => by first | (simp [entryFrame, mkF, argsToLocals, Value.category]; done) | rfl) ?_
  intro p e s m below meth c T0 C A0
  refine ow_iloadN C A0 d3_0 rfl rfl ?_
  refine ow_iloadN C A0 d3_1 rfl rfl ?_
  refine ow_icmp_gt C A0 d3_2 (by decide) (pcY := 9) (by decide) (pcN := 5) rfl (fun hc2 => ?_) (fun hc2 => ?_)
  · skip
    refine ow_iloadN C A0 d3_9 rfl rfl ?_
    refine ow_ireturn C A0 (t := .int) rfl rfl (by simp) d3_10 (by decide) (by decide) ?_
    exact ⟨by simp [own_min, hc2], rfl⟩
  · skip
    refine ow_iloadN C A0 d3_5 rfl rfl ?_
    refine ow_goto C A0 d3_6 (by decide) (pc' := 10) (by decide) ?_
    refine ow_ireturn C A0 (t := .int) rfl rfl (by simp) d3_10 (by decide) (by decide) ?_
    exact ⟨by simp [own_min, hc2], rfl⟩
set_option maxRecDepth 65536 in
set_option maxHeartbeats 40000000 in
theorem rm_cp1 (l : Launch) (Z : State) (a0 : Array Value) (hw : ∀ d ∈ tables_1, d.before a0 Z = true) (a : Addr) (kk : ClassId) (x0 b0 : Int32) (y1 : Value) (y2 : Value) (y3 : Value) (h0 : Heap) (Va : Arv Z h0 a kk .byte (4 : Int32) [(.int x0), y1, y2, y3] (.int (0 : Int32))) (e0 : x0 &&& 255 = b0) (hb0 : 0 ≤ b0.toInt ∧ b0.toInt ≤ 127) (cs : List Jvm.Cond) :
    OwnCtr l Z (⟨"com/example/canonwire/canonwire/Utf8", "codePointAt", "([BII)I"⟩ : MethodName) prog_47_method_2_code 11 (some .int) rmc #[(.ref a), (.int (0 : Int32)), (.int (1 : Int32))] h0 [] (QC 0 127 h0) cs := by
  refine ow_ctr pn_1 hw (Ls := #[.val (.ref a), .val (.int (0 : Int32)), .val (.int (1 : Int32)), .unset, .unset, .unset, .unset, .unset, .unset, .unset, .unset]) (fun m => by first | (simp [entryFrame, mkF, argsToLocals, Value.category]; done) | rfl) ?_
  intro p e s m below meth c T0 C A0
  have hl0 := hb0.1
  have hu0 := hb0.2
  refine ow_aloadN C A0 d1_0 rfl rfl rfl ?_
  refine ow_iloadN C A0 d1_1 rfl rfl ?_
  refine ow_baload C A0 Va ⟨by decide, by decide⟩ (v := (.int x0)) rfl d1_2 rfl ?_
  refine ow_sipush C A0 d1_3 (v := 255) rfl rfl ?_
  refine ow_iand C A0 d1_6 rfl ?_
  rw [e0]
  refine ow_istoreN C A0 d1_7 (Ls' := #[.val (.ref a), .val (.int (0 : Int32)), .val (.int (1 : Int32)), .val (.int b0), .unset, .unset, .unset, .unset, .unset, .unset, .unset]) rfl rfl ?_
  refine ow_iloadN C A0 d1_8 rfl rfl ?_
  refine ow_sipush C A0 d1_9 (v := 128) rfl rfl ?_
  refine ow_icmp_ge C A0 d1_12 (by decide) (pcY := 17) (by decide) (pcN := 15) rfl (fun z => absurd (own_lt32 (by show b0.toInt < 128; omega)) z) (fun _ => ?_)
  refine ow_iloadN C A0 d1_15 rfl rfl ?_
  refine ow_ireturn C A0 (t := .int) rfl rfl (by simp) d1_16 (by decide) (by decide) ?_
  exact ⟨rfl, Or.inr ⟨_, rfl, by omega, by omega⟩⟩
set_option maxRecDepth 65536 in
set_option maxHeartbeats 40000000 in
theorem rm_cp2 (l : Launch) (Z : State) (a0 : Array Value) (hw : ∀ d ∈ tables_1, d.before a0 Z = true) (a : Addr) (kk : ClassId) (x0 b0 : Int32) (x1 b1 : Int32) (y2 : Value) (y3 : Value) (h0 : Heap) (Va : Arv Z h0 a kk .byte (4 : Int32) [(.int x0), (.int x1), y2, y3] (.int (0 : Int32))) (e0 : x0 &&& 255 = b0) (e1 : x1 &&& 255 = b1) (hb0 : 192 ≤ b0.toInt ∧ b0.toInt ≤ 223) (hb1 : 128 ≤ b1.toInt ∧ b1.toInt ≤ 191) (cs : List Jvm.Cond) :
    OwnCtr l Z (⟨"com/example/canonwire/canonwire/Utf8", "codePointAt", "([BII)I"⟩ : MethodName) prog_47_method_2_code 11 (some .int) rmc #[(.ref a), (.int (0 : Int32)), (.int (2 : Int32))] h0 [] (QC 128 2047 h0) cs := by
  refine ow_ctr pn_1 hw (Ls := #[.val (.ref a), .val (.int (0 : Int32)), .val (.int (2 : Int32)), .unset, .unset, .unset, .unset, .unset, .unset, .unset, .unset]) (fun m => by first | (simp [entryFrame, mkF, argsToLocals, Value.category]; done) | rfl) ?_
  intro p e s m below meth c T0 C A0
  have hl0 := hb0.1
  have hu0 := hb0.2
  have hl1 := hb1.1
  have hu1 := hb1.2
  refine ow_aloadN C A0 d1_0 rfl rfl rfl ?_
  refine ow_iloadN C A0 d1_1 rfl rfl ?_
  refine ow_baload C A0 Va ⟨by decide, by decide⟩ (v := (.int x0)) rfl d1_2 rfl ?_
  refine ow_sipush C A0 d1_3 (v := 255) rfl rfl ?_
  refine ow_iand C A0 d1_6 rfl ?_
  rw [e0]
  refine ow_istoreN C A0 d1_7 (Ls' := #[.val (.ref a), .val (.int (0 : Int32)), .val (.int (2 : Int32)), .val (.int b0), .unset, .unset, .unset, .unset, .unset, .unset, .unset]) rfl rfl ?_
  refine ow_iloadN C A0 d1_8 rfl rfl ?_
  refine ow_sipush C A0 d1_9 (v := 128) rfl rfl ?_
  refine ow_icmp_ge C A0 d1_12 (by decide) (pcY := 17) (by decide) (pcN := 15) rfl (fun _ => ?_) (fun z => absurd z (own_nlt32 (by show ¬ (b0.toInt < 128); omega)))
  refine ow_iloadN C A0 d1_17 rfl rfl ?_
  refine ow_sipush C A0 d1_18 (v := 194) rfl rfl ?_
  refine ow_icmp_lt C A0 d1_21 (by decide) (pcY := 43) (by decide) (pcN := 24) rfl (fun hc21 => ?_) (fun hc21 => ?_)
  · skip
    have iv1 : b0.toInt < 194 := own_lt32' hc21
    refine ow_iloadN C A0 d1_43 rfl rfl ?_
    refine ow_sipush C A0 d1_44 (v := 224) rfl rfl ?_
    refine ow_icmp_lt C A0 d1_47 (by decide) (pcY := 69) (by decide) (pcN := 50) rfl (fun _ => ?_) (fun z => absurd (own_lt32 (by show b0.toInt < 224; omega)) z)
    refine ow_iloadN C A0 d1_69 rfl rfl ?_
    refine ow_sipush C A0 d1_70 (v := 240) rfl rfl ?_
    refine ow_icmp_lt C A0 d1_73 (by decide) (pcY := 95) (by decide) (pcN := 76) rfl (fun _ => ?_) (fun z => absurd (own_lt32 (by show b0.toInt < 240; omega)) z)
    refine ow_iconst C A0 d1_95 (v := (-1)) rfl rfl ?_
    refine ow_ireturn C A0 (t := .int) rfl rfl (by simp) d1_96 (by decide) (by decide) ?_
    exact ⟨rfl, Or.inl rfl⟩
  · skip
    have iv2 : ¬ (b0.toInt < 194) := own_nlt32' hc21
    refine ow_iloadN C A0 d1_24 rfl rfl ?_
    refine ow_sipush C A0 d1_25 (v := 223) rfl rfl ?_
    refine ow_icmp_gt C A0 d1_28 (by decide) (pcY := 43) (by decide) (pcN := 31) rfl (fun z => absurd z (own_nlt32 (by show ¬ (223 < b0.toInt); omega))) (fun _ => ?_)
    refine ow_iconst C A0 d1_31 (v := 1) rfl rfl ?_
    refine ow_istore C A0 d1_32 (Ls' := #[.val (.ref a), .val (.int (0 : Int32)), .val (.int (2 : Int32)), .val (.int b0), .val (.int (1 : Int32)), .unset, .unset, .unset, .unset, .unset, .unset]) rfl rfl ?_
    refine ow_iloadN C A0 d1_34 rfl rfl ?_
    refine ow_bipush C A0 d1_35 (v := 31) rfl rfl ?_
    refine ow_iand C A0 d1_37 rfl ?_
    refine ow_istore C A0 d1_38 (Ls' := #[.val (.ref a), .val (.int (0 : Int32)), .val (.int (2 : Int32)), .val (.int b0), .val (.int (1 : Int32)), .val (.int (b0 &&& (31 : Int32))), .unset, .unset, .unset, .unset, .unset]) rfl rfl ?_
    refine ow_goto C A0 d1_40 (by decide) (pc' := 97) (by decide) ?_
    refine ow_iloadN C A0 d1_97 rfl rfl ?_
    refine ow_sipush C A0 d1_98 (v := 224) rfl rfl ?_
    refine ow_icmp_ne C A0 d1_101 (by decide) (pcY := 110) (by decide) (pcN := 104) rfl (fun _ => ?_) (fun z => absurd z (own_ne32 (by show ¬ (b0.toInt = 224); omega)))
    refine ow_iloadN C A0 d1_110 rfl rfl ?_
    refine ow_sipush C A0 d1_111 (v := 240) rfl rfl ?_
    refine ow_icmp_ne C A0 d1_114 (by decide) (pcY := 123) (by decide) (pcN := 117) rfl (fun _ => ?_) (fun z => absurd z (own_ne32 (by show ¬ (b0.toInt = 240); omega)))
    refine ow_sipush C A0 d1_123 (v := 128) rfl rfl ?_
    refine ow_istore C A0 d1_126 (Ls' := #[.val (.ref a), .val (.int (0 : Int32)), .val (.int (2 : Int32)), .val (.int b0), .val (.int (1 : Int32)), .val (.int (b0 &&& (31 : Int32))), .val (.int (128 : Int32)), .unset, .unset, .unset, .unset]) rfl rfl ?_
    refine ow_iloadN C A0 d1_128 rfl rfl ?_
    refine ow_sipush C A0 d1_129 (v := 237) rfl rfl ?_
    refine ow_icmp_ne C A0 d1_132 (by decide) (pcY := 141) (by decide) (pcN := 135) rfl (fun _ => ?_) (fun z => absurd z (own_ne32 (by show ¬ (b0.toInt = 237); omega)))
    refine ow_iloadN C A0 d1_141 rfl rfl ?_
    refine ow_sipush C A0 d1_142 (v := 244) rfl rfl ?_
    refine ow_icmp_ne C A0 d1_145 (by decide) (pcY := 154) (by decide) (pcN := 148) rfl (fun _ => ?_) (fun z => absurd z (own_ne32 (by show ¬ (b0.toInt = 244); omega)))
    refine ow_sipush C A0 d1_154 (v := 191) rfl rfl ?_
    refine ow_istore C A0 d1_157 (Ls' := #[.val (.ref a), .val (.int (0 : Int32)), .val (.int (2 : Int32)), .val (.int b0), .val (.int (1 : Int32)), .val (.int (b0 &&& (31 : Int32))), .val (.int (128 : Int32)), .val (.int (191 : Int32)), .unset, .unset, .unset]) rfl rfl ?_
    refine ow_iloadN C A0 d1_159 rfl rfl ?_
    refine ow_aloadN C A0 d1_160 rfl rfl rfl ?_
    refine ow_alen C A0 Va d1_161 rfl ?_
    refine ow_callS C A0 (argsL := [(.int (2 : Int32)), (.int (4 : Int32))]) (rm_min l Z a0 hw (2 : Int32) (4 : Int32) h0 []) tw_8 tw_9 tw_10 tw_11 (by decide) all0 (by decide) (by decide) (ck' := 0) (sk' := 0) rfl rfl (by decide) (by decide) rfl (lenOf pd_0 rfl) (S := []) rfl (W := 0) (Nat.le_of_eq rfl) d1_162 rfl ?_
    intro T3 v3 K3 hQ3 A3
    obtain ⟨rfl, ee3⟩ := hQ3
    rw [ee3] at A3 K3
    show OwnWP _ _ _ _ _ _ _ _ _ T3 (mkF m 165 #[.val (.ref a), .val (.int (0 : Int32)), .val (.int (2 : Int32)), .val (.int b0), .val (.int (1 : Int32)), .val (.int (b0 &&& (31 : Int32))), .val (.int (128 : Int32)), .val (.int (191 : Int32)), .unset, .unset, .unset] [(.int (2 : Int32))])
    refine ow_istore C A3 d1_165 (Ls' := #[.val (.ref a), .val (.int (0 : Int32)), .val (.int (2 : Int32)), .val (.int b0), .val (.int (1 : Int32)), .val (.int (b0 &&& (31 : Int32))), .val (.int (128 : Int32)), .val (.int (191 : Int32)), .val (.int (2 : Int32)), .unset, .unset]) rfl rfl ?_
    refine ow_iconst C A3 d1_167 (v := 1) rfl rfl ?_
    refine ow_istore C A3 d1_168 (Ls' := #[.val (.ref a), .val (.int (0 : Int32)), .val (.int (2 : Int32)), .val (.int b0), .val (.int (1 : Int32)), .val (.int (b0 &&& (31 : Int32))), .val (.int (128 : Int32)), .val (.int (191 : Int32)), .val (.int (2 : Int32)), .val (.int (1 : Int32)), .unset]) rfl rfl ?_
    refine ow_iload C A3 d1_170 rfl rfl ?_
    refine ow_iload C A3 d1_172 rfl rfl ?_
    refine ow_icmp_gt C A3 d1_174 (by decide) (pcY := 247) (by decide) (pcN := 177) rfl (fun z => absurd z (by decide)) (fun _ => ?_)
    refine ow_iloadN C A3 d1_177 rfl rfl ?_
    refine ow_iload C A3 d1_178 rfl rfl ?_
    refine ow_iadd C A3 d1_180 rfl ?_
    show OwnWP _ _ _ _ _ _ _ _ _ T3 (mkF m 181 #[.val (.ref a), .val (.int (0 : Int32)), .val (.int (2 : Int32)), .val (.int b0), .val (.int (1 : Int32)), .val (.int (b0 &&& (31 : Int32))), .val (.int (128 : Int32)), .val (.int (191 : Int32)), .val (.int (2 : Int32)), .val (.int (1 : Int32)), .unset] [(.int (1 : Int32))])
    refine ow_iload C A3 d1_181 rfl rfl ?_
    refine ow_icmp_ge C A3 d1_183 (by decide) (pcY := 199) (by decide) (pcN := 186) rfl (fun z => absurd (by decide) z) (fun _ => ?_)
    refine ow_aloadN C A3 d1_186 rfl rfl rfl ?_
    refine ow_iloadN C A3 d1_187 rfl rfl ?_
    refine ow_iload C A3 d1_188 rfl rfl ?_
    refine ow_iadd C A3 d1_190 rfl ?_
    show OwnWP _ _ _ _ _ _ _ _ _ T3 (mkF m 191 #[.val (.ref a), .val (.int (0 : Int32)), .val (.int (2 : Int32)), .val (.int b0), .val (.int (1 : Int32)), .val (.int (b0 &&& (31 : Int32))), .val (.int (128 : Int32)), .val (.int (191 : Int32)), .val (.int (2 : Int32)), .val (.int (1 : Int32)), .unset] [(.int (1 : Int32)), (.ref a)])
    refine ow_baload C A3 Va ⟨by decide, by decide⟩ (v := (.int x1)) rfl d1_191 rfl ?_
    refine ow_sipush C A3 d1_192 (v := 255) rfl rfl ?_
    refine ow_iand C A3 d1_195 rfl ?_
    rw [e1]
    refine ow_goto C A3 d1_196 (by decide) (pc' := 200) (by decide) ?_
    refine ow_istore C A3 d1_200 (Ls' := #[.val (.ref a), .val (.int (0 : Int32)), .val (.int (2 : Int32)), .val (.int b0), .val (.int (1 : Int32)), .val (.int (b0 &&& (31 : Int32))), .val (.int (128 : Int32)), .val (.int (191 : Int32)), .val (.int (2 : Int32)), .val (.int (1 : Int32)), .val (.int b1)]) rfl rfl ?_
    refine ow_iload C A3 d1_202 rfl rfl ?_
    refine ow_iload C A3 d1_204 rfl rfl ?_
    refine ow_icmp_lt C A3 d1_206 (by decide) (pcY := 216) (by decide) (pcN := 209) rfl (fun z => absurd z (own_nlt32 (by show ¬ (b1.toInt < 128); omega))) (fun _ => ?_)
    refine ow_iload C A3 d1_209 rfl rfl ?_
    refine ow_iload C A3 d1_211 rfl rfl ?_
    refine ow_icmp_le C A3 d1_213 (by decide) (pcY := 218) (by decide) (pcN := 216) rfl (fun _ => ?_) (fun z => absurd z (own_nlt32 (by show ¬ (191 < b1.toInt); omega)))
    refine ow_iload C A3 d1_218 rfl rfl ?_
    refine ow_bipush C A3 d1_220 (v := 6) rfl rfl ?_
    refine ow_ishl C A3 d1_222 rfl ?_
    refine ow_iload C A3 d1_223 rfl rfl ?_
    refine ow_bipush C A3 d1_225 (v := 63) rfl rfl ?_
    refine ow_iand C A3 d1_227 rfl ?_
    refine ow_ior C A3 d1_228 rfl ?_
    refine ow_istore C A3 d1_229 (Ls' := #[.val (.ref a), .val (.int (0 : Int32)), .val (.int (2 : Int32)), .val (.int b0), .val (.int (1 : Int32)), .val (.int (((b0 &&& (31 : Int32)) <<< ((6 : Int32) &&& 31)) ||| (b1 &&& (63 : Int32)))), .val (.int (128 : Int32)), .val (.int (191 : Int32)), .val (.int (2 : Int32)), .val (.int (1 : Int32)), .val (.int b1)]) rfl rfl ?_
    refine ow_sipush C A3 d1_231 (v := 128) rfl rfl ?_
    refine ow_istore C A3 d1_234 (Ls' := #[.val (.ref a), .val (.int (0 : Int32)), .val (.int (2 : Int32)), .val (.int b0), .val (.int (1 : Int32)), .val (.int (((b0 &&& (31 : Int32)) <<< ((6 : Int32) &&& 31)) ||| (b1 &&& (63 : Int32)))), .val (.int (128 : Int32)), .val (.int (191 : Int32)), .val (.int (2 : Int32)), .val (.int (1 : Int32)), .val (.int b1)]) rfl rfl ?_
    refine ow_sipush C A3 d1_236 (v := 191) rfl rfl ?_
    refine ow_istore C A3 d1_239 (Ls' := #[.val (.ref a), .val (.int (0 : Int32)), .val (.int (2 : Int32)), .val (.int b0), .val (.int (1 : Int32)), .val (.int (((b0 &&& (31 : Int32)) <<< ((6 : Int32) &&& 31)) ||| (b1 &&& (63 : Int32)))), .val (.int (128 : Int32)), .val (.int (191 : Int32)), .val (.int (2 : Int32)), .val (.int (1 : Int32)), .val (.int b1)]) rfl rfl ?_
    refine ow_iinc C A3 d1_241 rfl (Ls' := #[.val (.ref a), .val (.int (0 : Int32)), .val (.int (2 : Int32)), .val (.int b0), .val (.int (1 : Int32)), .val (.int (((b0 &&& (31 : Int32)) <<< ((6 : Int32) &&& 31)) ||| (b1 &&& (63 : Int32)))), .val (.int (128 : Int32)), .val (.int (191 : Int32)), .val (.int (2 : Int32)), .val (.int (2 : Int32)), .val (.int b1)]) rfl rfl ?_
    refine ow_goto C A3 d1_244 (by decide) (pc' := 170) (by decide) ?_
    refine ow_iload C A3 d1_170 rfl rfl ?_
    refine ow_iload C A3 d1_172 rfl rfl ?_
    refine ow_icmp_gt C A3 d1_174 (by decide) (pcY := 247) (by decide) (pcN := 177) rfl (fun _ => ?_) (fun z => absurd (by decide) z)
    refine ow_iload C A3 d1_247 rfl rfl ?_
    refine ow_ireturn C A3 (t := .int) rfl rfl (by simp) d1_249 (by decide) (by decide) ?_
    have z0 := own_m31 b0
    have z1 := own_push (b0 &&& (31 : Int32)) b1 (by omega) (by omega)
    exact ⟨rfl, Or.inr ⟨_, rfl, by omega, by omega⟩⟩
set_option maxRecDepth 65536 in
set_option maxHeartbeats 40000000 in
theorem rm_cp3 (l : Launch) (Z : State) (a0 : Array Value) (hw : ∀ d ∈ tables_1, d.before a0 Z = true) (a : Addr) (kk : ClassId) (x0 b0 : Int32) (x1 b1 : Int32) (x2 b2 : Int32) (y3 : Value) (h0 : Heap) (Va : Arv Z h0 a kk .byte (4 : Int32) [(.int x0), (.int x1), (.int x2), y3] (.int (0 : Int32))) (e0 : x0 &&& 255 = b0) (e1 : x1 &&& 255 = b1) (e2 : x2 &&& 255 = b2) (hb0 : 224 ≤ b0.toInt ∧ b0.toInt ≤ 239) (hb1 : 128 ≤ b1.toInt ∧ b1.toInt ≤ 191) (hb2 : 128 ≤ b2.toInt ∧ b2.toInt ≤ 191) (cs : List Jvm.Cond) :
    OwnCtr l Z (⟨"com/example/canonwire/canonwire/Utf8", "codePointAt", "([BII)I"⟩ : MethodName) prog_47_method_2_code 11 (some .int) rmc #[(.ref a), (.int (0 : Int32)), (.int (3 : Int32))] h0 [] (QC 2048 65535 h0) cs := by
  refine ow_ctr pn_1 hw (Ls := #[.val (.ref a), .val (.int (0 : Int32)), .val (.int (3 : Int32)), .unset, .unset, .unset, .unset, .unset, .unset, .unset, .unset]) (fun m => by first | (simp [entryFrame, mkF, argsToLocals, Value.category]; done) | rfl) ?_
  intro p e s m below meth c T0 C A0
  have hl0 := hb0.1
  have hu0 := hb0.2
  have hl1 := hb1.1
  have hu1 := hb1.2
  have hl2 := hb2.1
  have hu2 := hb2.2
  refine ow_aloadN C A0 d1_0 rfl rfl rfl ?_
  refine ow_iloadN C A0 d1_1 rfl rfl ?_
  refine ow_baload C A0 Va ⟨by decide, by decide⟩ (v := (.int x0)) rfl d1_2 rfl ?_
  refine ow_sipush C A0 d1_3 (v := 255) rfl rfl ?_
  refine ow_iand C A0 d1_6 rfl ?_
  rw [e0]
  refine ow_istoreN C A0 d1_7 (Ls' := #[.val (.ref a), .val (.int (0 : Int32)), .val (.int (3 : Int32)), .val (.int b0), .unset, .unset, .unset, .unset, .unset, .unset, .unset]) rfl rfl ?_
  refine ow_iloadN C A0 d1_8 rfl rfl ?_
  refine ow_sipush C A0 d1_9 (v := 128) rfl rfl ?_
  refine ow_icmp_ge C A0 d1_12 (by decide) (pcY := 17) (by decide) (pcN := 15) rfl (fun _ => ?_) (fun z => absurd z (own_nlt32 (by show ¬ (b0.toInt < 128); omega)))
  refine ow_iloadN C A0 d1_17 rfl rfl ?_
  refine ow_sipush C A0 d1_18 (v := 194) rfl rfl ?_
  refine ow_icmp_lt C A0 d1_21 (by decide) (pcY := 43) (by decide) (pcN := 24) rfl (fun z => absurd z (own_nlt32 (by show ¬ (b0.toInt < 194); omega))) (fun _ => ?_)
  refine ow_iloadN C A0 d1_24 rfl rfl ?_
  refine ow_sipush C A0 d1_25 (v := 223) rfl rfl ?_
  refine ow_icmp_gt C A0 d1_28 (by decide) (pcY := 43) (by decide) (pcN := 31) rfl (fun _ => ?_) (fun z => absurd (own_lt32 (by show 223 < b0.toInt; omega)) z)
  refine ow_iloadN C A0 d1_43 rfl rfl ?_
  refine ow_sipush C A0 d1_44 (v := 224) rfl rfl ?_
  refine ow_icmp_lt C A0 d1_47 (by decide) (pcY := 69) (by decide) (pcN := 50) rfl (fun z => absurd z (own_nlt32 (by show ¬ (b0.toInt < 224); omega))) (fun _ => ?_)
  refine ow_iloadN C A0 d1_50 rfl rfl ?_
  refine ow_sipush C A0 d1_51 (v := 239) rfl rfl ?_
  refine ow_icmp_gt C A0 d1_54 (by decide) (pcY := 69) (by decide) (pcN := 57) rfl (fun z => absurd z (own_nlt32 (by show ¬ (239 < b0.toInt); omega))) (fun _ => ?_)
  refine ow_iconst C A0 d1_57 (v := 2) rfl rfl ?_
  refine ow_istore C A0 d1_58 (Ls' := #[.val (.ref a), .val (.int (0 : Int32)), .val (.int (3 : Int32)), .val (.int b0), .val (.int (2 : Int32)), .unset, .unset, .unset, .unset, .unset, .unset]) rfl rfl ?_
  refine ow_iloadN C A0 d1_60 rfl rfl ?_
  refine ow_bipush C A0 d1_61 (v := 15) rfl rfl ?_
  refine ow_iand C A0 d1_63 rfl ?_
  refine ow_istore C A0 d1_64 (Ls' := #[.val (.ref a), .val (.int (0 : Int32)), .val (.int (3 : Int32)), .val (.int b0), .val (.int (2 : Int32)), .val (.int (b0 &&& (15 : Int32))), .unset, .unset, .unset, .unset, .unset]) rfl rfl ?_
  refine ow_goto C A0 d1_66 (by decide) (pc' := 97) (by decide) ?_
  refine ow_iloadN C A0 d1_97 rfl rfl ?_
  refine ow_sipush C A0 d1_98 (v := 224) rfl rfl ?_
  refine ow_icmp_ne C A0 d1_101 (by decide) (pcY := 110) (by decide) (pcN := 104) rfl (fun hc101 => ?_) (fun hc101 => ?_)
  · skip
    have iv1 : ¬ (b0.toInt = 224) := own_ne32' hc101
    refine ow_iloadN C A0 d1_110 rfl rfl ?_
    refine ow_sipush C A0 d1_111 (v := 240) rfl rfl ?_
    refine ow_icmp_ne C A0 d1_114 (by decide) (pcY := 123) (by decide) (pcN := 117) rfl (fun _ => ?_) (fun z => absurd z (own_ne32 (by show ¬ (b0.toInt = 240); omega)))
    refine ow_sipush C A0 d1_123 (v := 128) rfl rfl ?_
    refine ow_istore C A0 d1_126 (Ls' := #[.val (.ref a), .val (.int (0 : Int32)), .val (.int (3 : Int32)), .val (.int b0), .val (.int (2 : Int32)), .val (.int (b0 &&& (15 : Int32))), .val (.int (128 : Int32)), .unset, .unset, .unset, .unset]) rfl rfl ?_
    refine ow_iloadN C A0 d1_128 rfl rfl ?_
    refine ow_sipush C A0 d1_129 (v := 237) rfl rfl ?_
    refine ow_icmp_ne C A0 d1_132 (by decide) (pcY := 141) (by decide) (pcN := 135) rfl (fun hc132 => ?_) (fun hc132 => ?_)
    · skip
      have iv2 : ¬ (b0.toInt = 237) := own_ne32' hc132
      refine ow_iloadN C A0 d1_141 rfl rfl ?_
      refine ow_sipush C A0 d1_142 (v := 244) rfl rfl ?_
      refine ow_icmp_ne C A0 d1_145 (by decide) (pcY := 154) (by decide) (pcN := 148) rfl (fun _ => ?_) (fun z => absurd z (own_ne32 (by show ¬ (b0.toInt = 244); omega)))
      refine ow_sipush C A0 d1_154 (v := 191) rfl rfl ?_
      refine ow_istore C A0 d1_157 (Ls' := #[.val (.ref a), .val (.int (0 : Int32)), .val (.int (3 : Int32)), .val (.int b0), .val (.int (2 : Int32)), .val (.int (b0 &&& (15 : Int32))), .val (.int (128 : Int32)), .val (.int (191 : Int32)), .unset, .unset, .unset]) rfl rfl ?_
      refine ow_iloadN C A0 d1_159 rfl rfl ?_
      refine ow_aloadN C A0 d1_160 rfl rfl rfl ?_
      refine ow_alen C A0 Va d1_161 rfl ?_
      refine ow_callS C A0 (argsL := [(.int (3 : Int32)), (.int (4 : Int32))]) (rm_min l Z a0 hw (3 : Int32) (4 : Int32) h0 []) tw_8 tw_9 tw_10 tw_11 (by decide) all0 (by decide) (by decide) (ck' := 0) (sk' := 0) rfl rfl (by decide) (by decide) rfl (lenOf pd_0 rfl) (S := []) rfl (W := 0) (Nat.le_of_eq rfl) d1_162 rfl ?_
      intro T3 v3 K3 hQ3 A3
      obtain ⟨rfl, ee3⟩ := hQ3
      rw [ee3] at A3 K3
      show OwnWP _ _ _ _ _ _ _ _ _ T3 (mkF m 165 #[.val (.ref a), .val (.int (0 : Int32)), .val (.int (3 : Int32)), .val (.int b0), .val (.int (2 : Int32)), .val (.int (b0 &&& (15 : Int32))), .val (.int (128 : Int32)), .val (.int (191 : Int32)), .unset, .unset, .unset] [(.int (3 : Int32))])
      refine ow_istore C A3 d1_165 (Ls' := #[.val (.ref a), .val (.int (0 : Int32)), .val (.int (3 : Int32)), .val (.int b0), .val (.int (2 : Int32)), .val (.int (b0 &&& (15 : Int32))), .val (.int (128 : Int32)), .val (.int (191 : Int32)), .val (.int (3 : Int32)), .unset, .unset]) rfl rfl ?_
      refine ow_iconst C A3 d1_167 (v := 1) rfl rfl ?_
      refine ow_istore C A3 d1_168 (Ls' := #[.val (.ref a), .val (.int (0 : Int32)), .val (.int (3 : Int32)), .val (.int b0), .val (.int (2 : Int32)), .val (.int (b0 &&& (15 : Int32))), .val (.int (128 : Int32)), .val (.int (191 : Int32)), .val (.int (3 : Int32)), .val (.int (1 : Int32)), .unset]) rfl rfl ?_
      refine ow_iload C A3 d1_170 rfl rfl ?_
      refine ow_iload C A3 d1_172 rfl rfl ?_
      refine ow_icmp_gt C A3 d1_174 (by decide) (pcY := 247) (by decide) (pcN := 177) rfl (fun z => absurd z (by decide)) (fun _ => ?_)
      refine ow_iloadN C A3 d1_177 rfl rfl ?_
      refine ow_iload C A3 d1_178 rfl rfl ?_
      refine ow_iadd C A3 d1_180 rfl ?_
      show OwnWP _ _ _ _ _ _ _ _ _ T3 (mkF m 181 #[.val (.ref a), .val (.int (0 : Int32)), .val (.int (3 : Int32)), .val (.int b0), .val (.int (2 : Int32)), .val (.int (b0 &&& (15 : Int32))), .val (.int (128 : Int32)), .val (.int (191 : Int32)), .val (.int (3 : Int32)), .val (.int (1 : Int32)), .unset] [(.int (1 : Int32))])
      refine ow_iload C A3 d1_181 rfl rfl ?_
      refine ow_icmp_ge C A3 d1_183 (by decide) (pcY := 199) (by decide) (pcN := 186) rfl (fun z => absurd (by decide) z) (fun _ => ?_)
      refine ow_aloadN C A3 d1_186 rfl rfl rfl ?_
      refine ow_iloadN C A3 d1_187 rfl rfl ?_
      refine ow_iload C A3 d1_188 rfl rfl ?_
      refine ow_iadd C A3 d1_190 rfl ?_
      show OwnWP _ _ _ _ _ _ _ _ _ T3 (mkF m 191 #[.val (.ref a), .val (.int (0 : Int32)), .val (.int (3 : Int32)), .val (.int b0), .val (.int (2 : Int32)), .val (.int (b0 &&& (15 : Int32))), .val (.int (128 : Int32)), .val (.int (191 : Int32)), .val (.int (3 : Int32)), .val (.int (1 : Int32)), .unset] [(.int (1 : Int32)), (.ref a)])
      refine ow_baload C A3 Va ⟨by decide, by decide⟩ (v := (.int x1)) rfl d1_191 rfl ?_
      refine ow_sipush C A3 d1_192 (v := 255) rfl rfl ?_
      refine ow_iand C A3 d1_195 rfl ?_
      rw [e1]
      refine ow_goto C A3 d1_196 (by decide) (pc' := 200) (by decide) ?_
      refine ow_istore C A3 d1_200 (Ls' := #[.val (.ref a), .val (.int (0 : Int32)), .val (.int (3 : Int32)), .val (.int b0), .val (.int (2 : Int32)), .val (.int (b0 &&& (15 : Int32))), .val (.int (128 : Int32)), .val (.int (191 : Int32)), .val (.int (3 : Int32)), .val (.int (1 : Int32)), .val (.int b1)]) rfl rfl ?_
      refine ow_iload C A3 d1_202 rfl rfl ?_
      refine ow_iload C A3 d1_204 rfl rfl ?_
      refine ow_icmp_lt C A3 d1_206 (by decide) (pcY := 216) (by decide) (pcN := 209) rfl (fun z => absurd z (own_nlt32 (by show ¬ (b1.toInt < 128); omega))) (fun _ => ?_)
      refine ow_iload C A3 d1_209 rfl rfl ?_
      refine ow_iload C A3 d1_211 rfl rfl ?_
      refine ow_icmp_le C A3 d1_213 (by decide) (pcY := 218) (by decide) (pcN := 216) rfl (fun _ => ?_) (fun z => absurd z (own_nlt32 (by show ¬ (191 < b1.toInt); omega)))
      refine ow_iload C A3 d1_218 rfl rfl ?_
      refine ow_bipush C A3 d1_220 (v := 6) rfl rfl ?_
      refine ow_ishl C A3 d1_222 rfl ?_
      refine ow_iload C A3 d1_223 rfl rfl ?_
      refine ow_bipush C A3 d1_225 (v := 63) rfl rfl ?_
      refine ow_iand C A3 d1_227 rfl ?_
      refine ow_ior C A3 d1_228 rfl ?_
      refine ow_istore C A3 d1_229 (Ls' := #[.val (.ref a), .val (.int (0 : Int32)), .val (.int (3 : Int32)), .val (.int b0), .val (.int (2 : Int32)), .val (.int (((b0 &&& (15 : Int32)) <<< ((6 : Int32) &&& 31)) ||| (b1 &&& (63 : Int32)))), .val (.int (128 : Int32)), .val (.int (191 : Int32)), .val (.int (3 : Int32)), .val (.int (1 : Int32)), .val (.int b1)]) rfl rfl ?_
      refine ow_sipush C A3 d1_231 (v := 128) rfl rfl ?_
      refine ow_istore C A3 d1_234 (Ls' := #[.val (.ref a), .val (.int (0 : Int32)), .val (.int (3 : Int32)), .val (.int b0), .val (.int (2 : Int32)), .val (.int (((b0 &&& (15 : Int32)) <<< ((6 : Int32) &&& 31)) ||| (b1 &&& (63 : Int32)))), .val (.int (128 : Int32)), .val (.int (191 : Int32)), .val (.int (3 : Int32)), .val (.int (1 : Int32)), .val (.int b1)]) rfl rfl ?_
      refine ow_sipush C A3 d1_236 (v := 191) rfl rfl ?_
      refine ow_istore C A3 d1_239 (Ls' := #[.val (.ref a), .val (.int (0 : Int32)), .val (.int (3 : Int32)), .val (.int b0), .val (.int (2 : Int32)), .val (.int (((b0 &&& (15 : Int32)) <<< ((6 : Int32) &&& 31)) ||| (b1 &&& (63 : Int32)))), .val (.int (128 : Int32)), .val (.int (191 : Int32)), .val (.int (3 : Int32)), .val (.int (1 : Int32)), .val (.int b1)]) rfl rfl ?_
      refine ow_iinc C A3 d1_241 rfl (Ls' := #[.val (.ref a), .val (.int (0 : Int32)), .val (.int (3 : Int32)), .val (.int b0), .val (.int (2 : Int32)), .val (.int (((b0 &&& (15 : Int32)) <<< ((6 : Int32) &&& 31)) ||| (b1 &&& (63 : Int32)))), .val (.int (128 : Int32)), .val (.int (191 : Int32)), .val (.int (3 : Int32)), .val (.int (2 : Int32)), .val (.int b1)]) rfl rfl ?_
      refine ow_goto C A3 d1_244 (by decide) (pc' := 170) (by decide) ?_
      refine ow_iload C A3 d1_170 rfl rfl ?_
      refine ow_iload C A3 d1_172 rfl rfl ?_
      refine ow_icmp_gt C A3 d1_174 (by decide) (pcY := 247) (by decide) (pcN := 177) rfl (fun z => absurd z (by decide)) (fun _ => ?_)
      refine ow_iloadN C A3 d1_177 rfl rfl ?_
      refine ow_iload C A3 d1_178 rfl rfl ?_
      refine ow_iadd C A3 d1_180 rfl ?_
      show OwnWP _ _ _ _ _ _ _ _ _ T3 (mkF m 181 #[.val (.ref a), .val (.int (0 : Int32)), .val (.int (3 : Int32)), .val (.int b0), .val (.int (2 : Int32)), .val (.int (((b0 &&& (15 : Int32)) <<< ((6 : Int32) &&& 31)) ||| (b1 &&& (63 : Int32)))), .val (.int (128 : Int32)), .val (.int (191 : Int32)), .val (.int (3 : Int32)), .val (.int (2 : Int32)), .val (.int b1)] [(.int (2 : Int32))])
      refine ow_iload C A3 d1_181 rfl rfl ?_
      refine ow_icmp_ge C A3 d1_183 (by decide) (pcY := 199) (by decide) (pcN := 186) rfl (fun z => absurd (by decide) z) (fun _ => ?_)
      refine ow_aloadN C A3 d1_186 rfl rfl rfl ?_
      refine ow_iloadN C A3 d1_187 rfl rfl ?_
      refine ow_iload C A3 d1_188 rfl rfl ?_
      refine ow_iadd C A3 d1_190 rfl ?_
      show OwnWP _ _ _ _ _ _ _ _ _ T3 (mkF m 191 #[.val (.ref a), .val (.int (0 : Int32)), .val (.int (3 : Int32)), .val (.int b0), .val (.int (2 : Int32)), .val (.int (((b0 &&& (15 : Int32)) <<< ((6 : Int32) &&& 31)) ||| (b1 &&& (63 : Int32)))), .val (.int (128 : Int32)), .val (.int (191 : Int32)), .val (.int (3 : Int32)), .val (.int (2 : Int32)), .val (.int b1)] [(.int (2 : Int32)), (.ref a)])
      refine ow_baload C A3 Va ⟨by decide, by decide⟩ (v := (.int x2)) rfl d1_191 rfl ?_
      refine ow_sipush C A3 d1_192 (v := 255) rfl rfl ?_
      refine ow_iand C A3 d1_195 rfl ?_
      rw [e2]
      refine ow_goto C A3 d1_196 (by decide) (pc' := 200) (by decide) ?_
      refine ow_istore C A3 d1_200 (Ls' := #[.val (.ref a), .val (.int (0 : Int32)), .val (.int (3 : Int32)), .val (.int b0), .val (.int (2 : Int32)), .val (.int (((b0 &&& (15 : Int32)) <<< ((6 : Int32) &&& 31)) ||| (b1 &&& (63 : Int32)))), .val (.int (128 : Int32)), .val (.int (191 : Int32)), .val (.int (3 : Int32)), .val (.int (2 : Int32)), .val (.int b2)]) rfl rfl ?_
      refine ow_iload C A3 d1_202 rfl rfl ?_
      refine ow_iload C A3 d1_204 rfl rfl ?_
      refine ow_icmp_lt C A3 d1_206 (by decide) (pcY := 216) (by decide) (pcN := 209) rfl (fun z => absurd z (own_nlt32 (by show ¬ (b2.toInt < 128); omega))) (fun _ => ?_)
      refine ow_iload C A3 d1_209 rfl rfl ?_
      refine ow_iload C A3 d1_211 rfl rfl ?_
      refine ow_icmp_le C A3 d1_213 (by decide) (pcY := 218) (by decide) (pcN := 216) rfl (fun _ => ?_) (fun z => absurd z (own_nlt32 (by show ¬ (191 < b2.toInt); omega)))
      refine ow_iload C A3 d1_218 rfl rfl ?_
      refine ow_bipush C A3 d1_220 (v := 6) rfl rfl ?_
      refine ow_ishl C A3 d1_222 rfl ?_
      refine ow_iload C A3 d1_223 rfl rfl ?_
      refine ow_bipush C A3 d1_225 (v := 63) rfl rfl ?_
      refine ow_iand C A3 d1_227 rfl ?_
      refine ow_ior C A3 d1_228 rfl ?_
      refine ow_istore C A3 d1_229 (Ls' := #[.val (.ref a), .val (.int (0 : Int32)), .val (.int (3 : Int32)), .val (.int b0), .val (.int (2 : Int32)), .val (.int (((((b0 &&& (15 : Int32)) <<< ((6 : Int32) &&& 31)) ||| (b1 &&& (63 : Int32))) <<< ((6 : Int32) &&& 31)) ||| (b2 &&& (63 : Int32)))), .val (.int (128 : Int32)), .val (.int (191 : Int32)), .val (.int (3 : Int32)), .val (.int (2 : Int32)), .val (.int b2)]) rfl rfl ?_
      refine ow_sipush C A3 d1_231 (v := 128) rfl rfl ?_
      refine ow_istore C A3 d1_234 (Ls' := #[.val (.ref a), .val (.int (0 : Int32)), .val (.int (3 : Int32)), .val (.int b0), .val (.int (2 : Int32)), .val (.int (((((b0 &&& (15 : Int32)) <<< ((6 : Int32) &&& 31)) ||| (b1 &&& (63 : Int32))) <<< ((6 : Int32) &&& 31)) ||| (b2 &&& (63 : Int32)))), .val (.int (128 : Int32)), .val (.int (191 : Int32)), .val (.int (3 : Int32)), .val (.int (2 : Int32)), .val (.int b2)]) rfl rfl ?_
      refine ow_sipush C A3 d1_236 (v := 191) rfl rfl ?_
      refine ow_istore C A3 d1_239 (Ls' := #[.val (.ref a), .val (.int (0 : Int32)), .val (.int (3 : Int32)), .val (.int b0), .val (.int (2 : Int32)), .val (.int (((((b0 &&& (15 : Int32)) <<< ((6 : Int32) &&& 31)) ||| (b1 &&& (63 : Int32))) <<< ((6 : Int32) &&& 31)) ||| (b2 &&& (63 : Int32)))), .val (.int (128 : Int32)), .val (.int (191 : Int32)), .val (.int (3 : Int32)), .val (.int (2 : Int32)), .val (.int b2)]) rfl rfl ?_
      refine ow_iinc C A3 d1_241 rfl (Ls' := #[.val (.ref a), .val (.int (0 : Int32)), .val (.int (3 : Int32)), .val (.int b0), .val (.int (2 : Int32)), .val (.int (((((b0 &&& (15 : Int32)) <<< ((6 : Int32) &&& 31)) ||| (b1 &&& (63 : Int32))) <<< ((6 : Int32) &&& 31)) ||| (b2 &&& (63 : Int32)))), .val (.int (128 : Int32)), .val (.int (191 : Int32)), .val (.int (3 : Int32)), .val (.int (3 : Int32)), .val (.int b2)]) rfl rfl ?_
      refine ow_goto C A3 d1_244 (by decide) (pc' := 170) (by decide) ?_
      refine ow_iload C A3 d1_170 rfl rfl ?_
      refine ow_iload C A3 d1_172 rfl rfl ?_
      refine ow_icmp_gt C A3 d1_174 (by decide) (pcY := 247) (by decide) (pcN := 177) rfl (fun _ => ?_) (fun z => absurd (by decide) z)
      refine ow_iload C A3 d1_247 rfl rfl ?_
      refine ow_ireturn C A3 (t := .int) rfl rfl (by simp) d1_249 (by decide) (by decide) ?_
      have z0 := own_m15 b0
      have z1 := own_push (b0 &&& (15 : Int32)) b1 (by omega) (by omega)
      have z2 := own_push (((b0 &&& (15 : Int32)) <<< ((6 : Int32) &&& 31)) ||| (b1 &&& (63 : Int32))) b2 (by omega) (by omega)
      exact ⟨rfl, Or.inr ⟨_, rfl, by omega, by omega⟩⟩
    · skip
      have iv4 : b0.toInt = 237 := own_eq32' hc132
      refine ow_sipush C A0 d1_135 (v := 159) rfl rfl ?_
      refine ow_goto C A0 d1_138 (by decide) (pc' := 157) (by decide) ?_
      refine ow_istore C A0 d1_157 (Ls' := #[.val (.ref a), .val (.int (0 : Int32)), .val (.int (3 : Int32)), .val (.int b0), .val (.int (2 : Int32)), .val (.int (b0 &&& (15 : Int32))), .val (.int (128 : Int32)), .val (.int (159 : Int32)), .unset, .unset, .unset]) rfl rfl ?_
      refine ow_iloadN C A0 d1_159 rfl rfl ?_
      refine ow_aloadN C A0 d1_160 rfl rfl rfl ?_
      refine ow_alen C A0 Va d1_161 rfl ?_
      refine ow_callS C A0 (argsL := [(.int (3 : Int32)), (.int (4 : Int32))]) (rm_min l Z a0 hw (3 : Int32) (4 : Int32) h0 []) tw_8 tw_9 tw_10 tw_11 (by decide) all0 (by decide) (by decide) (ck' := 0) (sk' := 0) rfl rfl (by decide) (by decide) rfl (lenOf pd_0 rfl) (S := []) rfl (W := 0) (Nat.le_of_eq rfl) d1_162 rfl ?_
      intro T5 v5 K5 hQ5 A5
      obtain ⟨rfl, ee5⟩ := hQ5
      rw [ee5] at A5 K5
      show OwnWP _ _ _ _ _ _ _ _ _ T5 (mkF m 165 #[.val (.ref a), .val (.int (0 : Int32)), .val (.int (3 : Int32)), .val (.int b0), .val (.int (2 : Int32)), .val (.int (b0 &&& (15 : Int32))), .val (.int (128 : Int32)), .val (.int (159 : Int32)), .unset, .unset, .unset] [(.int (3 : Int32))])
      refine ow_istore C A5 d1_165 (Ls' := #[.val (.ref a), .val (.int (0 : Int32)), .val (.int (3 : Int32)), .val (.int b0), .val (.int (2 : Int32)), .val (.int (b0 &&& (15 : Int32))), .val (.int (128 : Int32)), .val (.int (159 : Int32)), .val (.int (3 : Int32)), .unset, .unset]) rfl rfl ?_
      refine ow_iconst C A5 d1_167 (v := 1) rfl rfl ?_
      refine ow_istore C A5 d1_168 (Ls' := #[.val (.ref a), .val (.int (0 : Int32)), .val (.int (3 : Int32)), .val (.int b0), .val (.int (2 : Int32)), .val (.int (b0 &&& (15 : Int32))), .val (.int (128 : Int32)), .val (.int (159 : Int32)), .val (.int (3 : Int32)), .val (.int (1 : Int32)), .unset]) rfl rfl ?_
      refine ow_iload C A5 d1_170 rfl rfl ?_
      refine ow_iload C A5 d1_172 rfl rfl ?_
      refine ow_icmp_gt C A5 d1_174 (by decide) (pcY := 247) (by decide) (pcN := 177) rfl (fun z => absurd z (by decide)) (fun _ => ?_)
      refine ow_iloadN C A5 d1_177 rfl rfl ?_
      refine ow_iload C A5 d1_178 rfl rfl ?_
      refine ow_iadd C A5 d1_180 rfl ?_
      show OwnWP _ _ _ _ _ _ _ _ _ T5 (mkF m 181 #[.val (.ref a), .val (.int (0 : Int32)), .val (.int (3 : Int32)), .val (.int b0), .val (.int (2 : Int32)), .val (.int (b0 &&& (15 : Int32))), .val (.int (128 : Int32)), .val (.int (159 : Int32)), .val (.int (3 : Int32)), .val (.int (1 : Int32)), .unset] [(.int (1 : Int32))])
      refine ow_iload C A5 d1_181 rfl rfl ?_
      refine ow_icmp_ge C A5 d1_183 (by decide) (pcY := 199) (by decide) (pcN := 186) rfl (fun z => absurd (by decide) z) (fun _ => ?_)
      refine ow_aloadN C A5 d1_186 rfl rfl rfl ?_
      refine ow_iloadN C A5 d1_187 rfl rfl ?_
      refine ow_iload C A5 d1_188 rfl rfl ?_
      refine ow_iadd C A5 d1_190 rfl ?_
      show OwnWP _ _ _ _ _ _ _ _ _ T5 (mkF m 191 #[.val (.ref a), .val (.int (0 : Int32)), .val (.int (3 : Int32)), .val (.int b0), .val (.int (2 : Int32)), .val (.int (b0 &&& (15 : Int32))), .val (.int (128 : Int32)), .val (.int (159 : Int32)), .val (.int (3 : Int32)), .val (.int (1 : Int32)), .unset] [(.int (1 : Int32)), (.ref a)])
      refine ow_baload C A5 Va ⟨by decide, by decide⟩ (v := (.int x1)) rfl d1_191 rfl ?_
      refine ow_sipush C A5 d1_192 (v := 255) rfl rfl ?_
      refine ow_iand C A5 d1_195 rfl ?_
      rw [e1]
      refine ow_goto C A5 d1_196 (by decide) (pc' := 200) (by decide) ?_
      refine ow_istore C A5 d1_200 (Ls' := #[.val (.ref a), .val (.int (0 : Int32)), .val (.int (3 : Int32)), .val (.int b0), .val (.int (2 : Int32)), .val (.int (b0 &&& (15 : Int32))), .val (.int (128 : Int32)), .val (.int (159 : Int32)), .val (.int (3 : Int32)), .val (.int (1 : Int32)), .val (.int b1)]) rfl rfl ?_
      refine ow_iload C A5 d1_202 rfl rfl ?_
      refine ow_iload C A5 d1_204 rfl rfl ?_
      refine ow_icmp_lt C A5 d1_206 (by decide) (pcY := 216) (by decide) (pcN := 209) rfl (fun z => absurd z (own_nlt32 (by show ¬ (b1.toInt < 128); omega))) (fun _ => ?_)
      refine ow_iload C A5 d1_209 rfl rfl ?_
      refine ow_iload C A5 d1_211 rfl rfl ?_
      refine ow_icmp_le C A5 d1_213 (by decide) (pcY := 218) (by decide) (pcN := 216) rfl (fun hc213 => ?_) (fun hc213 => ?_)
      · skip
        have iv6 : ¬ (159 < b1.toInt) := own_nlt32' hc213
        refine ow_iload C A5 d1_218 rfl rfl ?_
        refine ow_bipush C A5 d1_220 (v := 6) rfl rfl ?_
        refine ow_ishl C A5 d1_222 rfl ?_
        refine ow_iload C A5 d1_223 rfl rfl ?_
        refine ow_bipush C A5 d1_225 (v := 63) rfl rfl ?_
        refine ow_iand C A5 d1_227 rfl ?_
        refine ow_ior C A5 d1_228 rfl ?_
        refine ow_istore C A5 d1_229 (Ls' := #[.val (.ref a), .val (.int (0 : Int32)), .val (.int (3 : Int32)), .val (.int b0), .val (.int (2 : Int32)), .val (.int (((b0 &&& (15 : Int32)) <<< ((6 : Int32) &&& 31)) ||| (b1 &&& (63 : Int32)))), .val (.int (128 : Int32)), .val (.int (159 : Int32)), .val (.int (3 : Int32)), .val (.int (1 : Int32)), .val (.int b1)]) rfl rfl ?_
        refine ow_sipush C A5 d1_231 (v := 128) rfl rfl ?_
        refine ow_istore C A5 d1_234 (Ls' := #[.val (.ref a), .val (.int (0 : Int32)), .val (.int (3 : Int32)), .val (.int b0), .val (.int (2 : Int32)), .val (.int (((b0 &&& (15 : Int32)) <<< ((6 : Int32) &&& 31)) ||| (b1 &&& (63 : Int32)))), .val (.int (128 : Int32)), .val (.int (159 : Int32)), .val (.int (3 : Int32)), .val (.int (1 : Int32)), .val (.int b1)]) rfl rfl ?_
        refine ow_sipush C A5 d1_236 (v := 191) rfl rfl ?_
        refine ow_istore C A5 d1_239 (Ls' := #[.val (.ref a), .val (.int (0 : Int32)), .val (.int (3 : Int32)), .val (.int b0), .val (.int (2 : Int32)), .val (.int (((b0 &&& (15 : Int32)) <<< ((6 : Int32) &&& 31)) ||| (b1 &&& (63 : Int32)))), .val (.int (128 : Int32)), .val (.int (191 : Int32)), .val (.int (3 : Int32)), .val (.int (1 : Int32)), .val (.int b1)]) rfl rfl ?_
        refine ow_iinc C A5 d1_241 rfl (Ls' := #[.val (.ref a), .val (.int (0 : Int32)), .val (.int (3 : Int32)), .val (.int b0), .val (.int (2 : Int32)), .val (.int (((b0 &&& (15 : Int32)) <<< ((6 : Int32) &&& 31)) ||| (b1 &&& (63 : Int32)))), .val (.int (128 : Int32)), .val (.int (191 : Int32)), .val (.int (3 : Int32)), .val (.int (2 : Int32)), .val (.int b1)]) rfl rfl ?_
        refine ow_goto C A5 d1_244 (by decide) (pc' := 170) (by decide) ?_
        refine ow_iload C A5 d1_170 rfl rfl ?_
        refine ow_iload C A5 d1_172 rfl rfl ?_
        refine ow_icmp_gt C A5 d1_174 (by decide) (pcY := 247) (by decide) (pcN := 177) rfl (fun z => absurd z (by decide)) (fun _ => ?_)
        refine ow_iloadN C A5 d1_177 rfl rfl ?_
        refine ow_iload C A5 d1_178 rfl rfl ?_
        refine ow_iadd C A5 d1_180 rfl ?_
        show OwnWP _ _ _ _ _ _ _ _ _ T5 (mkF m 181 #[.val (.ref a), .val (.int (0 : Int32)), .val (.int (3 : Int32)), .val (.int b0), .val (.int (2 : Int32)), .val (.int (((b0 &&& (15 : Int32)) <<< ((6 : Int32) &&& 31)) ||| (b1 &&& (63 : Int32)))), .val (.int (128 : Int32)), .val (.int (191 : Int32)), .val (.int (3 : Int32)), .val (.int (2 : Int32)), .val (.int b1)] [(.int (2 : Int32))])
        refine ow_iload C A5 d1_181 rfl rfl ?_
        refine ow_icmp_ge C A5 d1_183 (by decide) (pcY := 199) (by decide) (pcN := 186) rfl (fun z => absurd (by decide) z) (fun _ => ?_)
        refine ow_aloadN C A5 d1_186 rfl rfl rfl ?_
        refine ow_iloadN C A5 d1_187 rfl rfl ?_
        refine ow_iload C A5 d1_188 rfl rfl ?_
        refine ow_iadd C A5 d1_190 rfl ?_
        show OwnWP _ _ _ _ _ _ _ _ _ T5 (mkF m 191 #[.val (.ref a), .val (.int (0 : Int32)), .val (.int (3 : Int32)), .val (.int b0), .val (.int (2 : Int32)), .val (.int (((b0 &&& (15 : Int32)) <<< ((6 : Int32) &&& 31)) ||| (b1 &&& (63 : Int32)))), .val (.int (128 : Int32)), .val (.int (191 : Int32)), .val (.int (3 : Int32)), .val (.int (2 : Int32)), .val (.int b1)] [(.int (2 : Int32)), (.ref a)])
        refine ow_baload C A5 Va ⟨by decide, by decide⟩ (v := (.int x2)) rfl d1_191 rfl ?_
        refine ow_sipush C A5 d1_192 (v := 255) rfl rfl ?_
        refine ow_iand C A5 d1_195 rfl ?_
        rw [e2]
        refine ow_goto C A5 d1_196 (by decide) (pc' := 200) (by decide) ?_
        refine ow_istore C A5 d1_200 (Ls' := #[.val (.ref a), .val (.int (0 : Int32)), .val (.int (3 : Int32)), .val (.int b0), .val (.int (2 : Int32)), .val (.int (((b0 &&& (15 : Int32)) <<< ((6 : Int32) &&& 31)) ||| (b1 &&& (63 : Int32)))), .val (.int (128 : Int32)), .val (.int (191 : Int32)), .val (.int (3 : Int32)), .val (.int (2 : Int32)), .val (.int b2)]) rfl rfl ?_
        refine ow_iload C A5 d1_202 rfl rfl ?_
        refine ow_iload C A5 d1_204 rfl rfl ?_
        refine ow_icmp_lt C A5 d1_206 (by decide) (pcY := 216) (by decide) (pcN := 209) rfl (fun z => absurd z (own_nlt32 (by show ¬ (b2.toInt < 128); omega))) (fun _ => ?_)
        refine ow_iload C A5 d1_209 rfl rfl ?_
        refine ow_iload C A5 d1_211 rfl rfl ?_
        refine ow_icmp_le C A5 d1_213 (by decide) (pcY := 218) (by decide) (pcN := 216) rfl (fun _ => ?_) (fun z => absurd z (own_nlt32 (by show ¬ (191 < b2.toInt); omega)))
        refine ow_iload C A5 d1_218 rfl rfl ?_
        refine ow_bipush C A5 d1_220 (v := 6) rfl rfl ?_
        refine ow_ishl C A5 d1_222 rfl ?_
        refine ow_iload C A5 d1_223 rfl rfl ?_
        refine ow_bipush C A5 d1_225 (v := 63) rfl rfl ?_
        refine ow_iand C A5 d1_227 rfl ?_
        refine ow_ior C A5 d1_228 rfl ?_
        refine ow_istore C A5 d1_229 (Ls' := #[.val (.ref a), .val (.int (0 : Int32)), .val (.int (3 : Int32)), .val (.int b0), .val (.int (2 : Int32)), .val (.int (((((b0 &&& (15 : Int32)) <<< ((6 : Int32) &&& 31)) ||| (b1 &&& (63 : Int32))) <<< ((6 : Int32) &&& 31)) ||| (b2 &&& (63 : Int32)))), .val (.int (128 : Int32)), .val (.int (191 : Int32)), .val (.int (3 : Int32)), .val (.int (2 : Int32)), .val (.int b2)]) rfl rfl ?_
        refine ow_sipush C A5 d1_231 (v := 128) rfl rfl ?_
        refine ow_istore C A5 d1_234 (Ls' := #[.val (.ref a), .val (.int (0 : Int32)), .val (.int (3 : Int32)), .val (.int b0), .val (.int (2 : Int32)), .val (.int (((((b0 &&& (15 : Int32)) <<< ((6 : Int32) &&& 31)) ||| (b1 &&& (63 : Int32))) <<< ((6 : Int32) &&& 31)) ||| (b2 &&& (63 : Int32)))), .val (.int (128 : Int32)), .val (.int (191 : Int32)), .val (.int (3 : Int32)), .val (.int (2 : Int32)), .val (.int b2)]) rfl rfl ?_
        refine ow_sipush C A5 d1_236 (v := 191) rfl rfl ?_
        refine ow_istore C A5 d1_239 (Ls' := #[.val (.ref a), .val (.int (0 : Int32)), .val (.int (3 : Int32)), .val (.int b0), .val (.int (2 : Int32)), .val (.int (((((b0 &&& (15 : Int32)) <<< ((6 : Int32) &&& 31)) ||| (b1 &&& (63 : Int32))) <<< ((6 : Int32) &&& 31)) ||| (b2 &&& (63 : Int32)))), .val (.int (128 : Int32)), .val (.int (191 : Int32)), .val (.int (3 : Int32)), .val (.int (2 : Int32)), .val (.int b2)]) rfl rfl ?_
        refine ow_iinc C A5 d1_241 rfl (Ls' := #[.val (.ref a), .val (.int (0 : Int32)), .val (.int (3 : Int32)), .val (.int b0), .val (.int (2 : Int32)), .val (.int (((((b0 &&& (15 : Int32)) <<< ((6 : Int32) &&& 31)) ||| (b1 &&& (63 : Int32))) <<< ((6 : Int32) &&& 31)) ||| (b2 &&& (63 : Int32)))), .val (.int (128 : Int32)), .val (.int (191 : Int32)), .val (.int (3 : Int32)), .val (.int (3 : Int32)), .val (.int b2)]) rfl rfl ?_
        refine ow_goto C A5 d1_244 (by decide) (pc' := 170) (by decide) ?_
        refine ow_iload C A5 d1_170 rfl rfl ?_
        refine ow_iload C A5 d1_172 rfl rfl ?_
        refine ow_icmp_gt C A5 d1_174 (by decide) (pcY := 247) (by decide) (pcN := 177) rfl (fun _ => ?_) (fun z => absurd (by decide) z)
        refine ow_iload C A5 d1_247 rfl rfl ?_
        refine ow_ireturn C A5 (t := .int) rfl rfl (by simp) d1_249 (by decide) (by decide) ?_
        have z0 := own_m15 b0
        have z1 := own_push (b0 &&& (15 : Int32)) b1 (by omega) (by omega)
        have z2 := own_push (((b0 &&& (15 : Int32)) <<< ((6 : Int32) &&& 31)) ||| (b1 &&& (63 : Int32))) b2 (by omega) (by omega)
        exact ⟨rfl, Or.inr ⟨_, rfl, by omega, by omega⟩⟩
      · skip
        have iv7 : 159 < b1.toInt := own_lt32' hc213
        refine ow_iconst C A5 d1_216 (v := (-1)) rfl rfl ?_
        refine ow_ireturn C A5 (t := .int) rfl rfl (by simp) d1_217 (by decide) (by decide) ?_
        exact ⟨rfl, Or.inl rfl⟩
  · skip
    have iv8 : b0.toInt = 224 := own_eq32' hc101
    refine ow_sipush C A0 d1_104 (v := 160) rfl rfl ?_
    refine ow_goto C A0 d1_107 (by decide) (pc' := 126) (by decide) ?_
    refine ow_istore C A0 d1_126 (Ls' := #[.val (.ref a), .val (.int (0 : Int32)), .val (.int (3 : Int32)), .val (.int b0), .val (.int (2 : Int32)), .val (.int (b0 &&& (15 : Int32))), .val (.int (160 : Int32)), .unset, .unset, .unset, .unset]) rfl rfl ?_
    refine ow_iloadN C A0 d1_128 rfl rfl ?_
    refine ow_sipush C A0 d1_129 (v := 237) rfl rfl ?_
    refine ow_icmp_ne C A0 d1_132 (by decide) (pcY := 141) (by decide) (pcN := 135) rfl (fun _ => ?_) (fun z => absurd z (own_ne32 (by show ¬ (b0.toInt = 237); omega)))
    refine ow_iloadN C A0 d1_141 rfl rfl ?_
    refine ow_sipush C A0 d1_142 (v := 244) rfl rfl ?_
    refine ow_icmp_ne C A0 d1_145 (by decide) (pcY := 154) (by decide) (pcN := 148) rfl (fun _ => ?_) (fun z => absurd z (own_ne32 (by show ¬ (b0.toInt = 244); omega)))
    refine ow_sipush C A0 d1_154 (v := 191) rfl rfl ?_
    refine ow_istore C A0 d1_157 (Ls' := #[.val (.ref a), .val (.int (0 : Int32)), .val (.int (3 : Int32)), .val (.int b0), .val (.int (2 : Int32)), .val (.int (b0 &&& (15 : Int32))), .val (.int (160 : Int32)), .val (.int (191 : Int32)), .unset, .unset, .unset]) rfl rfl ?_
    refine ow_iloadN C A0 d1_159 rfl rfl ?_
    refine ow_aloadN C A0 d1_160 rfl rfl rfl ?_
    refine ow_alen C A0 Va d1_161 rfl ?_
    refine ow_callS C A0 (argsL := [(.int (3 : Int32)), (.int (4 : Int32))]) (rm_min l Z a0 hw (3 : Int32) (4 : Int32) h0 []) tw_8 tw_9 tw_10 tw_11 (by decide) all0 (by decide) (by decide) (ck' := 0) (sk' := 0) rfl rfl (by decide) (by decide) rfl (lenOf pd_0 rfl) (S := []) rfl (W := 0) (Nat.le_of_eq rfl) d1_162 rfl ?_
    intro T9 v9 K9 hQ9 A9
    obtain ⟨rfl, ee9⟩ := hQ9
    rw [ee9] at A9 K9
    show OwnWP _ _ _ _ _ _ _ _ _ T9 (mkF m 165 #[.val (.ref a), .val (.int (0 : Int32)), .val (.int (3 : Int32)), .val (.int b0), .val (.int (2 : Int32)), .val (.int (b0 &&& (15 : Int32))), .val (.int (160 : Int32)), .val (.int (191 : Int32)), .unset, .unset, .unset] [(.int (3 : Int32))])
    refine ow_istore C A9 d1_165 (Ls' := #[.val (.ref a), .val (.int (0 : Int32)), .val (.int (3 : Int32)), .val (.int b0), .val (.int (2 : Int32)), .val (.int (b0 &&& (15 : Int32))), .val (.int (160 : Int32)), .val (.int (191 : Int32)), .val (.int (3 : Int32)), .unset, .unset]) rfl rfl ?_
    refine ow_iconst C A9 d1_167 (v := 1) rfl rfl ?_
    refine ow_istore C A9 d1_168 (Ls' := #[.val (.ref a), .val (.int (0 : Int32)), .val (.int (3 : Int32)), .val (.int b0), .val (.int (2 : Int32)), .val (.int (b0 &&& (15 : Int32))), .val (.int (160 : Int32)), .val (.int (191 : Int32)), .val (.int (3 : Int32)), .val (.int (1 : Int32)), .unset]) rfl rfl ?_
    refine ow_iload C A9 d1_170 rfl rfl ?_
    refine ow_iload C A9 d1_172 rfl rfl ?_
    refine ow_icmp_gt C A9 d1_174 (by decide) (pcY := 247) (by decide) (pcN := 177) rfl (fun z => absurd z (by decide)) (fun _ => ?_)
    refine ow_iloadN C A9 d1_177 rfl rfl ?_
    refine ow_iload C A9 d1_178 rfl rfl ?_
    refine ow_iadd C A9 d1_180 rfl ?_
    show OwnWP _ _ _ _ _ _ _ _ _ T9 (mkF m 181 #[.val (.ref a), .val (.int (0 : Int32)), .val (.int (3 : Int32)), .val (.int b0), .val (.int (2 : Int32)), .val (.int (b0 &&& (15 : Int32))), .val (.int (160 : Int32)), .val (.int (191 : Int32)), .val (.int (3 : Int32)), .val (.int (1 : Int32)), .unset] [(.int (1 : Int32))])
    refine ow_iload C A9 d1_181 rfl rfl ?_
    refine ow_icmp_ge C A9 d1_183 (by decide) (pcY := 199) (by decide) (pcN := 186) rfl (fun z => absurd (by decide) z) (fun _ => ?_)
    refine ow_aloadN C A9 d1_186 rfl rfl rfl ?_
    refine ow_iloadN C A9 d1_187 rfl rfl ?_
    refine ow_iload C A9 d1_188 rfl rfl ?_
    refine ow_iadd C A9 d1_190 rfl ?_
    show OwnWP _ _ _ _ _ _ _ _ _ T9 (mkF m 191 #[.val (.ref a), .val (.int (0 : Int32)), .val (.int (3 : Int32)), .val (.int b0), .val (.int (2 : Int32)), .val (.int (b0 &&& (15 : Int32))), .val (.int (160 : Int32)), .val (.int (191 : Int32)), .val (.int (3 : Int32)), .val (.int (1 : Int32)), .unset] [(.int (1 : Int32)), (.ref a)])
    refine ow_baload C A9 Va ⟨by decide, by decide⟩ (v := (.int x1)) rfl d1_191 rfl ?_
    refine ow_sipush C A9 d1_192 (v := 255) rfl rfl ?_
    refine ow_iand C A9 d1_195 rfl ?_
    rw [e1]
    refine ow_goto C A9 d1_196 (by decide) (pc' := 200) (by decide) ?_
    refine ow_istore C A9 d1_200 (Ls' := #[.val (.ref a), .val (.int (0 : Int32)), .val (.int (3 : Int32)), .val (.int b0), .val (.int (2 : Int32)), .val (.int (b0 &&& (15 : Int32))), .val (.int (160 : Int32)), .val (.int (191 : Int32)), .val (.int (3 : Int32)), .val (.int (1 : Int32)), .val (.int b1)]) rfl rfl ?_
    refine ow_iload C A9 d1_202 rfl rfl ?_
    refine ow_iload C A9 d1_204 rfl rfl ?_
    refine ow_icmp_lt C A9 d1_206 (by decide) (pcY := 216) (by decide) (pcN := 209) rfl (fun hc206 => ?_) (fun hc206 => ?_)
    · skip
      have iv10 : b1.toInt < 160 := own_lt32' hc206
      refine ow_iconst C A9 d1_216 (v := (-1)) rfl rfl ?_
      refine ow_ireturn C A9 (t := .int) rfl rfl (by simp) d1_217 (by decide) (by decide) ?_
      exact ⟨rfl, Or.inl rfl⟩
    · skip
      have iv11 : ¬ (b1.toInt < 160) := own_nlt32' hc206
      refine ow_iload C A9 d1_209 rfl rfl ?_
      refine ow_iload C A9 d1_211 rfl rfl ?_
      refine ow_icmp_le C A9 d1_213 (by decide) (pcY := 218) (by decide) (pcN := 216) rfl (fun _ => ?_) (fun z => absurd z (own_nlt32 (by show ¬ (191 < b1.toInt); omega)))
      refine ow_iload C A9 d1_218 rfl rfl ?_
      refine ow_bipush C A9 d1_220 (v := 6) rfl rfl ?_
      refine ow_ishl C A9 d1_222 rfl ?_
      refine ow_iload C A9 d1_223 rfl rfl ?_
      refine ow_bipush C A9 d1_225 (v := 63) rfl rfl ?_
      refine ow_iand C A9 d1_227 rfl ?_
      refine ow_ior C A9 d1_228 rfl ?_
      refine ow_istore C A9 d1_229 (Ls' := #[.val (.ref a), .val (.int (0 : Int32)), .val (.int (3 : Int32)), .val (.int b0), .val (.int (2 : Int32)), .val (.int (((b0 &&& (15 : Int32)) <<< ((6 : Int32) &&& 31)) ||| (b1 &&& (63 : Int32)))), .val (.int (160 : Int32)), .val (.int (191 : Int32)), .val (.int (3 : Int32)), .val (.int (1 : Int32)), .val (.int b1)]) rfl rfl ?_
      refine ow_sipush C A9 d1_231 (v := 128) rfl rfl ?_
      refine ow_istore C A9 d1_234 (Ls' := #[.val (.ref a), .val (.int (0 : Int32)), .val (.int (3 : Int32)), .val (.int b0), .val (.int (2 : Int32)), .val (.int (((b0 &&& (15 : Int32)) <<< ((6 : Int32) &&& 31)) ||| (b1 &&& (63 : Int32)))), .val (.int (128 : Int32)), .val (.int (191 : Int32)), .val (.int (3 : Int32)), .val (.int (1 : Int32)), .val (.int b1)]) rfl rfl ?_
      refine ow_sipush C A9 d1_236 (v := 191) rfl rfl ?_
      refine ow_istore C A9 d1_239 (Ls' := #[.val (.ref a), .val (.int (0 : Int32)), .val (.int (3 : Int32)), .val (.int b0), .val (.int (2 : Int32)), .val (.int (((b0 &&& (15 : Int32)) <<< ((6 : Int32) &&& 31)) ||| (b1 &&& (63 : Int32)))), .val (.int (128 : Int32)), .val (.int (191 : Int32)), .val (.int (3 : Int32)), .val (.int (1 : Int32)), .val (.int b1)]) rfl rfl ?_
      refine ow_iinc C A9 d1_241 rfl (Ls' := #[.val (.ref a), .val (.int (0 : Int32)), .val (.int (3 : Int32)), .val (.int b0), .val (.int (2 : Int32)), .val (.int (((b0 &&& (15 : Int32)) <<< ((6 : Int32) &&& 31)) ||| (b1 &&& (63 : Int32)))), .val (.int (128 : Int32)), .val (.int (191 : Int32)), .val (.int (3 : Int32)), .val (.int (2 : Int32)), .val (.int b1)]) rfl rfl ?_
      refine ow_goto C A9 d1_244 (by decide) (pc' := 170) (by decide) ?_
      refine ow_iload C A9 d1_170 rfl rfl ?_
      refine ow_iload C A9 d1_172 rfl rfl ?_
      refine ow_icmp_gt C A9 d1_174 (by decide) (pcY := 247) (by decide) (pcN := 177) rfl (fun z => absurd z (by decide)) (fun _ => ?_)
      refine ow_iloadN C A9 d1_177 rfl rfl ?_
      refine ow_iload C A9 d1_178 rfl rfl ?_
      refine ow_iadd C A9 d1_180 rfl ?_
      show OwnWP _ _ _ _ _ _ _ _ _ T9 (mkF m 181 #[.val (.ref a), .val (.int (0 : Int32)), .val (.int (3 : Int32)), .val (.int b0), .val (.int (2 : Int32)), .val (.int (((b0 &&& (15 : Int32)) <<< ((6 : Int32) &&& 31)) ||| (b1 &&& (63 : Int32)))), .val (.int (128 : Int32)), .val (.int (191 : Int32)), .val (.int (3 : Int32)), .val (.int (2 : Int32)), .val (.int b1)] [(.int (2 : Int32))])
      refine ow_iload C A9 d1_181 rfl rfl ?_
      refine ow_icmp_ge C A9 d1_183 (by decide) (pcY := 199) (by decide) (pcN := 186) rfl (fun z => absurd (by decide) z) (fun _ => ?_)
      refine ow_aloadN C A9 d1_186 rfl rfl rfl ?_
      refine ow_iloadN C A9 d1_187 rfl rfl ?_
      refine ow_iload C A9 d1_188 rfl rfl ?_
      refine ow_iadd C A9 d1_190 rfl ?_
      show OwnWP _ _ _ _ _ _ _ _ _ T9 (mkF m 191 #[.val (.ref a), .val (.int (0 : Int32)), .val (.int (3 : Int32)), .val (.int b0), .val (.int (2 : Int32)), .val (.int (((b0 &&& (15 : Int32)) <<< ((6 : Int32) &&& 31)) ||| (b1 &&& (63 : Int32)))), .val (.int (128 : Int32)), .val (.int (191 : Int32)), .val (.int (3 : Int32)), .val (.int (2 : Int32)), .val (.int b1)] [(.int (2 : Int32)), (.ref a)])
      refine ow_baload C A9 Va ⟨by decide, by decide⟩ (v := (.int x2)) rfl d1_191 rfl ?_
      refine ow_sipush C A9 d1_192 (v := 255) rfl rfl ?_
      refine ow_iand C A9 d1_195 rfl ?_
      rw [e2]
      refine ow_goto C A9 d1_196 (by decide) (pc' := 200) (by decide) ?_
      refine ow_istore C A9 d1_200 (Ls' := #[.val (.ref a), .val (.int (0 : Int32)), .val (.int (3 : Int32)), .val (.int b0), .val (.int (2 : Int32)), .val (.int (((b0 &&& (15 : Int32)) <<< ((6 : Int32) &&& 31)) ||| (b1 &&& (63 : Int32)))), .val (.int (128 : Int32)), .val (.int (191 : Int32)), .val (.int (3 : Int32)), .val (.int (2 : Int32)), .val (.int b2)]) rfl rfl ?_
      refine ow_iload C A9 d1_202 rfl rfl ?_
      refine ow_iload C A9 d1_204 rfl rfl ?_
      refine ow_icmp_lt C A9 d1_206 (by decide) (pcY := 216) (by decide) (pcN := 209) rfl (fun z => absurd z (own_nlt32 (by show ¬ (b2.toInt < 128); omega))) (fun _ => ?_)
      refine ow_iload C A9 d1_209 rfl rfl ?_
      refine ow_iload C A9 d1_211 rfl rfl ?_
      refine ow_icmp_le C A9 d1_213 (by decide) (pcY := 218) (by decide) (pcN := 216) rfl (fun _ => ?_) (fun z => absurd z (own_nlt32 (by show ¬ (191 < b2.toInt); omega)))
      refine ow_iload C A9 d1_218 rfl rfl ?_
      refine ow_bipush C A9 d1_220 (v := 6) rfl rfl ?_
      refine ow_ishl C A9 d1_222 rfl ?_
      refine ow_iload C A9 d1_223 rfl rfl ?_
      refine ow_bipush C A9 d1_225 (v := 63) rfl rfl ?_
      refine ow_iand C A9 d1_227 rfl ?_
      refine ow_ior C A9 d1_228 rfl ?_
      refine ow_istore C A9 d1_229 (Ls' := #[.val (.ref a), .val (.int (0 : Int32)), .val (.int (3 : Int32)), .val (.int b0), .val (.int (2 : Int32)), .val (.int (((((b0 &&& (15 : Int32)) <<< ((6 : Int32) &&& 31)) ||| (b1 &&& (63 : Int32))) <<< ((6 : Int32) &&& 31)) ||| (b2 &&& (63 : Int32)))), .val (.int (128 : Int32)), .val (.int (191 : Int32)), .val (.int (3 : Int32)), .val (.int (2 : Int32)), .val (.int b2)]) rfl rfl ?_
      refine ow_sipush C A9 d1_231 (v := 128) rfl rfl ?_
      refine ow_istore C A9 d1_234 (Ls' := #[.val (.ref a), .val (.int (0 : Int32)), .val (.int (3 : Int32)), .val (.int b0), .val (.int (2 : Int32)), .val (.int (((((b0 &&& (15 : Int32)) <<< ((6 : Int32) &&& 31)) ||| (b1 &&& (63 : Int32))) <<< ((6 : Int32) &&& 31)) ||| (b2 &&& (63 : Int32)))), .val (.int (128 : Int32)), .val (.int (191 : Int32)), .val (.int (3 : Int32)), .val (.int (2 : Int32)), .val (.int b2)]) rfl rfl ?_
      refine ow_sipush C A9 d1_236 (v := 191) rfl rfl ?_
      refine ow_istore C A9 d1_239 (Ls' := #[.val (.ref a), .val (.int (0 : Int32)), .val (.int (3 : Int32)), .val (.int b0), .val (.int (2 : Int32)), .val (.int (((((b0 &&& (15 : Int32)) <<< ((6 : Int32) &&& 31)) ||| (b1 &&& (63 : Int32))) <<< ((6 : Int32) &&& 31)) ||| (b2 &&& (63 : Int32)))), .val (.int (128 : Int32)), .val (.int (191 : Int32)), .val (.int (3 : Int32)), .val (.int (2 : Int32)), .val (.int b2)]) rfl rfl ?_
      refine ow_iinc C A9 d1_241 rfl (Ls' := #[.val (.ref a), .val (.int (0 : Int32)), .val (.int (3 : Int32)), .val (.int b0), .val (.int (2 : Int32)), .val (.int (((((b0 &&& (15 : Int32)) <<< ((6 : Int32) &&& 31)) ||| (b1 &&& (63 : Int32))) <<< ((6 : Int32) &&& 31)) ||| (b2 &&& (63 : Int32)))), .val (.int (128 : Int32)), .val (.int (191 : Int32)), .val (.int (3 : Int32)), .val (.int (3 : Int32)), .val (.int b2)]) rfl rfl ?_
      refine ow_goto C A9 d1_244 (by decide) (pc' := 170) (by decide) ?_
      refine ow_iload C A9 d1_170 rfl rfl ?_
      refine ow_iload C A9 d1_172 rfl rfl ?_
      refine ow_icmp_gt C A9 d1_174 (by decide) (pcY := 247) (by decide) (pcN := 177) rfl (fun _ => ?_) (fun z => absurd (by decide) z)
      refine ow_iload C A9 d1_247 rfl rfl ?_
      refine ow_ireturn C A9 (t := .int) rfl rfl (by simp) d1_249 (by decide) (by decide) ?_
      have z0 := own_m15 b0
      have z1 := own_push (b0 &&& (15 : Int32)) b1 (by omega) (by omega)
      have z2 := own_push (((b0 &&& (15 : Int32)) <<< ((6 : Int32) &&& 31)) ||| (b1 &&& (63 : Int32))) b2 (by omega) (by omega)
      exact ⟨rfl, Or.inr ⟨_, rfl, by omega, by omega⟩⟩
set_option maxRecDepth 65536 in
set_option maxHeartbeats 40000000 in
theorem rm_cp4 (l : Launch) (Z : State) (a0 : Array Value) (hw : ∀ d ∈ tables_1, d.before a0 Z = true) (a : Addr) (kk : ClassId) (x0 b0 : Int32) (x1 b1 : Int32) (x2 b2 : Int32) (x3 b3 : Int32) (h0 : Heap) (Va : Arv Z h0 a kk .byte (4 : Int32) [(.int x0), (.int x1), (.int x2), (.int x3)] (.int (0 : Int32))) (e0 : x0 &&& 255 = b0) (e1 : x1 &&& 255 = b1) (e2 : x2 &&& 255 = b2) (e3 : x3 &&& 255 = b3) (hb0 : 240 ≤ b0.toInt ∧ b0.toInt ≤ 247) (hb1 : 128 ≤ b1.toInt ∧ b1.toInt ≤ 191) (hb2 : 128 ≤ b2.toInt ∧ b2.toInt ≤ 191) (hb3 : 128 ≤ b3.toInt ∧ b3.toInt ≤ 191) (cs : List Jvm.Cond) :
    OwnCtr l Z (⟨"com/example/canonwire/canonwire/Utf8", "codePointAt", "([BII)I"⟩ : MethodName) prog_47_method_2_code 11 (some .int) rmc #[(.ref a), (.int (0 : Int32)), (.int (4 : Int32))] h0 [] (QC 65536 1114111 h0) cs := by
  refine ow_ctr pn_1 hw (Ls := #[.val (.ref a), .val (.int (0 : Int32)), .val (.int (4 : Int32)), .unset, .unset, .unset, .unset, .unset, .unset, .unset, .unset]) (fun m => by first | (simp [entryFrame, mkF, argsToLocals, Value.category]; done) | rfl) ?_
  intro p e s m below meth c T0 C A0
  have hl0 := hb0.1
  have hu0 := hb0.2
  have hl1 := hb1.1
  have hu1 := hb1.2
  have hl2 := hb2.1
  have hu2 := hb2.2
  have hl3 := hb3.1
  have hu3 := hb3.2
  refine ow_aloadN C A0 d1_0 rfl rfl rfl ?_
  refine ow_iloadN C A0 d1_1 rfl rfl ?_
  refine ow_baload C A0 Va ⟨by decide, by decide⟩ (v := (.int x0)) rfl d1_2 rfl ?_
  refine ow_sipush C A0 d1_3 (v := 255) rfl rfl ?_
  refine ow_iand C A0 d1_6 rfl ?_
  rw [e0]
  refine ow_istoreN C A0 d1_7 (Ls' := #[.val (.ref a), .val (.int (0 : Int32)), .val (.int (4 : Int32)), .val (.int b0), .unset, .unset, .unset, .unset, .unset, .unset, .unset]) rfl rfl ?_
  refine ow_iloadN C A0 d1_8 rfl rfl ?_
  refine ow_sipush C A0 d1_9 (v := 128) rfl rfl ?_
  refine ow_icmp_ge C A0 d1_12 (by decide) (pcY := 17) (by decide) (pcN := 15) rfl (fun _ => ?_) (fun z => absurd z (own_nlt32 (by show ¬ (b0.toInt < 128); omega)))
  refine ow_iloadN C A0 d1_17 rfl rfl ?_
  refine ow_sipush C A0 d1_18 (v := 194) rfl rfl ?_
  refine ow_icmp_lt C A0 d1_21 (by decide) (pcY := 43) (by decide) (pcN := 24) rfl (fun z => absurd z (own_nlt32 (by show ¬ (b0.toInt < 194); omega))) (fun _ => ?_)
  refine ow_iloadN C A0 d1_24 rfl rfl ?_
  refine ow_sipush C A0 d1_25 (v := 223) rfl rfl ?_
  refine ow_icmp_gt C A0 d1_28 (by decide) (pcY := 43) (by decide) (pcN := 31) rfl (fun _ => ?_) (fun z => absurd (own_lt32 (by show 223 < b0.toInt; omega)) z)
  refine ow_iloadN C A0 d1_43 rfl rfl ?_
  refine ow_sipush C A0 d1_44 (v := 224) rfl rfl ?_
  refine ow_icmp_lt C A0 d1_47 (by decide) (pcY := 69) (by decide) (pcN := 50) rfl (fun z => absurd z (own_nlt32 (by show ¬ (b0.toInt < 224); omega))) (fun _ => ?_)
  refine ow_iloadN C A0 d1_50 rfl rfl ?_
  refine ow_sipush C A0 d1_51 (v := 239) rfl rfl ?_
  refine ow_icmp_gt C A0 d1_54 (by decide) (pcY := 69) (by decide) (pcN := 57) rfl (fun _ => ?_) (fun z => absurd (own_lt32 (by show 239 < b0.toInt; omega)) z)
  refine ow_iloadN C A0 d1_69 rfl rfl ?_
  refine ow_sipush C A0 d1_70 (v := 240) rfl rfl ?_
  refine ow_icmp_lt C A0 d1_73 (by decide) (pcY := 95) (by decide) (pcN := 76) rfl (fun z => absurd z (own_nlt32 (by show ¬ (b0.toInt < 240); omega))) (fun _ => ?_)
  refine ow_iloadN C A0 d1_76 rfl rfl ?_
  refine ow_sipush C A0 d1_77 (v := 244) rfl rfl ?_
  refine ow_icmp_gt C A0 d1_80 (by decide) (pcY := 95) (by decide) (pcN := 83) rfl (fun hc80 => ?_) (fun hc80 => ?_)
  · skip
    have iv1 : 244 < b0.toInt := own_lt32' hc80
    refine ow_iconst C A0 d1_95 (v := (-1)) rfl rfl ?_
    refine ow_ireturn C A0 (t := .int) rfl rfl (by simp) d1_96 (by decide) (by decide) ?_
    exact ⟨rfl, Or.inl rfl⟩
  · skip
    have iv2 : ¬ (244 < b0.toInt) := own_nlt32' hc80
    refine ow_iconst C A0 d1_83 (v := 3) rfl rfl ?_
    refine ow_istore C A0 d1_84 (Ls' := #[.val (.ref a), .val (.int (0 : Int32)), .val (.int (4 : Int32)), .val (.int b0), .val (.int (3 : Int32)), .unset, .unset, .unset, .unset, .unset, .unset]) rfl rfl ?_
    refine ow_iloadN C A0 d1_86 rfl rfl ?_
    refine ow_bipush C A0 d1_87 (v := 7) rfl rfl ?_
    refine ow_iand C A0 d1_89 rfl ?_
    refine ow_istore C A0 d1_90 (Ls' := #[.val (.ref a), .val (.int (0 : Int32)), .val (.int (4 : Int32)), .val (.int b0), .val (.int (3 : Int32)), .val (.int (b0 &&& (7 : Int32))), .unset, .unset, .unset, .unset, .unset]) rfl rfl ?_
    refine ow_goto C A0 d1_92 (by decide) (pc' := 97) (by decide) ?_
    refine ow_iloadN C A0 d1_97 rfl rfl ?_
    refine ow_sipush C A0 d1_98 (v := 224) rfl rfl ?_
    refine ow_icmp_ne C A0 d1_101 (by decide) (pcY := 110) (by decide) (pcN := 104) rfl (fun _ => ?_) (fun z => absurd z (own_ne32 (by show ¬ (b0.toInt = 224); omega)))
    refine ow_iloadN C A0 d1_110 rfl rfl ?_
    refine ow_sipush C A0 d1_111 (v := 240) rfl rfl ?_
    refine ow_icmp_ne C A0 d1_114 (by decide) (pcY := 123) (by decide) (pcN := 117) rfl (fun hc114 => ?_) (fun hc114 => ?_)
    · skip
      have iv3 : ¬ (b0.toInt = 240) := own_ne32' hc114
      refine ow_sipush C A0 d1_123 (v := 128) rfl rfl ?_
      refine ow_istore C A0 d1_126 (Ls' := #[.val (.ref a), .val (.int (0 : Int32)), .val (.int (4 : Int32)), .val (.int b0), .val (.int (3 : Int32)), .val (.int (b0 &&& (7 : Int32))), .val (.int (128 : Int32)), .unset, .unset, .unset, .unset]) rfl rfl ?_
      refine ow_iloadN C A0 d1_128 rfl rfl ?_
      refine ow_sipush C A0 d1_129 (v := 237) rfl rfl ?_
      refine ow_icmp_ne C A0 d1_132 (by decide) (pcY := 141) (by decide) (pcN := 135) rfl (fun _ => ?_) (fun z => absurd z (own_ne32 (by show ¬ (b0.toInt = 237); omega)))
      refine ow_iloadN C A0 d1_141 rfl rfl ?_
      refine ow_sipush C A0 d1_142 (v := 244) rfl rfl ?_
      refine ow_icmp_ne C A0 d1_145 (by decide) (pcY := 154) (by decide) (pcN := 148) rfl (fun hc145 => ?_) (fun hc145 => ?_)
      · skip
        have iv4 : ¬ (b0.toInt = 244) := own_ne32' hc145
        refine ow_sipush C A0 d1_154 (v := 191) rfl rfl ?_
        refine ow_istore C A0 d1_157 (Ls' := #[.val (.ref a), .val (.int (0 : Int32)), .val (.int (4 : Int32)), .val (.int b0), .val (.int (3 : Int32)), .val (.int (b0 &&& (7 : Int32))), .val (.int (128 : Int32)), .val (.int (191 : Int32)), .unset, .unset, .unset]) rfl rfl ?_
        refine ow_iloadN C A0 d1_159 rfl rfl ?_
        refine ow_aloadN C A0 d1_160 rfl rfl rfl ?_
        refine ow_alen C A0 Va d1_161 rfl ?_
        refine ow_callS C A0 (argsL := [(.int (4 : Int32)), (.int (4 : Int32))]) (rm_min l Z a0 hw (4 : Int32) (4 : Int32) h0 []) tw_8 tw_9 tw_10 tw_11 (by decide) all0 (by decide) (by decide) (ck' := 0) (sk' := 0) rfl rfl (by decide) (by decide) rfl (lenOf pd_0 rfl) (S := []) rfl (W := 0) (Nat.le_of_eq rfl) d1_162 rfl ?_
        intro T5 v5 K5 hQ5 A5
        obtain ⟨rfl, ee5⟩ := hQ5
        rw [ee5] at A5 K5
        show OwnWP _ _ _ _ _ _ _ _ _ T5 (mkF m 165 #[.val (.ref a), .val (.int (0 : Int32)), .val (.int (4 : Int32)), .val (.int b0), .val (.int (3 : Int32)), .val (.int (b0 &&& (7 : Int32))), .val (.int (128 : Int32)), .val (.int (191 : Int32)), .unset, .unset, .unset] [(.int (4 : Int32))])
        refine ow_istore C A5 d1_165 (Ls' := #[.val (.ref a), .val (.int (0 : Int32)), .val (.int (4 : Int32)), .val (.int b0), .val (.int (3 : Int32)), .val (.int (b0 &&& (7 : Int32))), .val (.int (128 : Int32)), .val (.int (191 : Int32)), .val (.int (4 : Int32)), .unset, .unset]) rfl rfl ?_
        refine ow_iconst C A5 d1_167 (v := 1) rfl rfl ?_
        refine ow_istore C A5 d1_168 (Ls' := #[.val (.ref a), .val (.int (0 : Int32)), .val (.int (4 : Int32)), .val (.int b0), .val (.int (3 : Int32)), .val (.int (b0 &&& (7 : Int32))), .val (.int (128 : Int32)), .val (.int (191 : Int32)), .val (.int (4 : Int32)), .val (.int (1 : Int32)), .unset]) rfl rfl ?_
        refine ow_iload C A5 d1_170 rfl rfl ?_
        refine ow_iload C A5 d1_172 rfl rfl ?_
        refine ow_icmp_gt C A5 d1_174 (by decide) (pcY := 247) (by decide) (pcN := 177) rfl (fun z => absurd z (by decide)) (fun _ => ?_)
        refine ow_iloadN C A5 d1_177 rfl rfl ?_
        refine ow_iload C A5 d1_178 rfl rfl ?_
        refine ow_iadd C A5 d1_180 rfl ?_
        show OwnWP _ _ _ _ _ _ _ _ _ T5 (mkF m 181 #[.val (.ref a), .val (.int (0 : Int32)), .val (.int (4 : Int32)), .val (.int b0), .val (.int (3 : Int32)), .val (.int (b0 &&& (7 : Int32))), .val (.int (128 : Int32)), .val (.int (191 : Int32)), .val (.int (4 : Int32)), .val (.int (1 : Int32)), .unset] [(.int (1 : Int32))])
        refine ow_iload C A5 d1_181 rfl rfl ?_
        refine ow_icmp_ge C A5 d1_183 (by decide) (pcY := 199) (by decide) (pcN := 186) rfl (fun z => absurd (by decide) z) (fun _ => ?_)
        refine ow_aloadN C A5 d1_186 rfl rfl rfl ?_
        refine ow_iloadN C A5 d1_187 rfl rfl ?_
        refine ow_iload C A5 d1_188 rfl rfl ?_
        refine ow_iadd C A5 d1_190 rfl ?_
        show OwnWP _ _ _ _ _ _ _ _ _ T5 (mkF m 191 #[.val (.ref a), .val (.int (0 : Int32)), .val (.int (4 : Int32)), .val (.int b0), .val (.int (3 : Int32)), .val (.int (b0 &&& (7 : Int32))), .val (.int (128 : Int32)), .val (.int (191 : Int32)), .val (.int (4 : Int32)), .val (.int (1 : Int32)), .unset] [(.int (1 : Int32)), (.ref a)])
        refine ow_baload C A5 Va ⟨by decide, by decide⟩ (v := (.int x1)) rfl d1_191 rfl ?_
        refine ow_sipush C A5 d1_192 (v := 255) rfl rfl ?_
        refine ow_iand C A5 d1_195 rfl ?_
        rw [e1]
        refine ow_goto C A5 d1_196 (by decide) (pc' := 200) (by decide) ?_
        refine ow_istore C A5 d1_200 (Ls' := #[.val (.ref a), .val (.int (0 : Int32)), .val (.int (4 : Int32)), .val (.int b0), .val (.int (3 : Int32)), .val (.int (b0 &&& (7 : Int32))), .val (.int (128 : Int32)), .val (.int (191 : Int32)), .val (.int (4 : Int32)), .val (.int (1 : Int32)), .val (.int b1)]) rfl rfl ?_
        refine ow_iload C A5 d1_202 rfl rfl ?_
        refine ow_iload C A5 d1_204 rfl rfl ?_
        refine ow_icmp_lt C A5 d1_206 (by decide) (pcY := 216) (by decide) (pcN := 209) rfl (fun z => absurd z (own_nlt32 (by show ¬ (b1.toInt < 128); omega))) (fun _ => ?_)
        refine ow_iload C A5 d1_209 rfl rfl ?_
        refine ow_iload C A5 d1_211 rfl rfl ?_
        refine ow_icmp_le C A5 d1_213 (by decide) (pcY := 218) (by decide) (pcN := 216) rfl (fun _ => ?_) (fun z => absurd z (own_nlt32 (by show ¬ (191 < b1.toInt); omega)))
        refine ow_iload C A5 d1_218 rfl rfl ?_
        refine ow_bipush C A5 d1_220 (v := 6) rfl rfl ?_
        refine ow_ishl C A5 d1_222 rfl ?_
        refine ow_iload C A5 d1_223 rfl rfl ?_
        refine ow_bipush C A5 d1_225 (v := 63) rfl rfl ?_
        refine ow_iand C A5 d1_227 rfl ?_
        refine ow_ior C A5 d1_228 rfl ?_
        refine ow_istore C A5 d1_229 (Ls' := #[.val (.ref a), .val (.int (0 : Int32)), .val (.int (4 : Int32)), .val (.int b0), .val (.int (3 : Int32)), .val (.int (((b0 &&& (7 : Int32)) <<< ((6 : Int32) &&& 31)) ||| (b1 &&& (63 : Int32)))), .val (.int (128 : Int32)), .val (.int (191 : Int32)), .val (.int (4 : Int32)), .val (.int (1 : Int32)), .val (.int b1)]) rfl rfl ?_
        refine ow_sipush C A5 d1_231 (v := 128) rfl rfl ?_
        refine ow_istore C A5 d1_234 (Ls' := #[.val (.ref a), .val (.int (0 : Int32)), .val (.int (4 : Int32)), .val (.int b0), .val (.int (3 : Int32)), .val (.int (((b0 &&& (7 : Int32)) <<< ((6 : Int32) &&& 31)) ||| (b1 &&& (63 : Int32)))), .val (.int (128 : Int32)), .val (.int (191 : Int32)), .val (.int (4 : Int32)), .val (.int (1 : Int32)), .val (.int b1)]) rfl rfl ?_
        refine ow_sipush C A5 d1_236 (v := 191) rfl rfl ?_
        refine ow_istore C A5 d1_239 (Ls' := #[.val (.ref a), .val (.int (0 : Int32)), .val (.int (4 : Int32)), .val (.int b0), .val (.int (3 : Int32)), .val (.int (((b0 &&& (7 : Int32)) <<< ((6 : Int32) &&& 31)) ||| (b1 &&& (63 : Int32)))), .val (.int (128 : Int32)), .val (.int (191 : Int32)), .val (.int (4 : Int32)), .val (.int (1 : Int32)), .val (.int b1)]) rfl rfl ?_
        refine ow_iinc C A5 d1_241 rfl (Ls' := #[.val (.ref a), .val (.int (0 : Int32)), .val (.int (4 : Int32)), .val (.int b0), .val (.int (3 : Int32)), .val (.int (((b0 &&& (7 : Int32)) <<< ((6 : Int32) &&& 31)) ||| (b1 &&& (63 : Int32)))), .val (.int (128 : Int32)), .val (.int (191 : Int32)), .val (.int (4 : Int32)), .val (.int (2 : Int32)), .val (.int b1)]) rfl rfl ?_
        refine ow_goto C A5 d1_244 (by decide) (pc' := 170) (by decide) ?_
        refine ow_iload C A5 d1_170 rfl rfl ?_
        refine ow_iload C A5 d1_172 rfl rfl ?_
        refine ow_icmp_gt C A5 d1_174 (by decide) (pcY := 247) (by decide) (pcN := 177) rfl (fun z => absurd z (by decide)) (fun _ => ?_)
        refine ow_iloadN C A5 d1_177 rfl rfl ?_
        refine ow_iload C A5 d1_178 rfl rfl ?_
        refine ow_iadd C A5 d1_180 rfl ?_
        show OwnWP _ _ _ _ _ _ _ _ _ T5 (mkF m 181 #[.val (.ref a), .val (.int (0 : Int32)), .val (.int (4 : Int32)), .val (.int b0), .val (.int (3 : Int32)), .val (.int (((b0 &&& (7 : Int32)) <<< ((6 : Int32) &&& 31)) ||| (b1 &&& (63 : Int32)))), .val (.int (128 : Int32)), .val (.int (191 : Int32)), .val (.int (4 : Int32)), .val (.int (2 : Int32)), .val (.int b1)] [(.int (2 : Int32))])
        refine ow_iload C A5 d1_181 rfl rfl ?_
        refine ow_icmp_ge C A5 d1_183 (by decide) (pcY := 199) (by decide) (pcN := 186) rfl (fun z => absurd (by decide) z) (fun _ => ?_)
        refine ow_aloadN C A5 d1_186 rfl rfl rfl ?_
        refine ow_iloadN C A5 d1_187 rfl rfl ?_
        refine ow_iload C A5 d1_188 rfl rfl ?_
        refine ow_iadd C A5 d1_190 rfl ?_
        show OwnWP _ _ _ _ _ _ _ _ _ T5 (mkF m 191 #[.val (.ref a), .val (.int (0 : Int32)), .val (.int (4 : Int32)), .val (.int b0), .val (.int (3 : Int32)), .val (.int (((b0 &&& (7 : Int32)) <<< ((6 : Int32) &&& 31)) ||| (b1 &&& (63 : Int32)))), .val (.int (128 : Int32)), .val (.int (191 : Int32)), .val (.int (4 : Int32)), .val (.int (2 : Int32)), .val (.int b1)] [(.int (2 : Int32)), (.ref a)])
        refine ow_baload C A5 Va ⟨by decide, by decide⟩ (v := (.int x2)) rfl d1_191 rfl ?_
        refine ow_sipush C A5 d1_192 (v := 255) rfl rfl ?_
        refine ow_iand C A5 d1_195 rfl ?_
        rw [e2]
        refine ow_goto C A5 d1_196 (by decide) (pc' := 200) (by decide) ?_
        refine ow_istore C A5 d1_200 (Ls' := #[.val (.ref a), .val (.int (0 : Int32)), .val (.int (4 : Int32)), .val (.int b0), .val (.int (3 : Int32)), .val (.int (((b0 &&& (7 : Int32)) <<< ((6 : Int32) &&& 31)) ||| (b1 &&& (63 : Int32)))), .val (.int (128 : Int32)), .val (.int (191 : Int32)), .val (.int (4 : Int32)), .val (.int (2 : Int32)), .val (.int b2)]) rfl rfl ?_
        refine ow_iload C A5 d1_202 rfl rfl ?_
        refine ow_iload C A5 d1_204 rfl rfl ?_
        refine ow_icmp_lt C A5 d1_206 (by decide) (pcY := 216) (by decide) (pcN := 209) rfl (fun z => absurd z (own_nlt32 (by show ¬ (b2.toInt < 128); omega))) (fun _ => ?_)
        refine ow_iload C A5 d1_209 rfl rfl ?_
        refine ow_iload C A5 d1_211 rfl rfl ?_
        refine ow_icmp_le C A5 d1_213 (by decide) (pcY := 218) (by decide) (pcN := 216) rfl (fun _ => ?_) (fun z => absurd z (own_nlt32 (by show ¬ (191 < b2.toInt); omega)))
        refine ow_iload C A5 d1_218 rfl rfl ?_
        refine ow_bipush C A5 d1_220 (v := 6) rfl rfl ?_
        refine ow_ishl C A5 d1_222 rfl ?_
        refine ow_iload C A5 d1_223 rfl rfl ?_
        refine ow_bipush C A5 d1_225 (v := 63) rfl rfl ?_
        refine ow_iand C A5 d1_227 rfl ?_
        refine ow_ior C A5 d1_228 rfl ?_
        refine ow_istore C A5 d1_229 (Ls' := #[.val (.ref a), .val (.int (0 : Int32)), .val (.int (4 : Int32)), .val (.int b0), .val (.int (3 : Int32)), .val (.int (((((b0 &&& (7 : Int32)) <<< ((6 : Int32) &&& 31)) ||| (b1 &&& (63 : Int32))) <<< ((6 : Int32) &&& 31)) ||| (b2 &&& (63 : Int32)))), .val (.int (128 : Int32)), .val (.int (191 : Int32)), .val (.int (4 : Int32)), .val (.int (2 : Int32)), .val (.int b2)]) rfl rfl ?_
        refine ow_sipush C A5 d1_231 (v := 128) rfl rfl ?_
        refine ow_istore C A5 d1_234 (Ls' := #[.val (.ref a), .val (.int (0 : Int32)), .val (.int (4 : Int32)), .val (.int b0), .val (.int (3 : Int32)), .val (.int (((((b0 &&& (7 : Int32)) <<< ((6 : Int32) &&& 31)) ||| (b1 &&& (63 : Int32))) <<< ((6 : Int32) &&& 31)) ||| (b2 &&& (63 : Int32)))), .val (.int (128 : Int32)), .val (.int (191 : Int32)), .val (.int (4 : Int32)), .val (.int (2 : Int32)), .val (.int b2)]) rfl rfl ?_
        refine ow_sipush C A5 d1_236 (v := 191) rfl rfl ?_
        refine ow_istore C A5 d1_239 (Ls' := #[.val (.ref a), .val (.int (0 : Int32)), .val (.int (4 : Int32)), .val (.int b0), .val (.int (3 : Int32)), .val (.int (((((b0 &&& (7 : Int32)) <<< ((6 : Int32) &&& 31)) ||| (b1 &&& (63 : Int32))) <<< ((6 : Int32) &&& 31)) ||| (b2 &&& (63 : Int32)))), .val (.int (128 : Int32)), .val (.int (191 : Int32)), .val (.int (4 : Int32)), .val (.int (2 : Int32)), .val (.int b2)]) rfl rfl ?_
        refine ow_iinc C A5 d1_241 rfl (Ls' := #[.val (.ref a), .val (.int (0 : Int32)), .val (.int (4 : Int32)), .val (.int b0), .val (.int (3 : Int32)), .val (.int (((((b0 &&& (7 : Int32)) <<< ((6 : Int32) &&& 31)) ||| (b1 &&& (63 : Int32))) <<< ((6 : Int32) &&& 31)) ||| (b2 &&& (63 : Int32)))), .val (.int (128 : Int32)), .val (.int (191 : Int32)), .val (.int (4 : Int32)), .val (.int (3 : Int32)), .val (.int b2)]) rfl rfl ?_
        refine ow_goto C A5 d1_244 (by decide) (pc' := 170) (by decide) ?_
        refine ow_iload C A5 d1_170 rfl rfl ?_
        refine ow_iload C A5 d1_172 rfl rfl ?_
        refine ow_icmp_gt C A5 d1_174 (by decide) (pcY := 247) (by decide) (pcN := 177) rfl (fun z => absurd z (by decide)) (fun _ => ?_)
        refine ow_iloadN C A5 d1_177 rfl rfl ?_
        refine ow_iload C A5 d1_178 rfl rfl ?_
        refine ow_iadd C A5 d1_180 rfl ?_
        show OwnWP _ _ _ _ _ _ _ _ _ T5 (mkF m 181 #[.val (.ref a), .val (.int (0 : Int32)), .val (.int (4 : Int32)), .val (.int b0), .val (.int (3 : Int32)), .val (.int (((((b0 &&& (7 : Int32)) <<< ((6 : Int32) &&& 31)) ||| (b1 &&& (63 : Int32))) <<< ((6 : Int32) &&& 31)) ||| (b2 &&& (63 : Int32)))), .val (.int (128 : Int32)), .val (.int (191 : Int32)), .val (.int (4 : Int32)), .val (.int (3 : Int32)), .val (.int b2)] [(.int (3 : Int32))])
        refine ow_iload C A5 d1_181 rfl rfl ?_
        refine ow_icmp_ge C A5 d1_183 (by decide) (pcY := 199) (by decide) (pcN := 186) rfl (fun z => absurd (by decide) z) (fun _ => ?_)
        refine ow_aloadN C A5 d1_186 rfl rfl rfl ?_
        refine ow_iloadN C A5 d1_187 rfl rfl ?_
        refine ow_iload C A5 d1_188 rfl rfl ?_
        refine ow_iadd C A5 d1_190 rfl ?_
        show OwnWP _ _ _ _ _ _ _ _ _ T5 (mkF m 191 #[.val (.ref a), .val (.int (0 : Int32)), .val (.int (4 : Int32)), .val (.int b0), .val (.int (3 : Int32)), .val (.int (((((b0 &&& (7 : Int32)) <<< ((6 : Int32) &&& 31)) ||| (b1 &&& (63 : Int32))) <<< ((6 : Int32) &&& 31)) ||| (b2 &&& (63 : Int32)))), .val (.int (128 : Int32)), .val (.int (191 : Int32)), .val (.int (4 : Int32)), .val (.int (3 : Int32)), .val (.int b2)] [(.int (3 : Int32)), (.ref a)])
        refine ow_baload C A5 Va ⟨by decide, by decide⟩ (v := (.int x3)) rfl d1_191 rfl ?_
        refine ow_sipush C A5 d1_192 (v := 255) rfl rfl ?_
        refine ow_iand C A5 d1_195 rfl ?_
        rw [e3]
        refine ow_goto C A5 d1_196 (by decide) (pc' := 200) (by decide) ?_
        refine ow_istore C A5 d1_200 (Ls' := #[.val (.ref a), .val (.int (0 : Int32)), .val (.int (4 : Int32)), .val (.int b0), .val (.int (3 : Int32)), .val (.int (((((b0 &&& (7 : Int32)) <<< ((6 : Int32) &&& 31)) ||| (b1 &&& (63 : Int32))) <<< ((6 : Int32) &&& 31)) ||| (b2 &&& (63 : Int32)))), .val (.int (128 : Int32)), .val (.int (191 : Int32)), .val (.int (4 : Int32)), .val (.int (3 : Int32)), .val (.int b3)]) rfl rfl ?_
        refine ow_iload C A5 d1_202 rfl rfl ?_
        refine ow_iload C A5 d1_204 rfl rfl ?_
        refine ow_icmp_lt C A5 d1_206 (by decide) (pcY := 216) (by decide) (pcN := 209) rfl (fun z => absurd z (own_nlt32 (by show ¬ (b3.toInt < 128); omega))) (fun _ => ?_)
        refine ow_iload C A5 d1_209 rfl rfl ?_
        refine ow_iload C A5 d1_211 rfl rfl ?_
        refine ow_icmp_le C A5 d1_213 (by decide) (pcY := 218) (by decide) (pcN := 216) rfl (fun _ => ?_) (fun z => absurd z (own_nlt32 (by show ¬ (191 < b3.toInt); omega)))
        refine ow_iload C A5 d1_218 rfl rfl ?_
        refine ow_bipush C A5 d1_220 (v := 6) rfl rfl ?_
        refine ow_ishl C A5 d1_222 rfl ?_
        refine ow_iload C A5 d1_223 rfl rfl ?_
        refine ow_bipush C A5 d1_225 (v := 63) rfl rfl ?_
        refine ow_iand C A5 d1_227 rfl ?_
        refine ow_ior C A5 d1_228 rfl ?_
        refine ow_istore C A5 d1_229 (Ls' := #[.val (.ref a), .val (.int (0 : Int32)), .val (.int (4 : Int32)), .val (.int b0), .val (.int (3 : Int32)), .val (.int (((((((b0 &&& (7 : Int32)) <<< ((6 : Int32) &&& 31)) ||| (b1 &&& (63 : Int32))) <<< ((6 : Int32) &&& 31)) ||| (b2 &&& (63 : Int32))) <<< ((6 : Int32) &&& 31)) ||| (b3 &&& (63 : Int32)))), .val (.int (128 : Int32)), .val (.int (191 : Int32)), .val (.int (4 : Int32)), .val (.int (3 : Int32)), .val (.int b3)]) rfl rfl ?_
        refine ow_sipush C A5 d1_231 (v := 128) rfl rfl ?_
        refine ow_istore C A5 d1_234 (Ls' := #[.val (.ref a), .val (.int (0 : Int32)), .val (.int (4 : Int32)), .val (.int b0), .val (.int (3 : Int32)), .val (.int (((((((b0 &&& (7 : Int32)) <<< ((6 : Int32) &&& 31)) ||| (b1 &&& (63 : Int32))) <<< ((6 : Int32) &&& 31)) ||| (b2 &&& (63 : Int32))) <<< ((6 : Int32) &&& 31)) ||| (b3 &&& (63 : Int32)))), .val (.int (128 : Int32)), .val (.int (191 : Int32)), .val (.int (4 : Int32)), .val (.int (3 : Int32)), .val (.int b3)]) rfl rfl ?_
        refine ow_sipush C A5 d1_236 (v := 191) rfl rfl ?_
        refine ow_istore C A5 d1_239 (Ls' := #[.val (.ref a), .val (.int (0 : Int32)), .val (.int (4 : Int32)), .val (.int b0), .val (.int (3 : Int32)), .val (.int (((((((b0 &&& (7 : Int32)) <<< ((6 : Int32) &&& 31)) ||| (b1 &&& (63 : Int32))) <<< ((6 : Int32) &&& 31)) ||| (b2 &&& (63 : Int32))) <<< ((6 : Int32) &&& 31)) ||| (b3 &&& (63 : Int32)))), .val (.int (128 : Int32)), .val (.int (191 : Int32)), .val (.int (4 : Int32)), .val (.int (3 : Int32)), .val (.int b3)]) rfl rfl ?_
        refine ow_iinc C A5 d1_241 rfl (Ls' := #[.val (.ref a), .val (.int (0 : Int32)), .val (.int (4 : Int32)), .val (.int b0), .val (.int (3 : Int32)), .val (.int (((((((b0 &&& (7 : Int32)) <<< ((6 : Int32) &&& 31)) ||| (b1 &&& (63 : Int32))) <<< ((6 : Int32) &&& 31)) ||| (b2 &&& (63 : Int32))) <<< ((6 : Int32) &&& 31)) ||| (b3 &&& (63 : Int32)))), .val (.int (128 : Int32)), .val (.int (191 : Int32)), .val (.int (4 : Int32)), .val (.int (4 : Int32)), .val (.int b3)]) rfl rfl ?_
        refine ow_goto C A5 d1_244 (by decide) (pc' := 170) (by decide) ?_
        refine ow_iload C A5 d1_170 rfl rfl ?_
        refine ow_iload C A5 d1_172 rfl rfl ?_
        refine ow_icmp_gt C A5 d1_174 (by decide) (pcY := 247) (by decide) (pcN := 177) rfl (fun _ => ?_) (fun z => absurd (by decide) z)
        refine ow_iload C A5 d1_247 rfl rfl ?_
        refine ow_ireturn C A5 (t := .int) rfl rfl (by simp) d1_249 (by decide) (by decide) ?_
        have z0 := own_m7 b0
        have z1 := own_push (b0 &&& (7 : Int32)) b1 (by omega) (by omega)
        have z2 := own_push (((b0 &&& (7 : Int32)) <<< ((6 : Int32) &&& 31)) ||| (b1 &&& (63 : Int32))) b2 (by omega) (by omega)
        have z3 := own_push (((((b0 &&& (7 : Int32)) <<< ((6 : Int32) &&& 31)) ||| (b1 &&& (63 : Int32))) <<< ((6 : Int32) &&& 31)) ||| (b2 &&& (63 : Int32))) b3 (by omega) (by omega)
        exact ⟨rfl, Or.inr ⟨_, rfl, by omega, by omega⟩⟩
      · skip
        have iv6 : b0.toInt = 244 := own_eq32' hc145
        refine ow_sipush C A0 d1_148 (v := 143) rfl rfl ?_
        refine ow_goto C A0 d1_151 (by decide) (pc' := 157) (by decide) ?_
        refine ow_istore C A0 d1_157 (Ls' := #[.val (.ref a), .val (.int (0 : Int32)), .val (.int (4 : Int32)), .val (.int b0), .val (.int (3 : Int32)), .val (.int (b0 &&& (7 : Int32))), .val (.int (128 : Int32)), .val (.int (143 : Int32)), .unset, .unset, .unset]) rfl rfl ?_
        refine ow_iloadN C A0 d1_159 rfl rfl ?_
        refine ow_aloadN C A0 d1_160 rfl rfl rfl ?_
        refine ow_alen C A0 Va d1_161 rfl ?_
        refine ow_callS C A0 (argsL := [(.int (4 : Int32)), (.int (4 : Int32))]) (rm_min l Z a0 hw (4 : Int32) (4 : Int32) h0 []) tw_8 tw_9 tw_10 tw_11 (by decide) all0 (by decide) (by decide) (ck' := 0) (sk' := 0) rfl rfl (by decide) (by decide) rfl (lenOf pd_0 rfl) (S := []) rfl (W := 0) (Nat.le_of_eq rfl) d1_162 rfl ?_
        intro T7 v7 K7 hQ7 A7
        obtain ⟨rfl, ee7⟩ := hQ7
        rw [ee7] at A7 K7
        show OwnWP _ _ _ _ _ _ _ _ _ T7 (mkF m 165 #[.val (.ref a), .val (.int (0 : Int32)), .val (.int (4 : Int32)), .val (.int b0), .val (.int (3 : Int32)), .val (.int (b0 &&& (7 : Int32))), .val (.int (128 : Int32)), .val (.int (143 : Int32)), .unset, .unset, .unset] [(.int (4 : Int32))])
        refine ow_istore C A7 d1_165 (Ls' := #[.val (.ref a), .val (.int (0 : Int32)), .val (.int (4 : Int32)), .val (.int b0), .val (.int (3 : Int32)), .val (.int (b0 &&& (7 : Int32))), .val (.int (128 : Int32)), .val (.int (143 : Int32)), .val (.int (4 : Int32)), .unset, .unset]) rfl rfl ?_
        refine ow_iconst C A7 d1_167 (v := 1) rfl rfl ?_
        refine ow_istore C A7 d1_168 (Ls' := #[.val (.ref a), .val (.int (0 : Int32)), .val (.int (4 : Int32)), .val (.int b0), .val (.int (3 : Int32)), .val (.int (b0 &&& (7 : Int32))), .val (.int (128 : Int32)), .val (.int (143 : Int32)), .val (.int (4 : Int32)), .val (.int (1 : Int32)), .unset]) rfl rfl ?_
        refine ow_iload C A7 d1_170 rfl rfl ?_
        refine ow_iload C A7 d1_172 rfl rfl ?_
        refine ow_icmp_gt C A7 d1_174 (by decide) (pcY := 247) (by decide) (pcN := 177) rfl (fun z => absurd z (by decide)) (fun _ => ?_)
        refine ow_iloadN C A7 d1_177 rfl rfl ?_
        refine ow_iload C A7 d1_178 rfl rfl ?_
        refine ow_iadd C A7 d1_180 rfl ?_
        show OwnWP _ _ _ _ _ _ _ _ _ T7 (mkF m 181 #[.val (.ref a), .val (.int (0 : Int32)), .val (.int (4 : Int32)), .val (.int b0), .val (.int (3 : Int32)), .val (.int (b0 &&& (7 : Int32))), .val (.int (128 : Int32)), .val (.int (143 : Int32)), .val (.int (4 : Int32)), .val (.int (1 : Int32)), .unset] [(.int (1 : Int32))])
        refine ow_iload C A7 d1_181 rfl rfl ?_
        refine ow_icmp_ge C A7 d1_183 (by decide) (pcY := 199) (by decide) (pcN := 186) rfl (fun z => absurd (by decide) z) (fun _ => ?_)
        refine ow_aloadN C A7 d1_186 rfl rfl rfl ?_
        refine ow_iloadN C A7 d1_187 rfl rfl ?_
        refine ow_iload C A7 d1_188 rfl rfl ?_
        refine ow_iadd C A7 d1_190 rfl ?_
        show OwnWP _ _ _ _ _ _ _ _ _ T7 (mkF m 191 #[.val (.ref a), .val (.int (0 : Int32)), .val (.int (4 : Int32)), .val (.int b0), .val (.int (3 : Int32)), .val (.int (b0 &&& (7 : Int32))), .val (.int (128 : Int32)), .val (.int (143 : Int32)), .val (.int (4 : Int32)), .val (.int (1 : Int32)), .unset] [(.int (1 : Int32)), (.ref a)])
        refine ow_baload C A7 Va ⟨by decide, by decide⟩ (v := (.int x1)) rfl d1_191 rfl ?_
        refine ow_sipush C A7 d1_192 (v := 255) rfl rfl ?_
        refine ow_iand C A7 d1_195 rfl ?_
        rw [e1]
        refine ow_goto C A7 d1_196 (by decide) (pc' := 200) (by decide) ?_
        refine ow_istore C A7 d1_200 (Ls' := #[.val (.ref a), .val (.int (0 : Int32)), .val (.int (4 : Int32)), .val (.int b0), .val (.int (3 : Int32)), .val (.int (b0 &&& (7 : Int32))), .val (.int (128 : Int32)), .val (.int (143 : Int32)), .val (.int (4 : Int32)), .val (.int (1 : Int32)), .val (.int b1)]) rfl rfl ?_
        refine ow_iload C A7 d1_202 rfl rfl ?_
        refine ow_iload C A7 d1_204 rfl rfl ?_
        refine ow_icmp_lt C A7 d1_206 (by decide) (pcY := 216) (by decide) (pcN := 209) rfl (fun z => absurd z (own_nlt32 (by show ¬ (b1.toInt < 128); omega))) (fun _ => ?_)
        refine ow_iload C A7 d1_209 rfl rfl ?_
        refine ow_iload C A7 d1_211 rfl rfl ?_
        refine ow_icmp_le C A7 d1_213 (by decide) (pcY := 218) (by decide) (pcN := 216) rfl (fun hc213 => ?_) (fun hc213 => ?_)
        · skip
          have iv8 : ¬ (143 < b1.toInt) := own_nlt32' hc213
          refine ow_iload C A7 d1_218 rfl rfl ?_
          refine ow_bipush C A7 d1_220 (v := 6) rfl rfl ?_
          refine ow_ishl C A7 d1_222 rfl ?_
          refine ow_iload C A7 d1_223 rfl rfl ?_
          refine ow_bipush C A7 d1_225 (v := 63) rfl rfl ?_
          refine ow_iand C A7 d1_227 rfl ?_
          refine ow_ior C A7 d1_228 rfl ?_
          refine ow_istore C A7 d1_229 (Ls' := #[.val (.ref a), .val (.int (0 : Int32)), .val (.int (4 : Int32)), .val (.int b0), .val (.int (3 : Int32)), .val (.int (((b0 &&& (7 : Int32)) <<< ((6 : Int32) &&& 31)) ||| (b1 &&& (63 : Int32)))), .val (.int (128 : Int32)), .val (.int (143 : Int32)), .val (.int (4 : Int32)), .val (.int (1 : Int32)), .val (.int b1)]) rfl rfl ?_
          refine ow_sipush C A7 d1_231 (v := 128) rfl rfl ?_
          refine ow_istore C A7 d1_234 (Ls' := #[.val (.ref a), .val (.int (0 : Int32)), .val (.int (4 : Int32)), .val (.int b0), .val (.int (3 : Int32)), .val (.int (((b0 &&& (7 : Int32)) <<< ((6 : Int32) &&& 31)) ||| (b1 &&& (63 : Int32)))), .val (.int (128 : Int32)), .val (.int (143 : Int32)), .val (.int (4 : Int32)), .val (.int (1 : Int32)), .val (.int b1)]) rfl rfl ?_
          refine ow_sipush C A7 d1_236 (v := 191) rfl rfl ?_
          refine ow_istore C A7 d1_239 (Ls' := #[.val (.ref a), .val (.int (0 : Int32)), .val (.int (4 : Int32)), .val (.int b0), .val (.int (3 : Int32)), .val (.int (((b0 &&& (7 : Int32)) <<< ((6 : Int32) &&& 31)) ||| (b1 &&& (63 : Int32)))), .val (.int (128 : Int32)), .val (.int (191 : Int32)), .val (.int (4 : Int32)), .val (.int (1 : Int32)), .val (.int b1)]) rfl rfl ?_
          refine ow_iinc C A7 d1_241 rfl (Ls' := #[.val (.ref a), .val (.int (0 : Int32)), .val (.int (4 : Int32)), .val (.int b0), .val (.int (3 : Int32)), .val (.int (((b0 &&& (7 : Int32)) <<< ((6 : Int32) &&& 31)) ||| (b1 &&& (63 : Int32)))), .val (.int (128 : Int32)), .val (.int (191 : Int32)), .val (.int (4 : Int32)), .val (.int (2 : Int32)), .val (.int b1)]) rfl rfl ?_
          refine ow_goto C A7 d1_244 (by decide) (pc' := 170) (by decide) ?_
          refine ow_iload C A7 d1_170 rfl rfl ?_
          refine ow_iload C A7 d1_172 rfl rfl ?_
          refine ow_icmp_gt C A7 d1_174 (by decide) (pcY := 247) (by decide) (pcN := 177) rfl (fun z => absurd z (by decide)) (fun _ => ?_)
          refine ow_iloadN C A7 d1_177 rfl rfl ?_
          refine ow_iload C A7 d1_178 rfl rfl ?_
          refine ow_iadd C A7 d1_180 rfl ?_
          show OwnWP _ _ _ _ _ _ _ _ _ T7 (mkF m 181 #[.val (.ref a), .val (.int (0 : Int32)), .val (.int (4 : Int32)), .val (.int b0), .val (.int (3 : Int32)), .val (.int (((b0 &&& (7 : Int32)) <<< ((6 : Int32) &&& 31)) ||| (b1 &&& (63 : Int32)))), .val (.int (128 : Int32)), .val (.int (191 : Int32)), .val (.int (4 : Int32)), .val (.int (2 : Int32)), .val (.int b1)] [(.int (2 : Int32))])
          refine ow_iload C A7 d1_181 rfl rfl ?_
          refine ow_icmp_ge C A7 d1_183 (by decide) (pcY := 199) (by decide) (pcN := 186) rfl (fun z => absurd (by decide) z) (fun _ => ?_)
          refine ow_aloadN C A7 d1_186 rfl rfl rfl ?_
          refine ow_iloadN C A7 d1_187 rfl rfl ?_
          refine ow_iload C A7 d1_188 rfl rfl ?_
          refine ow_iadd C A7 d1_190 rfl ?_
          show OwnWP _ _ _ _ _ _ _ _ _ T7 (mkF m 191 #[.val (.ref a), .val (.int (0 : Int32)), .val (.int (4 : Int32)), .val (.int b0), .val (.int (3 : Int32)), .val (.int (((b0 &&& (7 : Int32)) <<< ((6 : Int32) &&& 31)) ||| (b1 &&& (63 : Int32)))), .val (.int (128 : Int32)), .val (.int (191 : Int32)), .val (.int (4 : Int32)), .val (.int (2 : Int32)), .val (.int b1)] [(.int (2 : Int32)), (.ref a)])
          refine ow_baload C A7 Va ⟨by decide, by decide⟩ (v := (.int x2)) rfl d1_191 rfl ?_
          refine ow_sipush C A7 d1_192 (v := 255) rfl rfl ?_
          refine ow_iand C A7 d1_195 rfl ?_
          rw [e2]
          refine ow_goto C A7 d1_196 (by decide) (pc' := 200) (by decide) ?_
          refine ow_istore C A7 d1_200 (Ls' := #[.val (.ref a), .val (.int (0 : Int32)), .val (.int (4 : Int32)), .val (.int b0), .val (.int (3 : Int32)), .val (.int (((b0 &&& (7 : Int32)) <<< ((6 : Int32) &&& 31)) ||| (b1 &&& (63 : Int32)))), .val (.int (128 : Int32)), .val (.int (191 : Int32)), .val (.int (4 : Int32)), .val (.int (2 : Int32)), .val (.int b2)]) rfl rfl ?_
          refine ow_iload C A7 d1_202 rfl rfl ?_
          refine ow_iload C A7 d1_204 rfl rfl ?_
          refine ow_icmp_lt C A7 d1_206 (by decide) (pcY := 216) (by decide) (pcN := 209) rfl (fun z => absurd z (own_nlt32 (by show ¬ (b2.toInt < 128); omega))) (fun _ => ?_)
          refine ow_iload C A7 d1_209 rfl rfl ?_
          refine ow_iload C A7 d1_211 rfl rfl ?_
          refine ow_icmp_le C A7 d1_213 (by decide) (pcY := 218) (by decide) (pcN := 216) rfl (fun _ => ?_) (fun z => absurd z (own_nlt32 (by show ¬ (191 < b2.toInt); omega)))
          refine ow_iload C A7 d1_218 rfl rfl ?_
          refine ow_bipush C A7 d1_220 (v := 6) rfl rfl ?_
          refine ow_ishl C A7 d1_222 rfl ?_
          refine ow_iload C A7 d1_223 rfl rfl ?_
          refine ow_bipush C A7 d1_225 (v := 63) rfl rfl ?_
          refine ow_iand C A7 d1_227 rfl ?_
          refine ow_ior C A7 d1_228 rfl ?_
          refine ow_istore C A7 d1_229 (Ls' := #[.val (.ref a), .val (.int (0 : Int32)), .val (.int (4 : Int32)), .val (.int b0), .val (.int (3 : Int32)), .val (.int (((((b0 &&& (7 : Int32)) <<< ((6 : Int32) &&& 31)) ||| (b1 &&& (63 : Int32))) <<< ((6 : Int32) &&& 31)) ||| (b2 &&& (63 : Int32)))), .val (.int (128 : Int32)), .val (.int (191 : Int32)), .val (.int (4 : Int32)), .val (.int (2 : Int32)), .val (.int b2)]) rfl rfl ?_
          refine ow_sipush C A7 d1_231 (v := 128) rfl rfl ?_
          refine ow_istore C A7 d1_234 (Ls' := #[.val (.ref a), .val (.int (0 : Int32)), .val (.int (4 : Int32)), .val (.int b0), .val (.int (3 : Int32)), .val (.int (((((b0 &&& (7 : Int32)) <<< ((6 : Int32) &&& 31)) ||| (b1 &&& (63 : Int32))) <<< ((6 : Int32) &&& 31)) ||| (b2 &&& (63 : Int32)))), .val (.int (128 : Int32)), .val (.int (191 : Int32)), .val (.int (4 : Int32)), .val (.int (2 : Int32)), .val (.int b2)]) rfl rfl ?_
          refine ow_sipush C A7 d1_236 (v := 191) rfl rfl ?_
          refine ow_istore C A7 d1_239 (Ls' := #[.val (.ref a), .val (.int (0 : Int32)), .val (.int (4 : Int32)), .val (.int b0), .val (.int (3 : Int32)), .val (.int (((((b0 &&& (7 : Int32)) <<< ((6 : Int32) &&& 31)) ||| (b1 &&& (63 : Int32))) <<< ((6 : Int32) &&& 31)) ||| (b2 &&& (63 : Int32)))), .val (.int (128 : Int32)), .val (.int (191 : Int32)), .val (.int (4 : Int32)), .val (.int (2 : Int32)), .val (.int b2)]) rfl rfl ?_
          refine ow_iinc C A7 d1_241 rfl (Ls' := #[.val (.ref a), .val (.int (0 : Int32)), .val (.int (4 : Int32)), .val (.int b0), .val (.int (3 : Int32)), .val (.int (((((b0 &&& (7 : Int32)) <<< ((6 : Int32) &&& 31)) ||| (b1 &&& (63 : Int32))) <<< ((6 : Int32) &&& 31)) ||| (b2 &&& (63 : Int32)))), .val (.int (128 : Int32)), .val (.int (191 : Int32)), .val (.int (4 : Int32)), .val (.int (3 : Int32)), .val (.int b2)]) rfl rfl ?_
          refine ow_goto C A7 d1_244 (by decide) (pc' := 170) (by decide) ?_
          refine ow_iload C A7 d1_170 rfl rfl ?_
          refine ow_iload C A7 d1_172 rfl rfl ?_
          refine ow_icmp_gt C A7 d1_174 (by decide) (pcY := 247) (by decide) (pcN := 177) rfl (fun z => absurd z (by decide)) (fun _ => ?_)
          refine ow_iloadN C A7 d1_177 rfl rfl ?_
          refine ow_iload C A7 d1_178 rfl rfl ?_
          refine ow_iadd C A7 d1_180 rfl ?_
          show OwnWP _ _ _ _ _ _ _ _ _ T7 (mkF m 181 #[.val (.ref a), .val (.int (0 : Int32)), .val (.int (4 : Int32)), .val (.int b0), .val (.int (3 : Int32)), .val (.int (((((b0 &&& (7 : Int32)) <<< ((6 : Int32) &&& 31)) ||| (b1 &&& (63 : Int32))) <<< ((6 : Int32) &&& 31)) ||| (b2 &&& (63 : Int32)))), .val (.int (128 : Int32)), .val (.int (191 : Int32)), .val (.int (4 : Int32)), .val (.int (3 : Int32)), .val (.int b2)] [(.int (3 : Int32))])
          refine ow_iload C A7 d1_181 rfl rfl ?_
          refine ow_icmp_ge C A7 d1_183 (by decide) (pcY := 199) (by decide) (pcN := 186) rfl (fun z => absurd (by decide) z) (fun _ => ?_)
          refine ow_aloadN C A7 d1_186 rfl rfl rfl ?_
          refine ow_iloadN C A7 d1_187 rfl rfl ?_
          refine ow_iload C A7 d1_188 rfl rfl ?_
          refine ow_iadd C A7 d1_190 rfl ?_
          show OwnWP _ _ _ _ _ _ _ _ _ T7 (mkF m 191 #[.val (.ref a), .val (.int (0 : Int32)), .val (.int (4 : Int32)), .val (.int b0), .val (.int (3 : Int32)), .val (.int (((((b0 &&& (7 : Int32)) <<< ((6 : Int32) &&& 31)) ||| (b1 &&& (63 : Int32))) <<< ((6 : Int32) &&& 31)) ||| (b2 &&& (63 : Int32)))), .val (.int (128 : Int32)), .val (.int (191 : Int32)), .val (.int (4 : Int32)), .val (.int (3 : Int32)), .val (.int b2)] [(.int (3 : Int32)), (.ref a)])
          refine ow_baload C A7 Va ⟨by decide, by decide⟩ (v := (.int x3)) rfl d1_191 rfl ?_
          refine ow_sipush C A7 d1_192 (v := 255) rfl rfl ?_
          refine ow_iand C A7 d1_195 rfl ?_
          rw [e3]
          refine ow_goto C A7 d1_196 (by decide) (pc' := 200) (by decide) ?_
          refine ow_istore C A7 d1_200 (Ls' := #[.val (.ref a), .val (.int (0 : Int32)), .val (.int (4 : Int32)), .val (.int b0), .val (.int (3 : Int32)), .val (.int (((((b0 &&& (7 : Int32)) <<< ((6 : Int32) &&& 31)) ||| (b1 &&& (63 : Int32))) <<< ((6 : Int32) &&& 31)) ||| (b2 &&& (63 : Int32)))), .val (.int (128 : Int32)), .val (.int (191 : Int32)), .val (.int (4 : Int32)), .val (.int (3 : Int32)), .val (.int b3)]) rfl rfl ?_
          refine ow_iload C A7 d1_202 rfl rfl ?_
          refine ow_iload C A7 d1_204 rfl rfl ?_
          refine ow_icmp_lt C A7 d1_206 (by decide) (pcY := 216) (by decide) (pcN := 209) rfl (fun z => absurd z (own_nlt32 (by show ¬ (b3.toInt < 128); omega))) (fun _ => ?_)
          refine ow_iload C A7 d1_209 rfl rfl ?_
          refine ow_iload C A7 d1_211 rfl rfl ?_
          refine ow_icmp_le C A7 d1_213 (by decide) (pcY := 218) (by decide) (pcN := 216) rfl (fun _ => ?_) (fun z => absurd z (own_nlt32 (by show ¬ (191 < b3.toInt); omega)))
          refine ow_iload C A7 d1_218 rfl rfl ?_
          refine ow_bipush C A7 d1_220 (v := 6) rfl rfl ?_
          refine ow_ishl C A7 d1_222 rfl ?_
          refine ow_iload C A7 d1_223 rfl rfl ?_
          refine ow_bipush C A7 d1_225 (v := 63) rfl rfl ?_
          refine ow_iand C A7 d1_227 rfl ?_
          refine ow_ior C A7 d1_228 rfl ?_
          refine ow_istore C A7 d1_229 (Ls' := #[.val (.ref a), .val (.int (0 : Int32)), .val (.int (4 : Int32)), .val (.int b0), .val (.int (3 : Int32)), .val (.int (((((((b0 &&& (7 : Int32)) <<< ((6 : Int32) &&& 31)) ||| (b1 &&& (63 : Int32))) <<< ((6 : Int32) &&& 31)) ||| (b2 &&& (63 : Int32))) <<< ((6 : Int32) &&& 31)) ||| (b3 &&& (63 : Int32)))), .val (.int (128 : Int32)), .val (.int (191 : Int32)), .val (.int (4 : Int32)), .val (.int (3 : Int32)), .val (.int b3)]) rfl rfl ?_
          refine ow_sipush C A7 d1_231 (v := 128) rfl rfl ?_
          refine ow_istore C A7 d1_234 (Ls' := #[.val (.ref a), .val (.int (0 : Int32)), .val (.int (4 : Int32)), .val (.int b0), .val (.int (3 : Int32)), .val (.int (((((((b0 &&& (7 : Int32)) <<< ((6 : Int32) &&& 31)) ||| (b1 &&& (63 : Int32))) <<< ((6 : Int32) &&& 31)) ||| (b2 &&& (63 : Int32))) <<< ((6 : Int32) &&& 31)) ||| (b3 &&& (63 : Int32)))), .val (.int (128 : Int32)), .val (.int (191 : Int32)), .val (.int (4 : Int32)), .val (.int (3 : Int32)), .val (.int b3)]) rfl rfl ?_
          refine ow_sipush C A7 d1_236 (v := 191) rfl rfl ?_
          refine ow_istore C A7 d1_239 (Ls' := #[.val (.ref a), .val (.int (0 : Int32)), .val (.int (4 : Int32)), .val (.int b0), .val (.int (3 : Int32)), .val (.int (((((((b0 &&& (7 : Int32)) <<< ((6 : Int32) &&& 31)) ||| (b1 &&& (63 : Int32))) <<< ((6 : Int32) &&& 31)) ||| (b2 &&& (63 : Int32))) <<< ((6 : Int32) &&& 31)) ||| (b3 &&& (63 : Int32)))), .val (.int (128 : Int32)), .val (.int (191 : Int32)), .val (.int (4 : Int32)), .val (.int (3 : Int32)), .val (.int b3)]) rfl rfl ?_
          refine ow_iinc C A7 d1_241 rfl (Ls' := #[.val (.ref a), .val (.int (0 : Int32)), .val (.int (4 : Int32)), .val (.int b0), .val (.int (3 : Int32)), .val (.int (((((((b0 &&& (7 : Int32)) <<< ((6 : Int32) &&& 31)) ||| (b1 &&& (63 : Int32))) <<< ((6 : Int32) &&& 31)) ||| (b2 &&& (63 : Int32))) <<< ((6 : Int32) &&& 31)) ||| (b3 &&& (63 : Int32)))), .val (.int (128 : Int32)), .val (.int (191 : Int32)), .val (.int (4 : Int32)), .val (.int (4 : Int32)), .val (.int b3)]) rfl rfl ?_
          refine ow_goto C A7 d1_244 (by decide) (pc' := 170) (by decide) ?_
          refine ow_iload C A7 d1_170 rfl rfl ?_
          refine ow_iload C A7 d1_172 rfl rfl ?_
          refine ow_icmp_gt C A7 d1_174 (by decide) (pcY := 247) (by decide) (pcN := 177) rfl (fun _ => ?_) (fun z => absurd (by decide) z)
          refine ow_iload C A7 d1_247 rfl rfl ?_
          refine ow_ireturn C A7 (t := .int) rfl rfl (by simp) d1_249 (by decide) (by decide) ?_
          have z0 := own_m7 b0
          have z1 := own_push (b0 &&& (7 : Int32)) b1 (by omega) (by omega)
          have z2 := own_push (((b0 &&& (7 : Int32)) <<< ((6 : Int32) &&& 31)) ||| (b1 &&& (63 : Int32))) b2 (by omega) (by omega)
          have z3 := own_push (((((b0 &&& (7 : Int32)) <<< ((6 : Int32) &&& 31)) ||| (b1 &&& (63 : Int32))) <<< ((6 : Int32) &&& 31)) ||| (b2 &&& (63 : Int32))) b3 (by omega) (by omega)
          exact ⟨rfl, Or.inr ⟨_, rfl, by omega, by omega⟩⟩
        · skip
          have iv9 : 143 < b1.toInt := own_lt32' hc213
          refine ow_iconst C A7 d1_216 (v := (-1)) rfl rfl ?_
          refine ow_ireturn C A7 (t := .int) rfl rfl (by simp) d1_217 (by decide) (by decide) ?_
          exact ⟨rfl, Or.inl rfl⟩
    · skip
      have iv10 : b0.toInt = 240 := own_eq32' hc114
      refine ow_sipush C A0 d1_117 (v := 144) rfl rfl ?_
      refine ow_goto C A0 d1_120 (by decide) (pc' := 126) (by decide) ?_
      refine ow_istore C A0 d1_126 (Ls' := #[.val (.ref a), .val (.int (0 : Int32)), .val (.int (4 : Int32)), .val (.int b0), .val (.int (3 : Int32)), .val (.int (b0 &&& (7 : Int32))), .val (.int (144 : Int32)), .unset, .unset, .unset, .unset]) rfl rfl ?_
      refine ow_iloadN C A0 d1_128 rfl rfl ?_
      refine ow_sipush C A0 d1_129 (v := 237) rfl rfl ?_
      refine ow_icmp_ne C A0 d1_132 (by decide) (pcY := 141) (by decide) (pcN := 135) rfl (fun _ => ?_) (fun z => absurd z (own_ne32 (by show ¬ (b0.toInt = 237); omega)))
      refine ow_iloadN C A0 d1_141 rfl rfl ?_
      refine ow_sipush C A0 d1_142 (v := 244) rfl rfl ?_
      refine ow_icmp_ne C A0 d1_145 (by decide) (pcY := 154) (by decide) (pcN := 148) rfl (fun _ => ?_) (fun z => absurd z (own_ne32 (by show ¬ (b0.toInt = 244); omega)))
      refine ow_sipush C A0 d1_154 (v := 191) rfl rfl ?_
      refine ow_istore C A0 d1_157 (Ls' := #[.val (.ref a), .val (.int (0 : Int32)), .val (.int (4 : Int32)), .val (.int b0), .val (.int (3 : Int32)), .val (.int (b0 &&& (7 : Int32))), .val (.int (144 : Int32)), .val (.int (191 : Int32)), .unset, .unset, .unset]) rfl rfl ?_
      refine ow_iloadN C A0 d1_159 rfl rfl ?_
      refine ow_aloadN C A0 d1_160 rfl rfl rfl ?_
      refine ow_alen C A0 Va d1_161 rfl ?_
      refine ow_callS C A0 (argsL := [(.int (4 : Int32)), (.int (4 : Int32))]) (rm_min l Z a0 hw (4 : Int32) (4 : Int32) h0 []) tw_8 tw_9 tw_10 tw_11 (by decide) all0 (by decide) (by decide) (ck' := 0) (sk' := 0) rfl rfl (by decide) (by decide) rfl (lenOf pd_0 rfl) (S := []) rfl (W := 0) (Nat.le_of_eq rfl) d1_162 rfl ?_
      intro T11 v11 K11 hQ11 A11
      obtain ⟨rfl, ee11⟩ := hQ11
      rw [ee11] at A11 K11
      show OwnWP _ _ _ _ _ _ _ _ _ T11 (mkF m 165 #[.val (.ref a), .val (.int (0 : Int32)), .val (.int (4 : Int32)), .val (.int b0), .val (.int (3 : Int32)), .val (.int (b0 &&& (7 : Int32))), .val (.int (144 : Int32)), .val (.int (191 : Int32)), .unset, .unset, .unset] [(.int (4 : Int32))])
      refine ow_istore C A11 d1_165 (Ls' := #[.val (.ref a), .val (.int (0 : Int32)), .val (.int (4 : Int32)), .val (.int b0), .val (.int (3 : Int32)), .val (.int (b0 &&& (7 : Int32))), .val (.int (144 : Int32)), .val (.int (191 : Int32)), .val (.int (4 : Int32)), .unset, .unset]) rfl rfl ?_
      refine ow_iconst C A11 d1_167 (v := 1) rfl rfl ?_
      refine ow_istore C A11 d1_168 (Ls' := #[.val (.ref a), .val (.int (0 : Int32)), .val (.int (4 : Int32)), .val (.int b0), .val (.int (3 : Int32)), .val (.int (b0 &&& (7 : Int32))), .val (.int (144 : Int32)), .val (.int (191 : Int32)), .val (.int (4 : Int32)), .val (.int (1 : Int32)), .unset]) rfl rfl ?_
      refine ow_iload C A11 d1_170 rfl rfl ?_
      refine ow_iload C A11 d1_172 rfl rfl ?_
      refine ow_icmp_gt C A11 d1_174 (by decide) (pcY := 247) (by decide) (pcN := 177) rfl (fun z => absurd z (by decide)) (fun _ => ?_)
      refine ow_iloadN C A11 d1_177 rfl rfl ?_
      refine ow_iload C A11 d1_178 rfl rfl ?_
      refine ow_iadd C A11 d1_180 rfl ?_
      show OwnWP _ _ _ _ _ _ _ _ _ T11 (mkF m 181 #[.val (.ref a), .val (.int (0 : Int32)), .val (.int (4 : Int32)), .val (.int b0), .val (.int (3 : Int32)), .val (.int (b0 &&& (7 : Int32))), .val (.int (144 : Int32)), .val (.int (191 : Int32)), .val (.int (4 : Int32)), .val (.int (1 : Int32)), .unset] [(.int (1 : Int32))])
      refine ow_iload C A11 d1_181 rfl rfl ?_
      refine ow_icmp_ge C A11 d1_183 (by decide) (pcY := 199) (by decide) (pcN := 186) rfl (fun z => absurd (by decide) z) (fun _ => ?_)
      refine ow_aloadN C A11 d1_186 rfl rfl rfl ?_
      refine ow_iloadN C A11 d1_187 rfl rfl ?_
      refine ow_iload C A11 d1_188 rfl rfl ?_
      refine ow_iadd C A11 d1_190 rfl ?_
      show OwnWP _ _ _ _ _ _ _ _ _ T11 (mkF m 191 #[.val (.ref a), .val (.int (0 : Int32)), .val (.int (4 : Int32)), .val (.int b0), .val (.int (3 : Int32)), .val (.int (b0 &&& (7 : Int32))), .val (.int (144 : Int32)), .val (.int (191 : Int32)), .val (.int (4 : Int32)), .val (.int (1 : Int32)), .unset] [(.int (1 : Int32)), (.ref a)])
      refine ow_baload C A11 Va ⟨by decide, by decide⟩ (v := (.int x1)) rfl d1_191 rfl ?_
      refine ow_sipush C A11 d1_192 (v := 255) rfl rfl ?_
      refine ow_iand C A11 d1_195 rfl ?_
      rw [e1]
      refine ow_goto C A11 d1_196 (by decide) (pc' := 200) (by decide) ?_
      refine ow_istore C A11 d1_200 (Ls' := #[.val (.ref a), .val (.int (0 : Int32)), .val (.int (4 : Int32)), .val (.int b0), .val (.int (3 : Int32)), .val (.int (b0 &&& (7 : Int32))), .val (.int (144 : Int32)), .val (.int (191 : Int32)), .val (.int (4 : Int32)), .val (.int (1 : Int32)), .val (.int b1)]) rfl rfl ?_
      refine ow_iload C A11 d1_202 rfl rfl ?_
      refine ow_iload C A11 d1_204 rfl rfl ?_
      refine ow_icmp_lt C A11 d1_206 (by decide) (pcY := 216) (by decide) (pcN := 209) rfl (fun hc206 => ?_) (fun hc206 => ?_)
      · skip
        have iv12 : b1.toInt < 144 := own_lt32' hc206
        refine ow_iconst C A11 d1_216 (v := (-1)) rfl rfl ?_
        refine ow_ireturn C A11 (t := .int) rfl rfl (by simp) d1_217 (by decide) (by decide) ?_
        exact ⟨rfl, Or.inl rfl⟩
      · skip
        have iv13 : ¬ (b1.toInt < 144) := own_nlt32' hc206
        refine ow_iload C A11 d1_209 rfl rfl ?_
        refine ow_iload C A11 d1_211 rfl rfl ?_
        refine ow_icmp_le C A11 d1_213 (by decide) (pcY := 218) (by decide) (pcN := 216) rfl (fun _ => ?_) (fun z => absurd z (own_nlt32 (by show ¬ (191 < b1.toInt); omega)))
        refine ow_iload C A11 d1_218 rfl rfl ?_
        refine ow_bipush C A11 d1_220 (v := 6) rfl rfl ?_
        refine ow_ishl C A11 d1_222 rfl ?_
        refine ow_iload C A11 d1_223 rfl rfl ?_
        refine ow_bipush C A11 d1_225 (v := 63) rfl rfl ?_
        refine ow_iand C A11 d1_227 rfl ?_
        refine ow_ior C A11 d1_228 rfl ?_
        refine ow_istore C A11 d1_229 (Ls' := #[.val (.ref a), .val (.int (0 : Int32)), .val (.int (4 : Int32)), .val (.int b0), .val (.int (3 : Int32)), .val (.int (((b0 &&& (7 : Int32)) <<< ((6 : Int32) &&& 31)) ||| (b1 &&& (63 : Int32)))), .val (.int (144 : Int32)), .val (.int (191 : Int32)), .val (.int (4 : Int32)), .val (.int (1 : Int32)), .val (.int b1)]) rfl rfl ?_
        refine ow_sipush C A11 d1_231 (v := 128) rfl rfl ?_
        refine ow_istore C A11 d1_234 (Ls' := #[.val (.ref a), .val (.int (0 : Int32)), .val (.int (4 : Int32)), .val (.int b0), .val (.int (3 : Int32)), .val (.int (((b0 &&& (7 : Int32)) <<< ((6 : Int32) &&& 31)) ||| (b1 &&& (63 : Int32)))), .val (.int (128 : Int32)), .val (.int (191 : Int32)), .val (.int (4 : Int32)), .val (.int (1 : Int32)), .val (.int b1)]) rfl rfl ?_
        refine ow_sipush C A11 d1_236 (v := 191) rfl rfl ?_
        refine ow_istore C A11 d1_239 (Ls' := #[.val (.ref a), .val (.int (0 : Int32)), .val (.int (4 : Int32)), .val (.int b0), .val (.int (3 : Int32)), .val (.int (((b0 &&& (7 : Int32)) <<< ((6 : Int32) &&& 31)) ||| (b1 &&& (63 : Int32)))), .val (.int (128 : Int32)), .val (.int (191 : Int32)), .val (.int (4 : Int32)), .val (.int (1 : Int32)), .val (.int b1)]) rfl rfl ?_
        refine ow_iinc C A11 d1_241 rfl (Ls' := #[.val (.ref a), .val (.int (0 : Int32)), .val (.int (4 : Int32)), .val (.int b0), .val (.int (3 : Int32)), .val (.int (((b0 &&& (7 : Int32)) <<< ((6 : Int32) &&& 31)) ||| (b1 &&& (63 : Int32)))), .val (.int (128 : Int32)), .val (.int (191 : Int32)), .val (.int (4 : Int32)), .val (.int (2 : Int32)), .val (.int b1)]) rfl rfl ?_
        refine ow_goto C A11 d1_244 (by decide) (pc' := 170) (by decide) ?_
        refine ow_iload C A11 d1_170 rfl rfl ?_
        refine ow_iload C A11 d1_172 rfl rfl ?_
        refine ow_icmp_gt C A11 d1_174 (by decide) (pcY := 247) (by decide) (pcN := 177) rfl (fun z => absurd z (by decide)) (fun _ => ?_)
        refine ow_iloadN C A11 d1_177 rfl rfl ?_
        refine ow_iload C A11 d1_178 rfl rfl ?_
        refine ow_iadd C A11 d1_180 rfl ?_
        show OwnWP _ _ _ _ _ _ _ _ _ T11 (mkF m 181 #[.val (.ref a), .val (.int (0 : Int32)), .val (.int (4 : Int32)), .val (.int b0), .val (.int (3 : Int32)), .val (.int (((b0 &&& (7 : Int32)) <<< ((6 : Int32) &&& 31)) ||| (b1 &&& (63 : Int32)))), .val (.int (128 : Int32)), .val (.int (191 : Int32)), .val (.int (4 : Int32)), .val (.int (2 : Int32)), .val (.int b1)] [(.int (2 : Int32))])
        refine ow_iload C A11 d1_181 rfl rfl ?_
        refine ow_icmp_ge C A11 d1_183 (by decide) (pcY := 199) (by decide) (pcN := 186) rfl (fun z => absurd (by decide) z) (fun _ => ?_)
        refine ow_aloadN C A11 d1_186 rfl rfl rfl ?_
        refine ow_iloadN C A11 d1_187 rfl rfl ?_
        refine ow_iload C A11 d1_188 rfl rfl ?_
        refine ow_iadd C A11 d1_190 rfl ?_
        show OwnWP _ _ _ _ _ _ _ _ _ T11 (mkF m 191 #[.val (.ref a), .val (.int (0 : Int32)), .val (.int (4 : Int32)), .val (.int b0), .val (.int (3 : Int32)), .val (.int (((b0 &&& (7 : Int32)) <<< ((6 : Int32) &&& 31)) ||| (b1 &&& (63 : Int32)))), .val (.int (128 : Int32)), .val (.int (191 : Int32)), .val (.int (4 : Int32)), .val (.int (2 : Int32)), .val (.int b1)] [(.int (2 : Int32)), (.ref a)])
        refine ow_baload C A11 Va ⟨by decide, by decide⟩ (v := (.int x2)) rfl d1_191 rfl ?_
        refine ow_sipush C A11 d1_192 (v := 255) rfl rfl ?_
        refine ow_iand C A11 d1_195 rfl ?_
        rw [e2]
        refine ow_goto C A11 d1_196 (by decide) (pc' := 200) (by decide) ?_
        refine ow_istore C A11 d1_200 (Ls' := #[.val (.ref a), .val (.int (0 : Int32)), .val (.int (4 : Int32)), .val (.int b0), .val (.int (3 : Int32)), .val (.int (((b0 &&& (7 : Int32)) <<< ((6 : Int32) &&& 31)) ||| (b1 &&& (63 : Int32)))), .val (.int (128 : Int32)), .val (.int (191 : Int32)), .val (.int (4 : Int32)), .val (.int (2 : Int32)), .val (.int b2)]) rfl rfl ?_
        refine ow_iload C A11 d1_202 rfl rfl ?_
        refine ow_iload C A11 d1_204 rfl rfl ?_
        refine ow_icmp_lt C A11 d1_206 (by decide) (pcY := 216) (by decide) (pcN := 209) rfl (fun z => absurd z (own_nlt32 (by show ¬ (b2.toInt < 128); omega))) (fun _ => ?_)
        refine ow_iload C A11 d1_209 rfl rfl ?_
        refine ow_iload C A11 d1_211 rfl rfl ?_
        refine ow_icmp_le C A11 d1_213 (by decide) (pcY := 218) (by decide) (pcN := 216) rfl (fun _ => ?_) (fun z => absurd z (own_nlt32 (by show ¬ (191 < b2.toInt); omega)))
        refine ow_iload C A11 d1_218 rfl rfl ?_
        refine ow_bipush C A11 d1_220 (v := 6) rfl rfl ?_
        refine ow_ishl C A11 d1_222 rfl ?_
        refine ow_iload C A11 d1_223 rfl rfl ?_
        refine ow_bipush C A11 d1_225 (v := 63) rfl rfl ?_
        refine ow_iand C A11 d1_227 rfl ?_
        refine ow_ior C A11 d1_228 rfl ?_
        refine ow_istore C A11 d1_229 (Ls' := #[.val (.ref a), .val (.int (0 : Int32)), .val (.int (4 : Int32)), .val (.int b0), .val (.int (3 : Int32)), .val (.int (((((b0 &&& (7 : Int32)) <<< ((6 : Int32) &&& 31)) ||| (b1 &&& (63 : Int32))) <<< ((6 : Int32) &&& 31)) ||| (b2 &&& (63 : Int32)))), .val (.int (128 : Int32)), .val (.int (191 : Int32)), .val (.int (4 : Int32)), .val (.int (2 : Int32)), .val (.int b2)]) rfl rfl ?_
        refine ow_sipush C A11 d1_231 (v := 128) rfl rfl ?_
        refine ow_istore C A11 d1_234 (Ls' := #[.val (.ref a), .val (.int (0 : Int32)), .val (.int (4 : Int32)), .val (.int b0), .val (.int (3 : Int32)), .val (.int (((((b0 &&& (7 : Int32)) <<< ((6 : Int32) &&& 31)) ||| (b1 &&& (63 : Int32))) <<< ((6 : Int32) &&& 31)) ||| (b2 &&& (63 : Int32)))), .val (.int (128 : Int32)), .val (.int (191 : Int32)), .val (.int (4 : Int32)), .val (.int (2 : Int32)), .val (.int b2)]) rfl rfl ?_
        refine ow_sipush C A11 d1_236 (v := 191) rfl rfl ?_
        refine ow_istore C A11 d1_239 (Ls' := #[.val (.ref a), .val (.int (0 : Int32)), .val (.int (4 : Int32)), .val (.int b0), .val (.int (3 : Int32)), .val (.int (((((b0 &&& (7 : Int32)) <<< ((6 : Int32) &&& 31)) ||| (b1 &&& (63 : Int32))) <<< ((6 : Int32) &&& 31)) ||| (b2 &&& (63 : Int32)))), .val (.int (128 : Int32)), .val (.int (191 : Int32)), .val (.int (4 : Int32)), .val (.int (2 : Int32)), .val (.int b2)]) rfl rfl ?_
        refine ow_iinc C A11 d1_241 rfl (Ls' := #[.val (.ref a), .val (.int (0 : Int32)), .val (.int (4 : Int32)), .val (.int b0), .val (.int (3 : Int32)), .val (.int (((((b0 &&& (7 : Int32)) <<< ((6 : Int32) &&& 31)) ||| (b1 &&& (63 : Int32))) <<< ((6 : Int32) &&& 31)) ||| (b2 &&& (63 : Int32)))), .val (.int (128 : Int32)), .val (.int (191 : Int32)), .val (.int (4 : Int32)), .val (.int (3 : Int32)), .val (.int b2)]) rfl rfl ?_
        refine ow_goto C A11 d1_244 (by decide) (pc' := 170) (by decide) ?_
        refine ow_iload C A11 d1_170 rfl rfl ?_
        refine ow_iload C A11 d1_172 rfl rfl ?_
        refine ow_icmp_gt C A11 d1_174 (by decide) (pcY := 247) (by decide) (pcN := 177) rfl (fun z => absurd z (by decide)) (fun _ => ?_)
        refine ow_iloadN C A11 d1_177 rfl rfl ?_
        refine ow_iload C A11 d1_178 rfl rfl ?_
        refine ow_iadd C A11 d1_180 rfl ?_
        show OwnWP _ _ _ _ _ _ _ _ _ T11 (mkF m 181 #[.val (.ref a), .val (.int (0 : Int32)), .val (.int (4 : Int32)), .val (.int b0), .val (.int (3 : Int32)), .val (.int (((((b0 &&& (7 : Int32)) <<< ((6 : Int32) &&& 31)) ||| (b1 &&& (63 : Int32))) <<< ((6 : Int32) &&& 31)) ||| (b2 &&& (63 : Int32)))), .val (.int (128 : Int32)), .val (.int (191 : Int32)), .val (.int (4 : Int32)), .val (.int (3 : Int32)), .val (.int b2)] [(.int (3 : Int32))])
        refine ow_iload C A11 d1_181 rfl rfl ?_
        refine ow_icmp_ge C A11 d1_183 (by decide) (pcY := 199) (by decide) (pcN := 186) rfl (fun z => absurd (by decide) z) (fun _ => ?_)
        refine ow_aloadN C A11 d1_186 rfl rfl rfl ?_
        refine ow_iloadN C A11 d1_187 rfl rfl ?_
        refine ow_iload C A11 d1_188 rfl rfl ?_
        refine ow_iadd C A11 d1_190 rfl ?_
        show OwnWP _ _ _ _ _ _ _ _ _ T11 (mkF m 191 #[.val (.ref a), .val (.int (0 : Int32)), .val (.int (4 : Int32)), .val (.int b0), .val (.int (3 : Int32)), .val (.int (((((b0 &&& (7 : Int32)) <<< ((6 : Int32) &&& 31)) ||| (b1 &&& (63 : Int32))) <<< ((6 : Int32) &&& 31)) ||| (b2 &&& (63 : Int32)))), .val (.int (128 : Int32)), .val (.int (191 : Int32)), .val (.int (4 : Int32)), .val (.int (3 : Int32)), .val (.int b2)] [(.int (3 : Int32)), (.ref a)])
        refine ow_baload C A11 Va ⟨by decide, by decide⟩ (v := (.int x3)) rfl d1_191 rfl ?_
        refine ow_sipush C A11 d1_192 (v := 255) rfl rfl ?_
        refine ow_iand C A11 d1_195 rfl ?_
        rw [e3]
        refine ow_goto C A11 d1_196 (by decide) (pc' := 200) (by decide) ?_
        refine ow_istore C A11 d1_200 (Ls' := #[.val (.ref a), .val (.int (0 : Int32)), .val (.int (4 : Int32)), .val (.int b0), .val (.int (3 : Int32)), .val (.int (((((b0 &&& (7 : Int32)) <<< ((6 : Int32) &&& 31)) ||| (b1 &&& (63 : Int32))) <<< ((6 : Int32) &&& 31)) ||| (b2 &&& (63 : Int32)))), .val (.int (128 : Int32)), .val (.int (191 : Int32)), .val (.int (4 : Int32)), .val (.int (3 : Int32)), .val (.int b3)]) rfl rfl ?_
        refine ow_iload C A11 d1_202 rfl rfl ?_
        refine ow_iload C A11 d1_204 rfl rfl ?_
        refine ow_icmp_lt C A11 d1_206 (by decide) (pcY := 216) (by decide) (pcN := 209) rfl (fun z => absurd z (own_nlt32 (by show ¬ (b3.toInt < 128); omega))) (fun _ => ?_)
        refine ow_iload C A11 d1_209 rfl rfl ?_
        refine ow_iload C A11 d1_211 rfl rfl ?_
        refine ow_icmp_le C A11 d1_213 (by decide) (pcY := 218) (by decide) (pcN := 216) rfl (fun _ => ?_) (fun z => absurd z (own_nlt32 (by show ¬ (191 < b3.toInt); omega)))
        refine ow_iload C A11 d1_218 rfl rfl ?_
        refine ow_bipush C A11 d1_220 (v := 6) rfl rfl ?_
        refine ow_ishl C A11 d1_222 rfl ?_
        refine ow_iload C A11 d1_223 rfl rfl ?_
        refine ow_bipush C A11 d1_225 (v := 63) rfl rfl ?_
        refine ow_iand C A11 d1_227 rfl ?_
        refine ow_ior C A11 d1_228 rfl ?_
        refine ow_istore C A11 d1_229 (Ls' := #[.val (.ref a), .val (.int (0 : Int32)), .val (.int (4 : Int32)), .val (.int b0), .val (.int (3 : Int32)), .val (.int (((((((b0 &&& (7 : Int32)) <<< ((6 : Int32) &&& 31)) ||| (b1 &&& (63 : Int32))) <<< ((6 : Int32) &&& 31)) ||| (b2 &&& (63 : Int32))) <<< ((6 : Int32) &&& 31)) ||| (b3 &&& (63 : Int32)))), .val (.int (128 : Int32)), .val (.int (191 : Int32)), .val (.int (4 : Int32)), .val (.int (3 : Int32)), .val (.int b3)]) rfl rfl ?_
        refine ow_sipush C A11 d1_231 (v := 128) rfl rfl ?_
        refine ow_istore C A11 d1_234 (Ls' := #[.val (.ref a), .val (.int (0 : Int32)), .val (.int (4 : Int32)), .val (.int b0), .val (.int (3 : Int32)), .val (.int (((((((b0 &&& (7 : Int32)) <<< ((6 : Int32) &&& 31)) ||| (b1 &&& (63 : Int32))) <<< ((6 : Int32) &&& 31)) ||| (b2 &&& (63 : Int32))) <<< ((6 : Int32) &&& 31)) ||| (b3 &&& (63 : Int32)))), .val (.int (128 : Int32)), .val (.int (191 : Int32)), .val (.int (4 : Int32)), .val (.int (3 : Int32)), .val (.int b3)]) rfl rfl ?_
        refine ow_sipush C A11 d1_236 (v := 191) rfl rfl ?_
        refine ow_istore C A11 d1_239 (Ls' := #[.val (.ref a), .val (.int (0 : Int32)), .val (.int (4 : Int32)), .val (.int b0), .val (.int (3 : Int32)), .val (.int (((((((b0 &&& (7 : Int32)) <<< ((6 : Int32) &&& 31)) ||| (b1 &&& (63 : Int32))) <<< ((6 : Int32) &&& 31)) ||| (b2 &&& (63 : Int32))) <<< ((6 : Int32) &&& 31)) ||| (b3 &&& (63 : Int32)))), .val (.int (128 : Int32)), .val (.int (191 : Int32)), .val (.int (4 : Int32)), .val (.int (3 : Int32)), .val (.int b3)]) rfl rfl ?_
        refine ow_iinc C A11 d1_241 rfl (Ls' := #[.val (.ref a), .val (.int (0 : Int32)), .val (.int (4 : Int32)), .val (.int b0), .val (.int (3 : Int32)), .val (.int (((((((b0 &&& (7 : Int32)) <<< ((6 : Int32) &&& 31)) ||| (b1 &&& (63 : Int32))) <<< ((6 : Int32) &&& 31)) ||| (b2 &&& (63 : Int32))) <<< ((6 : Int32) &&& 31)) ||| (b3 &&& (63 : Int32)))), .val (.int (128 : Int32)), .val (.int (191 : Int32)), .val (.int (4 : Int32)), .val (.int (4 : Int32)), .val (.int b3)]) rfl rfl ?_
        refine ow_goto C A11 d1_244 (by decide) (pc' := 170) (by decide) ?_
        refine ow_iload C A11 d1_170 rfl rfl ?_
        refine ow_iload C A11 d1_172 rfl rfl ?_
        refine ow_icmp_gt C A11 d1_174 (by decide) (pcY := 247) (by decide) (pcN := 177) rfl (fun _ => ?_) (fun z => absurd (by decide) z)
        refine ow_iload C A11 d1_247 rfl rfl ?_
        refine ow_ireturn C A11 (t := .int) rfl rfl (by simp) d1_249 (by decide) (by decide) ?_
        have z0 := own_m7 b0
        have z1 := own_push (b0 &&& (7 : Int32)) b1 (by omega) (by omega)
        have z2 := own_push (((b0 &&& (7 : Int32)) <<< ((6 : Int32) &&& 31)) ||| (b1 &&& (63 : Int32))) b2 (by omega) (by omega)
        have z3 := own_push (((((b0 &&& (7 : Int32)) <<< ((6 : Int32) &&& 31)) ||| (b1 &&& (63 : Int32))) <<< ((6 : Int32) &&& 31)) ||| (b2 &&& (63 : Int32))) b3 (by omega) (by omega)
        exact ⟨rfl, Or.inr ⟨_, rfl, by omega, by omega⟩⟩
set_option maxRecDepth 65536 in
set_option maxHeartbeats 40000000 in
theorem rm_len (l : Launch) (Z : State) (a0 : Array Value) (hw : ∀ d ∈ tables_1, d.before a0 Z = true) (p1 : Int32) (h0 : Heap)  (cs : List Jvm.Cond) :
    OwnCtr l Z (⟨"com/example/canonwire/canonwire/Utf8", "length", "(I)I"⟩ : MethodName) prog_47_method_5_code 1 (some .int) rmz #[(.int p1)] h0 [] (QI (own_len p1) h0) cs := by
  refine ow_ctr pn_2 hw (Ls := #[.val (.int p1)]) (fun m => by first | (simp [entryFrame, mkF, argsToLocals, Value.category]; done) | rfl) ?_
  intro p e s m below meth c T0 C A0
  refine ow_iloadN C A0 d2_0 rfl rfl ?_
  refine ow_sipush C A0 d2_1 (v := 128) rfl rfl ?_
  refine ow_icmp_ge C A0 d2_4 (by decide) (pcY := 11) (by decide) (pcN := 7) rfl (fun hc4 => ?_) (fun hc4 => ?_)
  · skip
    refine ow_iloadN C A0 d2_11 rfl rfl ?_
    refine ow_sipush C A0 d2_12 (v := 2048) rfl rfl ?_
    refine ow_icmp_ge C A0 d2_15 (by decide) (pcY := 22) (by decide) (pcN := 18) rfl (fun hc15 => ?_) (fun hc15 => ?_)
    · skip
      refine ow_iloadN C A0 d2_22 rfl rfl ?_
      refine ow_ldcInt C A0 tw_12 d2_23 rfl ?_
      refine ow_icmp_ge C A0 d2_25 (by decide) (pcY := 32) (by decide) (pcN := 28) rfl (fun hc25 => ?_) (fun hc25 => ?_)
      · skip
        refine ow_iconst C A0 d2_32 (v := 4) rfl rfl ?_
        refine ow_ireturn C A0 (t := .int) rfl rfl (by simp) d2_33 (by decide) (by decide) ?_
        exact ⟨by simp [own_len, hc4, hc15, hc25], rfl⟩
      · skip
        refine ow_iconst C A0 d2_28 (v := 3) rfl rfl ?_
        refine ow_goto C A0 d2_29 (by decide) (pc' := 33) (by decide) ?_
        refine ow_ireturn C A0 (t := .int) rfl rfl (by simp) d2_33 (by decide) (by decide) ?_
        exact ⟨by simp [own_len, hc4, hc15, hc25], rfl⟩
    · skip
      refine ow_iconst C A0 d2_18 (v := 2) rfl rfl ?_
      refine ow_goto C A0 d2_19 (by decide) (pc' := 33) (by decide) ?_
      refine ow_ireturn C A0 (t := .int) rfl rfl (by simp) d2_33 (by decide) (by decide) ?_
      exact ⟨by simp [own_len, hc4, hc15], rfl⟩
  · skip
    refine ow_iconst C A0 d2_7 (v := 1) rfl rfl ?_
    refine ow_goto C A0 d2_8 (by decide) (pc' := 33) (by decide) ?_
    refine ow_ireturn C A0 (t := .int) rfl rfl (by simp) d2_33 (by decide) (by decide) ?_
    exact ⟨by simp [own_len, hc4], rfl⟩
set_option maxRecDepth 65536 in
set_option maxHeartbeats 40000000 in
theorem rm0 (l : Launch) (Z : State) (a0 : Array Value) (hw : ∀ d ∈ tables_1, d.before a0 Z = true) (p1 p2 : Int32) (h0 : Heap)  (cs : List Jvm.Cond) :
    OwnCtr l Z x code maxLocals ret room_1 #[(.int p1), (.int p2)] h0 [] Q0 cs := by
  refine ow_ctr pn_0 hw (Ls := #[.val (.int p1), .val (.int p2), .unset, .unset, .unset]) (fun m => by first | (simp [entryFrame, mkF, argsToLocals, Value.category, maxLocals]; done) | rfl) ?_
  intro p e s m below meth c T0 C A0
  refine ow_iloadN C A0 at_0 rfl rfl ?_
  refine ow_iconst C A0 at_1 (v := 3) rfl rfl ?_
  refine ow_iand C A0 at_2 rfl ?_
  rcases own_and3 p1 with hn | hn | hn | hn
  · rw [hn]
    refine ow_iconst C A0 at_3 (v := 1) rfl rfl ?_
    refine ow_iadd C A0 at_4 rfl ?_
    show OwnWP _ _ _ _ _ _ _ _ _ T0 (mkF m 5 #[.val (.int p1), .val (.int p2), .unset, .unset, .unset] [(.int (1 : Int32))])
    refine ow_istoreN C A0 at_5 (Ls' := #[.val (.int p1), .val (.int p2), .val (.int (1 : Int32)), .unset, .unset]) rfl rfl ?_
    refine ow_iconst C A0 at_6 (v := 4) rfl rfl ?_
    refine ow_newA C A0 (ty := .byte) rfl tw_0 at_7 rfl (by decide) (cap := 4) (by decide) (by decide) (ck' := 1) (sk' := 4) rfl rfl (by decide) (by decide) ?_
    intro T1 h3 b4 kk5 g6 E7 V8 A2
    have ows_b4 : b4 ∈ ([] : List Addr) ∨ h0.size ≤ b4 := Or.inr (Nat.le_trans (ow_le A0) (Nat.le_of_eq g6.symm))
    have V9 : Arv Z h3 b4 kk5 .byte (4 : Int32) [(.int (0 : Int32)), (.int (0 : Int32)), (.int (0 : Int32)), (.int (0 : Int32))] (.int (0 : Int32)) := V8.pad (pad_rep [] (.int (0 : Int32)) 4)
    refine ow_astoreN C A2 at_9 rfl (Ls' := #[.val (.int p1), .val (.int p2), .val (.int (1 : Int32)), .val (.ref b4), .unset]) rfl rfl ?_
    refine ow_iloadN C A2 at_10 rfl rfl ?_
    refine ow_iconst C A2 at_11 (v := 1) rfl rfl ?_
    refine ow_icmp_ne C A2 at_12 (by decide) (pcY := 26) (by decide) (pcN := 15) rfl (fun z => absurd (by decide) z) (fun _ => ?_)
    refine ow_aloadN C A2 at_15 rfl rfl rfl ?_
    refine ow_iconst C A2 at_16 (v := 0) rfl rfl ?_
    refine ow_iloadN C A2 at_17 rfl rfl ?_
    refine ow_bipush C A2 at_18 (v := 127) rfl rfl ?_
    refine ow_iand C A2 at_20 rfl ?_
    refine ow_i2b C A2 at_21 rfl ?_
    refine ow_bastore C A2 V9 ⟨by decide, by decide⟩ (i := 0) rfl (Nat.le_of_ble_eq_true rfl) ows_b4 at_22 rfl ?_
    intro T10 h12 W13 V14 A11
    have V15 : Arv Z h12 b4 kk5 .byte (4 : Int32) [(.int (p2 &&& (127 : Int32)).toInt8.toInt32.toInt8.toInt32), (.int (0 : Int32)), (.int (0 : Int32)), (.int (0 : Int32))] (.int (0 : Int32)) := V14
    refine ow_goto C A11 at_23 (by decide) (pc' := 168) (by decide) ?_
    refine ow_aloadN C A11 at_168 rfl rfl rfl ?_
    refine ow_iconst C A11 at_169 (v := 0) rfl rfl ?_
    refine ow_iloadN C A11 at_170 rfl rfl ?_
    refine ow_callS C A11 (argsL := [(.ref b4), (.int (0 : Int32)), (.int (1 : Int32))]) (rm_cp1 l Z a0 hw b4 kk5 (p2 &&& (127 : Int32)).toInt8.toInt32.toInt8.toInt32 (p2 &&& (127 : Int32)) (.int (0 : Int32)) (.int (0 : Int32)) (.int (0 : Int32)) h12 V15 (own_byte (p2 &&& (127 : Int32)) (own_w255 (own_a7 p2) (by decide) (by decide))) (own_a7 p2) []) tw_1 tw_2 tw_3 tw_4 (by decide) all0 (by decide) (by decide) (ck' := 1) (sk' := 4) rfl rfl (by decide) (by decide) rfl (lenOf pd_1 rfl) (S := []) rfl (W := 0) (Nat.le_of_eq rfl) at_171 rfl ?_
    intro T16 v16 K16 hQ16 A16
    obtain ⟨e16, hv16⟩ := hQ16
    rw [e16] at A16 K16
    rcases hv16 with rfl | ⟨cc16, rfl, hl16, hu16⟩
    · skip
      show OwnWP _ _ _ _ _ _ _ _ _ T16 (mkF m 174 #[.val (.int p1), .val (.int p2), .val (.int (1 : Int32)), .val (.ref b4), .unset] [(.int (-1 : Int32))])
      refine ow_istore C A16 at_174 (Ls' := #[.val (.int p1), .val (.int p2), .val (.int (1 : Int32)), .val (.ref b4), .val (.int (-1 : Int32))]) rfl rfl ?_
      refine ow_iload C A16 at_176 rfl rfl ?_
      refine ow_if_ge C A16 at_178 (by decide) (pcY := 183) (by decide) (pcN := 181) rfl (fun z => absurd (by decide) z) (fun _ => ?_)
      refine ow_iconst C A16 at_181 (v := 1) rfl rfl ?_
      refine ow_ireturn C A16 (t := .boolean) rfl rfl (by simp) at_182 (by decide) (by decide) ?_
      exact rfl
    · skip
      show OwnWP _ _ _ _ _ _ _ _ _ T16 (mkF m 174 #[.val (.int p1), .val (.int p2), .val (.int (1 : Int32)), .val (.ref b4), .unset] [(.int cc16)])
      refine ow_istore C A16 at_174 (Ls' := #[.val (.int p1), .val (.int p2), .val (.int (1 : Int32)), .val (.ref b4), .val (.int cc16)]) rfl rfl ?_
      refine ow_iload C A16 at_176 rfl rfl ?_
      refine ow_if_ge C A16 at_178 (by decide) (pcY := 183) (by decide) (pcN := 181) rfl (fun _ => ?_) (fun z => absurd z (own_nlt32 (by show ¬ (cc16.toInt < 0); omega)))
      refine ow_iload C A16 at_183 rfl rfl ?_
      refine ow_callS C A16 (argsL := [(.int cc16)]) (rm_len l Z a0 hw cc16 h12 []) tw_5 tw_6 tw_3 tw_7 (by decide) all0 (by decide) (by decide) (ck' := 1) (sk' := 4) rfl rfl (by decide) (by decide) rfl (lenOf pd_2 rfl) (S := []) rfl (W := 0) (Nat.le_of_eq rfl) at_185 rfl ?_
      intro T17 v17 K17 hQ17 A17
      obtain ⟨rfl, e17⟩ := hQ17
      rw [e17] at A17 K17
      show OwnWP _ _ _ _ _ _ _ _ _ T17 (mkF m 188 #[.val (.int p1), .val (.int p2), .val (.int (1 : Int32)), .val (.ref b4), .val (.int cc16)] [(.int (own_len cc16))])
      refine ow_iloadN C A17 at_188 rfl rfl ?_
      refine ow_icmp_ne C A17 at_189 (by decide) (pcY := 196) (by decide) (pcN := 192) rfl (fun z => absurd (own_L1 _ hu16) z) (fun _ => ?_)
      refine ow_iconst C A17 at_192 (v := 1) rfl rfl ?_
      refine ow_goto C A17 at_193 (by decide) (pc' := 197) (by decide) ?_
      refine ow_ireturn C A17 (t := .boolean) rfl rfl (by simp) at_197 (by decide) (by decide) ?_
      exact rfl
  · rw [hn]
    refine ow_iconst C A0 at_3 (v := 1) rfl rfl ?_
    refine ow_iadd C A0 at_4 rfl ?_
    show OwnWP _ _ _ _ _ _ _ _ _ T0 (mkF m 5 #[.val (.int p1), .val (.int p2), .unset, .unset, .unset] [(.int (2 : Int32))])
    refine ow_istoreN C A0 at_5 (Ls' := #[.val (.int p1), .val (.int p2), .val (.int (2 : Int32)), .unset, .unset]) rfl rfl ?_
    refine ow_iconst C A0 at_6 (v := 4) rfl rfl ?_
    refine ow_newA C A0 (ty := .byte) rfl tw_0 at_7 rfl (by decide) (cap := 4) (by decide) (by decide) (ck' := 1) (sk' := 4) rfl rfl (by decide) (by decide) ?_
    intro T18 h20 b21 kk22 g23 E24 V25 A19
    have ows_b21 : b21 ∈ ([] : List Addr) ∨ h0.size ≤ b21 := Or.inr (Nat.le_trans (ow_le A0) (Nat.le_of_eq g23.symm))
    have V26 : Arv Z h20 b21 kk22 .byte (4 : Int32) [(.int (0 : Int32)), (.int (0 : Int32)), (.int (0 : Int32)), (.int (0 : Int32))] (.int (0 : Int32)) := V25.pad (pad_rep [] (.int (0 : Int32)) 4)
    refine ow_astoreN C A19 at_9 rfl (Ls' := #[.val (.int p1), .val (.int p2), .val (.int (2 : Int32)), .val (.ref b21), .unset]) rfl rfl ?_
    refine ow_iloadN C A19 at_10 rfl rfl ?_
    refine ow_iconst C A19 at_11 (v := 1) rfl rfl ?_
    refine ow_icmp_ne C A19 at_12 (by decide) (pcY := 26) (by decide) (pcN := 15) rfl (fun _ => ?_) (fun z => absurd z (by decide))
    refine ow_iloadN C A19 at_26 rfl rfl ?_
    refine ow_iconst C A19 at_27 (v := 2) rfl rfl ?_
    refine ow_icmp_ne C A19 at_28 (by decide) (pcY := 61) (by decide) (pcN := 31) rfl (fun z => absurd (by decide) z) (fun _ => ?_)
    refine ow_aloadN C A19 at_31 rfl rfl rfl ?_
    refine ow_iconst C A19 at_32 (v := 0) rfl rfl ?_
    refine ow_sipush C A19 at_33 (v := 192) rfl rfl ?_
    refine ow_iloadN C A19 at_36 rfl rfl ?_
    refine ow_bipush C A19 at_37 (v := 6) rfl rfl ?_
    refine ow_iushr C A19 at_39 rfl ?_
    refine ow_bipush C A19 at_40 (v := 31) rfl rfl ?_
    refine ow_iand C A19 at_42 rfl ?_
    refine ow_ior C A19 at_43 rfl ?_
    refine ow_i2b C A19 at_44 rfl ?_
    refine ow_bastore C A19 V26 ⟨by decide, by decide⟩ (i := 0) rfl (Nat.le_of_ble_eq_true rfl) ows_b21 at_45 rfl ?_
    intro T27 h29 W30 V31 A28
    have V32 : Arv Z h29 b21 kk22 .byte (4 : Int32) [(.int ((192 : Int32) ||| ((own_ushr p2 (6 : Int32)) &&& (31 : Int32))).toInt8.toInt32.toInt8.toInt32), (.int (0 : Int32)), (.int (0 : Int32)), (.int (0 : Int32))] (.int (0 : Int32)) := V31
    refine ow_aloadN C A28 at_46 rfl rfl rfl ?_
    refine ow_iconst C A28 at_47 (v := 1) rfl rfl ?_
    refine ow_sipush C A28 at_48 (v := 128) rfl rfl ?_
    refine ow_iloadN C A28 at_51 rfl rfl ?_
    refine ow_bipush C A28 at_52 (v := 63) rfl rfl ?_
    refine ow_iand C A28 at_54 rfl ?_
    refine ow_ior C A28 at_55 rfl ?_
    refine ow_i2b C A28 at_56 rfl ?_
    refine ow_bastore C A28 V32 ⟨by decide, by decide⟩ (i := 1) rfl (Nat.le_of_ble_eq_true rfl) ows_b21 at_57 rfl ?_
    intro T33 h35 W36 V37 A34
    have V38 : Arv Z h35 b21 kk22 .byte (4 : Int32) [(.int ((192 : Int32) ||| ((own_ushr p2 (6 : Int32)) &&& (31 : Int32))).toInt8.toInt32.toInt8.toInt32), (.int ((128 : Int32) ||| (p2 &&& (63 : Int32))).toInt8.toInt32.toInt8.toInt32), (.int (0 : Int32)), (.int (0 : Int32))] (.int (0 : Int32)) := V37
    refine ow_goto C A34 at_58 (by decide) (pc' := 168) (by decide) ?_
    refine ow_aloadN C A34 at_168 rfl rfl rfl ?_
    refine ow_iconst C A34 at_169 (v := 0) rfl rfl ?_
    refine ow_iloadN C A34 at_170 rfl rfl ?_
    refine ow_callS C A34 (argsL := [(.ref b21), (.int (0 : Int32)), (.int (2 : Int32))]) (rm_cp2 l Z a0 hw b21 kk22 ((192 : Int32) ||| ((own_ushr p2 (6 : Int32)) &&& (31 : Int32))).toInt8.toInt32.toInt8.toInt32 ((192 : Int32) ||| ((own_ushr p2 (6 : Int32)) &&& (31 : Int32))) ((128 : Int32) ||| (p2 &&& (63 : Int32))).toInt8.toInt32.toInt8.toInt32 ((128 : Int32) ||| (p2 &&& (63 : Int32))) (.int (0 : Int32)) (.int (0 : Int32)) h35 V38 (own_byte ((192 : Int32) ||| ((own_ushr p2 (6 : Int32)) &&& (31 : Int32))) (own_w255 (own_i2 _) (by decide) (by decide))) (own_byte ((128 : Int32) ||| (p2 &&& (63 : Int32))) (own_w255 (own_ic _) (by decide) (by decide))) (own_i2 _) (own_ic _) []) tw_1 tw_2 tw_3 tw_4 (by decide) all0 (by decide) (by decide) (ck' := 1) (sk' := 4) rfl rfl (by decide) (by decide) rfl (lenOf pd_1 rfl) (S := []) rfl (W := 0) (Nat.le_of_eq rfl) at_171 rfl ?_
    intro T39 v39 K39 hQ39 A39
    obtain ⟨e39, hv39⟩ := hQ39
    rw [e39] at A39 K39
    rcases hv39 with rfl | ⟨cc39, rfl, hl39, hu39⟩
    · skip
      show OwnWP _ _ _ _ _ _ _ _ _ T39 (mkF m 174 #[.val (.int p1), .val (.int p2), .val (.int (2 : Int32)), .val (.ref b21), .unset] [(.int (-1 : Int32))])
      refine ow_istore C A39 at_174 (Ls' := #[.val (.int p1), .val (.int p2), .val (.int (2 : Int32)), .val (.ref b21), .val (.int (-1 : Int32))]) rfl rfl ?_
      refine ow_iload C A39 at_176 rfl rfl ?_
      refine ow_if_ge C A39 at_178 (by decide) (pcY := 183) (by decide) (pcN := 181) rfl (fun z => absurd (by decide) z) (fun _ => ?_)
      refine ow_iconst C A39 at_181 (v := 1) rfl rfl ?_
      refine ow_ireturn C A39 (t := .boolean) rfl rfl (by simp) at_182 (by decide) (by decide) ?_
      exact rfl
    · skip
      show OwnWP _ _ _ _ _ _ _ _ _ T39 (mkF m 174 #[.val (.int p1), .val (.int p2), .val (.int (2 : Int32)), .val (.ref b21), .unset] [(.int cc39)])
      refine ow_istore C A39 at_174 (Ls' := #[.val (.int p1), .val (.int p2), .val (.int (2 : Int32)), .val (.ref b21), .val (.int cc39)]) rfl rfl ?_
      refine ow_iload C A39 at_176 rfl rfl ?_
      refine ow_if_ge C A39 at_178 (by decide) (pcY := 183) (by decide) (pcN := 181) rfl (fun _ => ?_) (fun z => absurd z (own_nlt32 (by show ¬ (cc39.toInt < 0); omega)))
      refine ow_iload C A39 at_183 rfl rfl ?_
      refine ow_callS C A39 (argsL := [(.int cc39)]) (rm_len l Z a0 hw cc39 h35 []) tw_5 tw_6 tw_3 tw_7 (by decide) all0 (by decide) (by decide) (ck' := 1) (sk' := 4) rfl rfl (by decide) (by decide) rfl (lenOf pd_2 rfl) (S := []) rfl (W := 0) (Nat.le_of_eq rfl) at_185 rfl ?_
      intro T40 v40 K40 hQ40 A40
      obtain ⟨rfl, e40⟩ := hQ40
      rw [e40] at A40 K40
      show OwnWP _ _ _ _ _ _ _ _ _ T40 (mkF m 188 #[.val (.int p1), .val (.int p2), .val (.int (2 : Int32)), .val (.ref b21), .val (.int cc39)] [(.int (own_len cc39))])
      refine ow_iloadN C A40 at_188 rfl rfl ?_
      refine ow_icmp_ne C A40 at_189 (by decide) (pcY := 196) (by decide) (pcN := 192) rfl (fun z => absurd (own_L2 _ hl39 hu39) z) (fun _ => ?_)
      refine ow_iconst C A40 at_192 (v := 1) rfl rfl ?_
      refine ow_goto C A40 at_193 (by decide) (pc' := 197) (by decide) ?_
      refine ow_ireturn C A40 (t := .boolean) rfl rfl (by simp) at_197 (by decide) (by decide) ?_
      exact rfl
  · rw [hn]
    refine ow_iconst C A0 at_3 (v := 1) rfl rfl ?_
    refine ow_iadd C A0 at_4 rfl ?_
    show OwnWP _ _ _ _ _ _ _ _ _ T0 (mkF m 5 #[.val (.int p1), .val (.int p2), .unset, .unset, .unset] [(.int (3 : Int32))])
    refine ow_istoreN C A0 at_5 (Ls' := #[.val (.int p1), .val (.int p2), .val (.int (3 : Int32)), .unset, .unset]) rfl rfl ?_
    refine ow_iconst C A0 at_6 (v := 4) rfl rfl ?_
    refine ow_newA C A0 (ty := .byte) rfl tw_0 at_7 rfl (by decide) (cap := 4) (by decide) (by decide) (ck' := 1) (sk' := 4) rfl rfl (by decide) (by decide) ?_
    intro T41 h43 b44 kk45 g46 E47 V48 A42
    have ows_b44 : b44 ∈ ([] : List Addr) ∨ h0.size ≤ b44 := Or.inr (Nat.le_trans (ow_le A0) (Nat.le_of_eq g46.symm))
    have V49 : Arv Z h43 b44 kk45 .byte (4 : Int32) [(.int (0 : Int32)), (.int (0 : Int32)), (.int (0 : Int32)), (.int (0 : Int32))] (.int (0 : Int32)) := V48.pad (pad_rep [] (.int (0 : Int32)) 4)
    refine ow_astoreN C A42 at_9 rfl (Ls' := #[.val (.int p1), .val (.int p2), .val (.int (3 : Int32)), .val (.ref b44), .unset]) rfl rfl ?_
    refine ow_iloadN C A42 at_10 rfl rfl ?_
    refine ow_iconst C A42 at_11 (v := 1) rfl rfl ?_
    refine ow_icmp_ne C A42 at_12 (by decide) (pcY := 26) (by decide) (pcN := 15) rfl (fun _ => ?_) (fun z => absurd z (by decide))
    refine ow_iloadN C A42 at_26 rfl rfl ?_
    refine ow_iconst C A42 at_27 (v := 2) rfl rfl ?_
    refine ow_icmp_ne C A42 at_28 (by decide) (pcY := 61) (by decide) (pcN := 31) rfl (fun _ => ?_) (fun z => absurd z (by decide))
    refine ow_iloadN C A42 at_61 rfl rfl ?_
    refine ow_iconst C A42 at_62 (v := 3) rfl rfl ?_
    refine ow_icmp_ne C A42 at_63 (by decide) (pcY := 111) (by decide) (pcN := 66) rfl (fun z => absurd (by decide) z) (fun _ => ?_)
    refine ow_aloadN C A42 at_66 rfl rfl rfl ?_
    refine ow_iconst C A42 at_67 (v := 0) rfl rfl ?_
    refine ow_sipush C A42 at_68 (v := 224) rfl rfl ?_
    refine ow_iloadN C A42 at_71 rfl rfl ?_
    refine ow_bipush C A42 at_72 (v := 12) rfl rfl ?_
    refine ow_iushr C A42 at_74 rfl ?_
    refine ow_bipush C A42 at_75 (v := 15) rfl rfl ?_
    refine ow_iand C A42 at_77 rfl ?_
    refine ow_ior C A42 at_78 rfl ?_
    refine ow_i2b C A42 at_79 rfl ?_
    refine ow_bastore C A42 V49 ⟨by decide, by decide⟩ (i := 0) rfl (Nat.le_of_ble_eq_true rfl) ows_b44 at_80 rfl ?_
    intro T50 h52 W53 V54 A51
    have V55 : Arv Z h52 b44 kk45 .byte (4 : Int32) [(.int ((224 : Int32) ||| ((own_ushr p2 (12 : Int32)) &&& (15 : Int32))).toInt8.toInt32.toInt8.toInt32), (.int (0 : Int32)), (.int (0 : Int32)), (.int (0 : Int32))] (.int (0 : Int32)) := V54
    refine ow_aloadN C A51 at_81 rfl rfl rfl ?_
    refine ow_iconst C A51 at_82 (v := 1) rfl rfl ?_
    refine ow_sipush C A51 at_83 (v := 128) rfl rfl ?_
    refine ow_iloadN C A51 at_86 rfl rfl ?_
    refine ow_bipush C A51 at_87 (v := 6) rfl rfl ?_
    refine ow_iushr C A51 at_89 rfl ?_
    refine ow_bipush C A51 at_90 (v := 63) rfl rfl ?_
    refine ow_iand C A51 at_92 rfl ?_
    refine ow_ior C A51 at_93 rfl ?_
    refine ow_i2b C A51 at_94 rfl ?_
    refine ow_bastore C A51 V55 ⟨by decide, by decide⟩ (i := 1) rfl (Nat.le_of_ble_eq_true rfl) ows_b44 at_95 rfl ?_
    intro T56 h58 W59 V60 A57
    have V61 : Arv Z h58 b44 kk45 .byte (4 : Int32) [(.int ((224 : Int32) ||| ((own_ushr p2 (12 : Int32)) &&& (15 : Int32))).toInt8.toInt32.toInt8.toInt32), (.int ((128 : Int32) ||| ((own_ushr p2 (6 : Int32)) &&& (63 : Int32))).toInt8.toInt32.toInt8.toInt32), (.int (0 : Int32)), (.int (0 : Int32))] (.int (0 : Int32)) := V60
    refine ow_aloadN C A57 at_96 rfl rfl rfl ?_
    refine ow_iconst C A57 at_97 (v := 2) rfl rfl ?_
    refine ow_sipush C A57 at_98 (v := 128) rfl rfl ?_
    refine ow_iloadN C A57 at_101 rfl rfl ?_
    refine ow_bipush C A57 at_102 (v := 63) rfl rfl ?_
    refine ow_iand C A57 at_104 rfl ?_
    refine ow_ior C A57 at_105 rfl ?_
    refine ow_i2b C A57 at_106 rfl ?_
    refine ow_bastore C A57 V61 ⟨by decide, by decide⟩ (i := 2) rfl (Nat.le_of_ble_eq_true rfl) ows_b44 at_107 rfl ?_
    intro T62 h64 W65 V66 A63
    have V67 : Arv Z h64 b44 kk45 .byte (4 : Int32) [(.int ((224 : Int32) ||| ((own_ushr p2 (12 : Int32)) &&& (15 : Int32))).toInt8.toInt32.toInt8.toInt32), (.int ((128 : Int32) ||| ((own_ushr p2 (6 : Int32)) &&& (63 : Int32))).toInt8.toInt32.toInt8.toInt32), (.int ((128 : Int32) ||| (p2 &&& (63 : Int32))).toInt8.toInt32.toInt8.toInt32), (.int (0 : Int32))] (.int (0 : Int32)) := V66
    refine ow_goto C A63 at_108 (by decide) (pc' := 168) (by decide) ?_
    refine ow_aloadN C A63 at_168 rfl rfl rfl ?_
    refine ow_iconst C A63 at_169 (v := 0) rfl rfl ?_
    refine ow_iloadN C A63 at_170 rfl rfl ?_
    refine ow_callS C A63 (argsL := [(.ref b44), (.int (0 : Int32)), (.int (3 : Int32))]) (rm_cp3 l Z a0 hw b44 kk45 ((224 : Int32) ||| ((own_ushr p2 (12 : Int32)) &&& (15 : Int32))).toInt8.toInt32.toInt8.toInt32 ((224 : Int32) ||| ((own_ushr p2 (12 : Int32)) &&& (15 : Int32))) ((128 : Int32) ||| ((own_ushr p2 (6 : Int32)) &&& (63 : Int32))).toInt8.toInt32.toInt8.toInt32 ((128 : Int32) ||| ((own_ushr p2 (6 : Int32)) &&& (63 : Int32))) ((128 : Int32) ||| (p2 &&& (63 : Int32))).toInt8.toInt32.toInt8.toInt32 ((128 : Int32) ||| (p2 &&& (63 : Int32))) (.int (0 : Int32)) h64 V67 (own_byte ((224 : Int32) ||| ((own_ushr p2 (12 : Int32)) &&& (15 : Int32))) (own_w255 (own_i3 _) (by decide) (by decide))) (own_byte ((128 : Int32) ||| ((own_ushr p2 (6 : Int32)) &&& (63 : Int32))) (own_w255 (own_ic _) (by decide) (by decide))) (own_byte ((128 : Int32) ||| (p2 &&& (63 : Int32))) (own_w255 (own_ic _) (by decide) (by decide))) (own_i3 _) (own_ic _) (own_ic _) []) tw_1 tw_2 tw_3 tw_4 (by decide) all0 (by decide) (by decide) (ck' := 1) (sk' := 4) rfl rfl (by decide) (by decide) rfl (lenOf pd_1 rfl) (S := []) rfl (W := 0) (Nat.le_of_eq rfl) at_171 rfl ?_
    intro T68 v68 K68 hQ68 A68
    obtain ⟨e68, hv68⟩ := hQ68
    rw [e68] at A68 K68
    rcases hv68 with rfl | ⟨cc68, rfl, hl68, hu68⟩
    · skip
      show OwnWP _ _ _ _ _ _ _ _ _ T68 (mkF m 174 #[.val (.int p1), .val (.int p2), .val (.int (3 : Int32)), .val (.ref b44), .unset] [(.int (-1 : Int32))])
      refine ow_istore C A68 at_174 (Ls' := #[.val (.int p1), .val (.int p2), .val (.int (3 : Int32)), .val (.ref b44), .val (.int (-1 : Int32))]) rfl rfl ?_
      refine ow_iload C A68 at_176 rfl rfl ?_
      refine ow_if_ge C A68 at_178 (by decide) (pcY := 183) (by decide) (pcN := 181) rfl (fun z => absurd (by decide) z) (fun _ => ?_)
      refine ow_iconst C A68 at_181 (v := 1) rfl rfl ?_
      refine ow_ireturn C A68 (t := .boolean) rfl rfl (by simp) at_182 (by decide) (by decide) ?_
      exact rfl
    · skip
      show OwnWP _ _ _ _ _ _ _ _ _ T68 (mkF m 174 #[.val (.int p1), .val (.int p2), .val (.int (3 : Int32)), .val (.ref b44), .unset] [(.int cc68)])
      refine ow_istore C A68 at_174 (Ls' := #[.val (.int p1), .val (.int p2), .val (.int (3 : Int32)), .val (.ref b44), .val (.int cc68)]) rfl rfl ?_
      refine ow_iload C A68 at_176 rfl rfl ?_
      refine ow_if_ge C A68 at_178 (by decide) (pcY := 183) (by decide) (pcN := 181) rfl (fun _ => ?_) (fun z => absurd z (own_nlt32 (by show ¬ (cc68.toInt < 0); omega)))
      refine ow_iload C A68 at_183 rfl rfl ?_
      refine ow_callS C A68 (argsL := [(.int cc68)]) (rm_len l Z a0 hw cc68 h64 []) tw_5 tw_6 tw_3 tw_7 (by decide) all0 (by decide) (by decide) (ck' := 1) (sk' := 4) rfl rfl (by decide) (by decide) rfl (lenOf pd_2 rfl) (S := []) rfl (W := 0) (Nat.le_of_eq rfl) at_185 rfl ?_
      intro T69 v69 K69 hQ69 A69
      obtain ⟨rfl, e69⟩ := hQ69
      rw [e69] at A69 K69
      show OwnWP _ _ _ _ _ _ _ _ _ T69 (mkF m 188 #[.val (.int p1), .val (.int p2), .val (.int (3 : Int32)), .val (.ref b44), .val (.int cc68)] [(.int (own_len cc68))])
      refine ow_iloadN C A69 at_188 rfl rfl ?_
      refine ow_icmp_ne C A69 at_189 (by decide) (pcY := 196) (by decide) (pcN := 192) rfl (fun z => absurd (own_L3 _ hl68 hu68) z) (fun _ => ?_)
      refine ow_iconst C A69 at_192 (v := 1) rfl rfl ?_
      refine ow_goto C A69 at_193 (by decide) (pc' := 197) (by decide) ?_
      refine ow_ireturn C A69 (t := .boolean) rfl rfl (by simp) at_197 (by decide) (by decide) ?_
      exact rfl
  · rw [hn]
    refine ow_iconst C A0 at_3 (v := 1) rfl rfl ?_
    refine ow_iadd C A0 at_4 rfl ?_
    show OwnWP _ _ _ _ _ _ _ _ _ T0 (mkF m 5 #[.val (.int p1), .val (.int p2), .unset, .unset, .unset] [(.int (4 : Int32))])
    refine ow_istoreN C A0 at_5 (Ls' := #[.val (.int p1), .val (.int p2), .val (.int (4 : Int32)), .unset, .unset]) rfl rfl ?_
    refine ow_iconst C A0 at_6 (v := 4) rfl rfl ?_
    refine ow_newA C A0 (ty := .byte) rfl tw_0 at_7 rfl (by decide) (cap := 4) (by decide) (by decide) (ck' := 1) (sk' := 4) rfl rfl (by decide) (by decide) ?_
    intro T70 h72 b73 kk74 g75 E76 V77 A71
    have ows_b73 : b73 ∈ ([] : List Addr) ∨ h0.size ≤ b73 := Or.inr (Nat.le_trans (ow_le A0) (Nat.le_of_eq g75.symm))
    have V78 : Arv Z h72 b73 kk74 .byte (4 : Int32) [(.int (0 : Int32)), (.int (0 : Int32)), (.int (0 : Int32)), (.int (0 : Int32))] (.int (0 : Int32)) := V77.pad (pad_rep [] (.int (0 : Int32)) 4)
    refine ow_astoreN C A71 at_9 rfl (Ls' := #[.val (.int p1), .val (.int p2), .val (.int (4 : Int32)), .val (.ref b73), .unset]) rfl rfl ?_
    refine ow_iloadN C A71 at_10 rfl rfl ?_
    refine ow_iconst C A71 at_11 (v := 1) rfl rfl ?_
    refine ow_icmp_ne C A71 at_12 (by decide) (pcY := 26) (by decide) (pcN := 15) rfl (fun _ => ?_) (fun z => absurd z (by decide))
    refine ow_iloadN C A71 at_26 rfl rfl ?_
    refine ow_iconst C A71 at_27 (v := 2) rfl rfl ?_
    refine ow_icmp_ne C A71 at_28 (by decide) (pcY := 61) (by decide) (pcN := 31) rfl (fun _ => ?_) (fun z => absurd z (by decide))
    refine ow_iloadN C A71 at_61 rfl rfl ?_
    refine ow_iconst C A71 at_62 (v := 3) rfl rfl ?_
    refine ow_icmp_ne C A71 at_63 (by decide) (pcY := 111) (by decide) (pcN := 66) rfl (fun _ => ?_) (fun z => absurd z (by decide))
    refine ow_aloadN C A71 at_111 rfl rfl rfl ?_
    refine ow_iconst C A71 at_112 (v := 0) rfl rfl ?_
    refine ow_sipush C A71 at_113 (v := 240) rfl rfl ?_
    refine ow_iloadN C A71 at_116 rfl rfl ?_
    refine ow_bipush C A71 at_117 (v := 18) rfl rfl ?_
    refine ow_iushr C A71 at_119 rfl ?_
    refine ow_bipush C A71 at_120 (v := 7) rfl rfl ?_
    refine ow_iand C A71 at_122 rfl ?_
    refine ow_ior C A71 at_123 rfl ?_
    refine ow_i2b C A71 at_124 rfl ?_
    refine ow_bastore C A71 V78 ⟨by decide, by decide⟩ (i := 0) rfl (Nat.le_of_ble_eq_true rfl) ows_b73 at_125 rfl ?_
    intro T79 h81 W82 V83 A80
    have V84 : Arv Z h81 b73 kk74 .byte (4 : Int32) [(.int ((240 : Int32) ||| ((own_ushr p2 (18 : Int32)) &&& (7 : Int32))).toInt8.toInt32.toInt8.toInt32), (.int (0 : Int32)), (.int (0 : Int32)), (.int (0 : Int32))] (.int (0 : Int32)) := V83
    refine ow_aloadN C A80 at_126 rfl rfl rfl ?_
    refine ow_iconst C A80 at_127 (v := 1) rfl rfl ?_
    refine ow_sipush C A80 at_128 (v := 128) rfl rfl ?_
    refine ow_iloadN C A80 at_131 rfl rfl ?_
    refine ow_bipush C A80 at_132 (v := 12) rfl rfl ?_
    refine ow_iushr C A80 at_134 rfl ?_
    refine ow_bipush C A80 at_135 (v := 63) rfl rfl ?_
    refine ow_iand C A80 at_137 rfl ?_
    refine ow_ior C A80 at_138 rfl ?_
    refine ow_i2b C A80 at_139 rfl ?_
    refine ow_bastore C A80 V84 ⟨by decide, by decide⟩ (i := 1) rfl (Nat.le_of_ble_eq_true rfl) ows_b73 at_140 rfl ?_
    intro T85 h87 W88 V89 A86
    have V90 : Arv Z h87 b73 kk74 .byte (4 : Int32) [(.int ((240 : Int32) ||| ((own_ushr p2 (18 : Int32)) &&& (7 : Int32))).toInt8.toInt32.toInt8.toInt32), (.int ((128 : Int32) ||| ((own_ushr p2 (12 : Int32)) &&& (63 : Int32))).toInt8.toInt32.toInt8.toInt32), (.int (0 : Int32)), (.int (0 : Int32))] (.int (0 : Int32)) := V89
    refine ow_aloadN C A86 at_141 rfl rfl rfl ?_
    refine ow_iconst C A86 at_142 (v := 2) rfl rfl ?_
    refine ow_sipush C A86 at_143 (v := 128) rfl rfl ?_
    refine ow_iloadN C A86 at_146 rfl rfl ?_
    refine ow_bipush C A86 at_147 (v := 6) rfl rfl ?_
    refine ow_iushr C A86 at_149 rfl ?_
    refine ow_bipush C A86 at_150 (v := 63) rfl rfl ?_
    refine ow_iand C A86 at_152 rfl ?_
    refine ow_ior C A86 at_153 rfl ?_
    refine ow_i2b C A86 at_154 rfl ?_
    refine ow_bastore C A86 V90 ⟨by decide, by decide⟩ (i := 2) rfl (Nat.le_of_ble_eq_true rfl) ows_b73 at_155 rfl ?_
    intro T91 h93 W94 V95 A92
    have V96 : Arv Z h93 b73 kk74 .byte (4 : Int32) [(.int ((240 : Int32) ||| ((own_ushr p2 (18 : Int32)) &&& (7 : Int32))).toInt8.toInt32.toInt8.toInt32), (.int ((128 : Int32) ||| ((own_ushr p2 (12 : Int32)) &&& (63 : Int32))).toInt8.toInt32.toInt8.toInt32), (.int ((128 : Int32) ||| ((own_ushr p2 (6 : Int32)) &&& (63 : Int32))).toInt8.toInt32.toInt8.toInt32), (.int (0 : Int32))] (.int (0 : Int32)) := V95
    refine ow_aloadN C A92 at_156 rfl rfl rfl ?_
    refine ow_iconst C A92 at_157 (v := 3) rfl rfl ?_
    refine ow_sipush C A92 at_158 (v := 128) rfl rfl ?_
    refine ow_iloadN C A92 at_161 rfl rfl ?_
    refine ow_bipush C A92 at_162 (v := 63) rfl rfl ?_
    refine ow_iand C A92 at_164 rfl ?_
    refine ow_ior C A92 at_165 rfl ?_
    refine ow_i2b C A92 at_166 rfl ?_
    refine ow_bastore C A92 V96 ⟨by decide, by decide⟩ (i := 3) rfl (Nat.le_of_ble_eq_true rfl) ows_b73 at_167 rfl ?_
    intro T97 h99 W100 V101 A98
    have V102 : Arv Z h99 b73 kk74 .byte (4 : Int32) [(.int ((240 : Int32) ||| ((own_ushr p2 (18 : Int32)) &&& (7 : Int32))).toInt8.toInt32.toInt8.toInt32), (.int ((128 : Int32) ||| ((own_ushr p2 (12 : Int32)) &&& (63 : Int32))).toInt8.toInt32.toInt8.toInt32), (.int ((128 : Int32) ||| ((own_ushr p2 (6 : Int32)) &&& (63 : Int32))).toInt8.toInt32.toInt8.toInt32), (.int ((128 : Int32) ||| (p2 &&& (63 : Int32))).toInt8.toInt32.toInt8.toInt32)] (.int (0 : Int32)) := V101
    refine ow_aloadN C A98 at_168 rfl rfl rfl ?_
    refine ow_iconst C A98 at_169 (v := 0) rfl rfl ?_
    refine ow_iloadN C A98 at_170 rfl rfl ?_
    refine ow_callS C A98 (argsL := [(.ref b73), (.int (0 : Int32)), (.int (4 : Int32))]) (rm_cp4 l Z a0 hw b73 kk74 ((240 : Int32) ||| ((own_ushr p2 (18 : Int32)) &&& (7 : Int32))).toInt8.toInt32.toInt8.toInt32 ((240 : Int32) ||| ((own_ushr p2 (18 : Int32)) &&& (7 : Int32))) ((128 : Int32) ||| ((own_ushr p2 (12 : Int32)) &&& (63 : Int32))).toInt8.toInt32.toInt8.toInt32 ((128 : Int32) ||| ((own_ushr p2 (12 : Int32)) &&& (63 : Int32))) ((128 : Int32) ||| ((own_ushr p2 (6 : Int32)) &&& (63 : Int32))).toInt8.toInt32.toInt8.toInt32 ((128 : Int32) ||| ((own_ushr p2 (6 : Int32)) &&& (63 : Int32))) ((128 : Int32) ||| (p2 &&& (63 : Int32))).toInt8.toInt32.toInt8.toInt32 ((128 : Int32) ||| (p2 &&& (63 : Int32)))  h99 V102 (own_byte ((240 : Int32) ||| ((own_ushr p2 (18 : Int32)) &&& (7 : Int32))) (own_w255 (own_i4 _) (by decide) (by decide))) (own_byte ((128 : Int32) ||| ((own_ushr p2 (12 : Int32)) &&& (63 : Int32))) (own_w255 (own_ic _) (by decide) (by decide))) (own_byte ((128 : Int32) ||| ((own_ushr p2 (6 : Int32)) &&& (63 : Int32))) (own_w255 (own_ic _) (by decide) (by decide))) (own_byte ((128 : Int32) ||| (p2 &&& (63 : Int32))) (own_w255 (own_ic _) (by decide) (by decide))) (own_i4 _) (own_ic _) (own_ic _) (own_ic _) []) tw_1 tw_2 tw_3 tw_4 (by decide) all0 (by decide) (by decide) (ck' := 1) (sk' := 4) rfl rfl (by decide) (by decide) rfl (lenOf pd_1 rfl) (S := []) rfl (W := 0) (Nat.le_of_eq rfl) at_171 rfl ?_
    intro T103 v103 K103 hQ103 A103
    obtain ⟨e103, hv103⟩ := hQ103
    rw [e103] at A103 K103
    rcases hv103 with rfl | ⟨cc103, rfl, hl103, hu103⟩
    · skip
      show OwnWP _ _ _ _ _ _ _ _ _ T103 (mkF m 174 #[.val (.int p1), .val (.int p2), .val (.int (4 : Int32)), .val (.ref b73), .unset] [(.int (-1 : Int32))])
      refine ow_istore C A103 at_174 (Ls' := #[.val (.int p1), .val (.int p2), .val (.int (4 : Int32)), .val (.ref b73), .val (.int (-1 : Int32))]) rfl rfl ?_
      refine ow_iload C A103 at_176 rfl rfl ?_
      refine ow_if_ge C A103 at_178 (by decide) (pcY := 183) (by decide) (pcN := 181) rfl (fun z => absurd (by decide) z) (fun _ => ?_)
      refine ow_iconst C A103 at_181 (v := 1) rfl rfl ?_
      refine ow_ireturn C A103 (t := .boolean) rfl rfl (by simp) at_182 (by decide) (by decide) ?_
      exact rfl
    · skip
      show OwnWP _ _ _ _ _ _ _ _ _ T103 (mkF m 174 #[.val (.int p1), .val (.int p2), .val (.int (4 : Int32)), .val (.ref b73), .unset] [(.int cc103)])
      refine ow_istore C A103 at_174 (Ls' := #[.val (.int p1), .val (.int p2), .val (.int (4 : Int32)), .val (.ref b73), .val (.int cc103)]) rfl rfl ?_
      refine ow_iload C A103 at_176 rfl rfl ?_
      refine ow_if_ge C A103 at_178 (by decide) (pcY := 183) (by decide) (pcN := 181) rfl (fun _ => ?_) (fun z => absurd z (own_nlt32 (by show ¬ (cc103.toInt < 0); omega)))
      refine ow_iload C A103 at_183 rfl rfl ?_
      refine ow_callS C A103 (argsL := [(.int cc103)]) (rm_len l Z a0 hw cc103 h99 []) tw_5 tw_6 tw_3 tw_7 (by decide) all0 (by decide) (by decide) (ck' := 1) (sk' := 4) rfl rfl (by decide) (by decide) rfl (lenOf pd_2 rfl) (S := []) rfl (W := 0) (Nat.le_of_eq rfl) at_185 rfl ?_
      intro T104 v104 K104 hQ104 A104
      obtain ⟨rfl, e104⟩ := hQ104
      rw [e104] at A104 K104
      show OwnWP _ _ _ _ _ _ _ _ _ T104 (mkF m 188 #[.val (.int p1), .val (.int p2), .val (.int (4 : Int32)), .val (.ref b73), .val (.int cc103)] [(.int (own_len cc103))])
      refine ow_iloadN C A104 at_188 rfl rfl ?_
      refine ow_icmp_ne C A104 at_189 (by decide) (pcY := 196) (by decide) (pcN := 192) rfl (fun z => absurd (own_L4 _ hl103) z) (fun _ => ?_)
      refine ow_iconst C A104 at_192 (v := 1) rfl rfl ?_
      refine ow_goto C A104 at_193 (by decide) (pc' := 197) (by decide) ?_
      refine ow_ireturn C A104 (t := .boolean) rfl rfl (by simp) at_197 (by decide) (by decide) ?_
      exact rfl
set_option maxRecDepth 65536 in
set_option maxHeartbeats 40000000 in
theorem comes_1 {Post : Tables → Env → Array Value → State → Outcome → State → Prop} (hpost : ∀ tb e args s v u, (limb_1_1.after args s (.returned v) u = true ∧ limb_1_2.after args s (.returned v) u = true ∧ True) → FrameEnd s (.returned v) u (Jvm.fieldLocs frame_1_writes args s ++ Jvm.arrayLocs frame_1_arrays args s ++ Jvm.staticLocs frame_1_statics s) 16 128 → Post tb e args s (.returned v) u) :
    ArmFor flags0 classFile x code maxLocals ret World_1 tables_1 room_1 Calls_1 rest_1 Pre_1 Post := by
  intro l hfl _ _ p e ha hc hk s m args below hf hA hF happ hP
  obtain ⟨hcalls, hrest, hpre⟩ := hP
  obtain ⟨-, -, -, hnamed, -, -, -, hat⟩ := (Spec.applies_iff hf).mp happ
  obtain ⟨hg, hn⟩ := and_e (Cond.before_iff.mp (show (Jvm.Cond.and given_1 narrow_1).before args s = true from hpre))
  obtain ⟨gg1, gg2⟩ := and_e hg
  obtain ⟨gg3, gg4⟩ := and_e gg2
  obtain ⟨w0, w1, rfl⟩ : ∃ w0 w1 : Value, args = #[w0, w1] := by
    have hs : args.size = 2 := by simpa [Cond.value, given_1] using gg1
    obtain ⟨L⟩ := args
    match L, hs with
    | [w0, w1], _ => exact ⟨w0, w1, rfl⟩
  have hw := fun d (hd : d ∈ tables_1) => atoms_spec (ws := Jvm.Cond.code x code maxLocals ret :: tables_1) hat d (List.mem_cons_of_mem _ hd)
  have hfit : Fit s := fun {y c} hc i hi => by
    obtain ⟨ha, rfl⟩ := Array.getElem?_eq_some_iff.mp hc
    have q := List.all_eq_true.mp ((Array.all_eq_true_iff_forall_mem.mp hF) _ (Array.getElem_mem ha)) i (List.mem_range.mpr hi)
    simpa [Array.getElem?_eq_getElem hi] using q
  obtain ⟨i0, ei0⟩ := is_v gg3
  obtain rfl : w0 = (.int i0) := Option.some.inj ei0
  obtain ⟨i1, ei1⟩ := is_v gg4
  obtain rfl : w1 = (.int i1) := Option.some.inj ei1
  obtain ⟨n, o, h1, h2, h3, _, L, rfl, ⟨N, -, rfl⟩, hq⟩ := rm0 l s _ hw i0 i1 s.heap  tables_1 p e ha hc hk s m _ below hf ((Spec.applies_iff_loose hf).mp happ).1 ⟨rfl, State.Warmed39.refl s, rfl⟩ trivial
  refine ⟨n, _, h1, h2, h3, hpost _ _ _ _ _ _ ⟨Cond.after_iff.mpr rfl, Cond.after_iff.mpr (eq_i res_at (Term.int_eval (1)) rfl), trivial⟩ ⟨hq.1, hq.2.1, (hq.2.2.sift fun y hy => Or.inr ((N y hy).elim (fun q => nomatch q) id)).mono (by decide) (by decide)⟩⟩
theorem main_1_1 : Claimed_1_1 := comes_1 fun _ _ _ _ _ _ h hF => ⟨h.1, hF⟩
theorem main_1_2 : Claimed_1_2 := comes_1 fun _ _ _ _ _ _ h hF => ⟨h.2.1, hF⟩
end Jvm.Pilot.@@N@@
namespace Jvm.Pilot.@@N@@
open Jvm Jvm.ClassFile Sem Op Lib Jvm.Free Jvm.Stand Jvm.Pilot.@@N@@.Jvm.D
/-! MADE BY PROGRAM (witnessworld.py) out of the Statement's table words and the real class files: 10 classes; the members and pool entries that the words name. The judged class is class 1, her method 1. -/
namespace start1
open Jvm.ClassFile
def u (s : String) : CpInfo := .utf8 (stringToUtf16 s)
/-- a pool by its gaps: so many unusable entries, then the entry; so many at the end -/
def gap : Nat → List CpInfo → List CpInfo
  | 0, r => r
  | n + 1, r => .unusable :: gap n r
def poolList (es : List (Nat × CpInfo)) (last : Nat) : List CpInfo := es.foldr (fun e r => gap e.1 (e.2 :: r)) (gap last [])
def pool (es : List (Nat × CpInfo)) (last : Nat) : Array CpInfo := ⟨poolList es last⟩
def fileOf (pool : Array CpInfo) (this : Nat) (attrs : Array Attribute := #[]) (ms : Array MethodInfo := #[]) (fl : Nat := 33) (sup : Nat := 0) (ifs : Array Nat := #[]) (fds : Array FieldInfo := #[]) : ClassFile where
  minorVersion := 0
  majorVersion := 65
  constantPool := pool
  accessFlags := fl
  thisClass := this
  superClass := sup
  interfaces := ifs
  fields := fds
  methods := ms
  attributes := attrs
def plain (name : String) (sup : Option ClassId) : Class where
  name := name
  kind := .ordinary
  loader := none
  accessFlags := 33
  super := sup
  interfaces := #[]
  cf := none
  fields := #[]
  methods := #[]
  instanceTypes := #[]
  staticTypes := #[]
  resolved := #[]
  callSites := []
  init := .initialized
  statics := none
  mirror := none

def pool0 : Array CpInfo := pool [(5, u "<init>"), (0, u "()V"), (1, .class_ 10), (1, u "java/lang/Object")] 113

def k0m0 : Method := { name := "<init>", desc := "()V", sig := { parameters := [], returnType := none }, accessFlags := 1, code := none }
/-- java/lang/Object -/
def k0 : Class := { plain "java/lang/Object" none with
  accessFlags := 33
  interfaces := #[]
  cf := some (fileOf pool0 8 #[] #[{ accessFlags := 1, nameIndex := 5, descriptorIndex := 6, attributes := #[] }] 33 0 #[] #[])
  fields := #[]
  methods := #[k0m0]
  instanceTypes := #[]
  staticTypes := #[]
  resolved := Array.replicate 124 none
  statics := none }

def pool1 : Array CpInfo := pool [(2, .class_ 4), (1, u "java/lang/Object"), (0, u "<init>"), (0, u "()V"), (0, .methodref 8 9), (0, .class_ 10), (0, .nameAndType 11 12), (0, u "com/example/canonwire/canonwire/Utf8"), (0, u "codePointAt"), (0, u "([BII)I"), (0, .methodref 8 14), (0, .nameAndType 15 16), (0, u "length"), (0, u "(I)I"), (0, .class_ 18), (0, u "com/example/canonwire/canonwire/Utf8LengthPinLaw"), (2, u "law"), (0, u "(II)Z")] 5

def k1m0 : Method := { name := "<init>", desc := "()V", sig := { parameters := [], returnType := none }, accessFlags := 2, code := none }
def k1c1 : Code := { maxStack := 5, maxLocals := 5, code := code, exceptionTable := #[], attributes := #[] }
def k1m1 : Method := { name := "law", desc := "(II)Z", sig := { parameters := [.int, .int], returnType := some .boolean }, accessFlags := 9, code := some k1c1 }
/-- com/example/canonwire/canonwire/Utf8LengthPinLaw -/
def k1 : Class := { plain "com/example/canonwire/canonwire/Utf8LengthPinLaw" (some 0) with
  accessFlags := 49
  interfaces := #[]
  cf := some (fileOf pool1 17 #[] #[{ accessFlags := 2, nameIndex := 5, descriptorIndex := 6, attributes := #[] }, { accessFlags := 9, nameIndex := 21, descriptorIndex := 22, attributes := #[] }] 49 2 #[] #[])
  fields := #[]
  methods := #[k1m0, k1m1]
  instanceTypes := #[]
  staticTypes := #[]
  resolved := Array.replicate 28 none
  statics := none }

def pool2 : Array CpInfo := pool [(2, .class_ 4), (1, u "java/lang/Object"), (0, u "<init>"), (0, u "()V"), (0, .methodref 8 9), (0, .class_ 10), (0, .nameAndType 11 12), (0, u "java/lang/Math"), (0, u "min"), (0, u "(II)I"), (1, .class_ 16), (1, u "com/example/canonwire/canonwire/Utf8"), (0, u "codePointAt"), (0, u "([BII)I"), (2, u "length"), (0, u "(I)I"), (0, .integer 65536)] 8

def k2m0 : Method := { name := "<init>", desc := "()V", sig := { parameters := [], returnType := none }, accessFlags := 2, code := none }
def k2c1 : Code := { maxStack := 3, maxLocals := 11, code := prog_47_method_2_code, exceptionTable := #[], attributes := #[] }
def k2m1 : Method := { name := "codePointAt", desc := "([BII)I", sig := { parameters := [(.array .byte), .int, .int], returnType := some .int }, accessFlags := 8, code := some k2c1 }
def k2c2 : Code := { maxStack := 2, maxLocals := 1, code := prog_47_method_5_code, exceptionTable := #[], attributes := #[] }
def k2m2 : Method := { name := "length", desc := "(I)I", sig := { parameters := [.int], returnType := some .int }, accessFlags := 8, code := some k2c2 }
/-- com/example/canonwire/canonwire/Utf8 -/
def k2 : Class := { plain "com/example/canonwire/canonwire/Utf8" (some 0) with
  accessFlags := 48
  interfaces := #[]
  cf := some (fileOf pool2 14 #[] #[{ accessFlags := 2, nameIndex := 5, descriptorIndex := 6, attributes := #[] }, { accessFlags := 8, nameIndex := 17, descriptorIndex := 18, attributes := #[] }, { accessFlags := 8, nameIndex := 21, descriptorIndex := 22, attributes := #[] }] 48 2 #[] #[])
  fields := #[]
  methods := #[k2m0, k2m1, k2m2]
  instanceTypes := #[]
  staticTypes := #[]
  resolved := Array.replicate 32 none
  statics := none }

def pool3 : Array CpInfo := pool [(1, .class_ 2), (0, u "java/lang/Math"), (1, .class_ 6), (1, u "java/lang/Object"), (0, u "<init>"), (0, u "()V"), (89, .class_ 100), (1, u "java/lang/Math$RandomNumberGeneratorHolder"), (71, u "negativeZeroFloatBits"), (0, u "J"), (2, u "negativeZeroDoubleBits"), (24, u "min"), (43, u "$assertionsDisabled"), (0, u "Z"), (88, u "(II)I"), (2, u "twoToTheDoubleScaleDown"), (0, u "D"), (4, u "twoToTheDoubleScaleUp"), (9, u "E"), (3, u "PI"), (2, u "TAU"), (2, u "DEGREES_TO_RADIANS"), (0, u "RADIANS_TO_DEGREES")] 94

def k3m0 : Method := { name := "<init>", desc := "()V", sig := { parameters := [], returnType := none }, accessFlags := 2, code := none }
def k3c1 : Code := { maxStack := 2, maxLocals := 2, code := jdk_29_method_69_code, exceptionTable := #[], attributes := #[] }
def k3m1 : Method := { name := "min", desc := "(II)I", sig := { parameters := [.int, .int], returnType := some .int }, accessFlags := 9, code := some k3c1 }
/-- java/lang/Math -/
def k3 : Class := { plain "java/lang/Math" (some 0) with
  accessFlags := 49
  interfaces := #[]
  cf := some (fileOf pool3 1 #[.nestMembers #[98]] #[{ accessFlags := 2, nameIndex := 7, descriptorIndex := 8, attributes := #[] }, { accessFlags := 9, nameIndex := 201, descriptorIndex := 335, attributes := #[] }] 49 4 #[] #[{ accessFlags := 25, nameIndex := 354, descriptorIndex := 339, attributes := #[] }, { accessFlags := 25, nameIndex := 358, descriptorIndex := 339, attributes := #[] }, { accessFlags := 25, nameIndex := 361, descriptorIndex := 339, attributes := #[] }, { accessFlags := 26, nameIndex := 364, descriptorIndex := 339, attributes := #[] }, { accessFlags := 26, nameIndex := 365, descriptorIndex := 339, attributes := #[] }, { accessFlags := 26, nameIndex := 172, descriptorIndex := 173, attributes := #[] }, { accessFlags := 26, nameIndex := 176, descriptorIndex := 173, attributes := #[] }, { accessFlags := 8, nameIndex := 344, descriptorIndex := 339, attributes := #[] }, { accessFlags := 8, nameIndex := 338, descriptorIndex := 339, attributes := #[] }, { accessFlags := 4120, nameIndex := 245, descriptorIndex := 246, attributes := #[] }])
  fields := #[{ name := "E", type := .double, accessFlags := 25, slot := 0, constantValue := 0 }, { name := "PI", type := .double, accessFlags := 25, slot := 1, constantValue := 0 }, { name := "TAU", type := .double, accessFlags := 25, slot := 2, constantValue := 0 }, { name := "DEGREES_TO_RADIANS", type := .double, accessFlags := 26, slot := 3, constantValue := 0 }, { name := "RADIANS_TO_DEGREES", type := .double, accessFlags := 26, slot := 4, constantValue := 0 }, { name := "negativeZeroFloatBits", type := .long, accessFlags := 26, slot := 5, constantValue := 0 }, { name := "negativeZeroDoubleBits", type := .long, accessFlags := 26, slot := 6, constantValue := 0 }, { name := "twoToTheDoubleScaleUp", type := .double, accessFlags := 8, slot := 7, constantValue := 0 }, { name := "twoToTheDoubleScaleDown", type := .double, accessFlags := 8, slot := 8, constantValue := 0 }, { name := "$assertionsDisabled", type := .boolean, accessFlags := 4120, slot := 9, constantValue := 0 }]
  methods := #[k3m0, k3m1]
  instanceTypes := #[]
  staticTypes := #[.double, .double, .double, .double, .double, .long, .long, .double, .double, .boolean]
  resolved := Array.replicate 460 none
  statics := none }

def pool4 : Array CpInfo := pool [(1, u "java/lang/Cloneable"), (0, .class_ 1), (0, u "java/lang/Object"), (0, .class_ 3)] 3

/-- java/lang/Cloneable -/
def k4 : Class := { plain "java/lang/Cloneable" (some 0) with
  accessFlags := 1537
  interfaces := #[]
  cf := some (fileOf pool4 2 #[] #[] 1537 4 #[] #[])
  fields := #[]
  methods := #[]
  instanceTypes := #[]
  staticTypes := #[]
  resolved := Array.replicate 8 none
  statics := none }

def pool5 : Array CpInfo := pool [(1, u "java/io/Serializable"), (0, .class_ 1), (0, u "java/lang/Object"), (0, .class_ 3)] 3

/-- java/io/Serializable -/
def k5 : Class := { plain "java/io/Serializable" (some 0) with
  accessFlags := 1537
  interfaces := #[]
  cf := some (fileOf pool5 2 #[] #[] 1537 4 #[] #[])
  fields := #[]
  methods := #[]
  instanceTypes := #[]
  staticTypes := #[]
  resolved := Array.replicate 8 none
  statics := none }

/-- the primitive byte -/
def k6 : Class := { plain "byte" none with kind := .primitive 'B', accessFlags := 0x411 }
/-- [B -/
def k7 : Class := { plain "[B" (some 0) with kind := .array 6 .byte, interfaces := #[4, 5], accessFlags := 1041 }

/-- the primitive int -/
def k8 : Class := { plain "int" none with kind := .primitive 'I', accessFlags := 0x411 }
/-- [I -/
def k9 : Class := { plain "[I" (some 0) with kind := .array 8 .int, interfaces := #[4, 5], accessFlags := 1041 }

def heap : Heap := #[]
def classes : Array Class := #[k0, k1, k2, k3, k4, k5, k6, k7, k8, k9]
def interned : List (Array UInt16 × Addr) := []
def slotsUsed : Nat := 0
def theMethod : MethodId := ⟨1, 1⟩
def args0 : Array Value := #[.int 5, .int 5]
def aboutOver (below : List Frame) : State where
  vm := { classes := classes, interned := interned.toArray }
  heap := heap
  slotsUsed := slotsUsed
  threads := #[{ frames := .invoking theMethod args0 :: below }]
def below0 : List Frame := [.native { method := ⟨0, 0⟩, args := #[] }]
def about1 : State := aboutOver below0
def p0 : Program := .bare "" "" ""
def e0 : Env := launch0.env 0 0 0
theorem w_frames : about1.frames = Frame.invoking theMethod args0 :: below0 := rfl
set_option maxRecDepth 65536 in
theorem w_args : argsFit about1.vm theMethod args0 = true := by decide +kernel
set_option maxRecDepth 65536 in
theorem w_heap : heapFits about1 = true := by decide +kernel
set_option maxRecDepth 65536 in
theorem w_runnable : about1.curStatus? = some .runnable := by decide +kernel
set_option maxRecDepth 65536 in
theorem w_alone : about1.alone = true := by decide +kernel
set_option maxRecDepth 65536 in
theorem w_named : about1.methodNamed? x = some theMethod := by decide +kernel
set_option maxRecDepth 65536 in
theorem w_hears : about1.hears theMethod below0 = true := by decide +kernel
set_option maxRecDepth 65536 in
theorem w_ripe : about1.ripe theMethod args0 below0 = true := by decide +kernel
theorem w_running : about1.status = .running := rfl
set_option maxRecDepth 65536 in
theorem w_room : about1.hasRoom e0.platform room_1 = true :=
  launch0.hasRoom_least _ room_1 (by decide +kernel) (by decide +kernel) (by decide +kernel) (by decide +kernel) (by decide +kernel) (by decide +kernel)
theorem allAtoms_all (ts : List Jvm.Cond) (a : Array Jvm.Value) (st : Jvm.State) : (allAtoms ts).before a st = ts.all (fun c => c.before a st) := by
  induction ts with
  | nil => rfl
  | cons c t ih =>
    show (Jvm.Cond.and c (allAtoms t)).before a st = _
    rw [Jvm.Cond.before_and, ih, List.all_cons]
def words1 : List Jvm.Cond := Jvm.Cond.code x code maxLocals ret :: tables_1
/-- a 'code' word, met by the world's own term for the bytes: nothing is compared byte by byte -/
theorem code_word {y : MethodName} {bytes : ByteArray} {mx : Nat} {rt : Option FieldType} {a : Array Value} {s : State} {m : MethodId} {meth : Method} {c : Code} (h1 : s.methodNamed? y = some m) (h2 : s.vm.method? m = some meth) (h3 : meth.code = some c) (h4 : c.code = bytes)
    (h5 : (c.maxLocals == mx && c.exceptionTable.isEmpty && decide (c.maxStack ≤ mostOperands) && decide (meth.sig.returnType = rt) && !meth.locks && decide (parseMethodDescriptor y.desc = some meth.sig)) = true) : (Jvm.Cond.code y bytes mx rt).before a s = true := by
  simp only [Bool.and_eq_true, beq_iff_eq, Bool.not_eq_true', decide_eq_true_eq] at h5
  obtain ⟨⟨⟨⟨⟨g1, g2⟩, g3⟩, g4⟩, g5⟩, g6⟩ := h5
  simp [Cond.before, Cond.holds, Cond.value, h1, h2, h3, h4, g1, g2, g3, g4, g5, g6]
def isCode : Jvm.Cond → Bool
  | .code _ _ _ _ => true
  | _ => false
theorem all_split {L : List Jvm.Cond} {P : Jvm.Cond → Bool} (h1 : L.all (fun c => isCode c || P c) = true) (h2 : ∀ c ∈ L.filter isCode, P c = true) : L.all P = true := by
  refine List.all_eq_true.mpr fun c hc => ?_
  have h := List.all_eq_true.mp h1 c hc
  rcases Bool.eq_false_or_eq_true (isCode c) with hi | hi
  · exact h2 c (List.mem_filter.mpr ⟨hc, hi⟩)
  · simpa [hi] using h
set_option maxRecDepth 65536 in
theorem w_c0 : (Jvm.Cond.code x code maxLocals ret).before args0 about1 = true := code_word (m := ⟨1, 1⟩) (meth := k1m1) (c := k1c1) (by decide +kernel) rfl rfl rfl (by decide +kernel)
set_option maxRecDepth 65536 in
theorem w_c1 : (Jvm.Cond.code ({ cls := "com/example/canonwire/canonwire/Utf8", name := "codePointAt", desc := "([BII)I" } : Jvm.MethodName) prog_47_method_2_code (11 : Nat) (Option.some Jvm.ClassFile.FieldType.int)).before args0 about1 = true := code_word (m := ⟨2, 1⟩) (meth := k2m1) (c := k2c1) (by decide +kernel) rfl rfl rfl (by decide +kernel)
set_option maxRecDepth 65536 in
theorem w_c2 : (Jvm.Cond.code ({ cls := "com/example/canonwire/canonwire/Utf8", name := "length", desc := "(I)I" } : Jvm.MethodName) prog_47_method_5_code (1 : Nat) (Option.some Jvm.ClassFile.FieldType.int)).before args0 about1 = true := code_word (m := ⟨2, 2⟩) (meth := k2m2) (c := k2c2) (by decide +kernel) rfl rfl rfl (by decide +kernel)
set_option maxRecDepth 65536 in
theorem w_c3 : (Jvm.Cond.code ({ cls := "java/lang/Math", name := "min", desc := "(II)I" } : Jvm.MethodName) jdk_29_method_69_code (2 : Nat) (Option.some Jvm.ClassFile.FieldType.int)).before args0 about1 = true := code_word (m := ⟨3, 1⟩) (meth := k3m1) (c := k3c1) (by decide +kernel) rfl rfl rfl (by decide +kernel)
def codes1 : List Jvm.Cond := [Jvm.Cond.code x code maxLocals ret, Jvm.Cond.code ({ cls := "com/example/canonwire/canonwire/Utf8", name := "codePointAt", desc := "([BII)I" } : Jvm.MethodName) prog_47_method_2_code (11 : Nat) (Option.some Jvm.ClassFile.FieldType.int), Jvm.Cond.code ({ cls := "com/example/canonwire/canonwire/Utf8", name := "length", desc := "(I)I" } : Jvm.MethodName) prog_47_method_5_code (1 : Nat) (Option.some Jvm.ClassFile.FieldType.int), Jvm.Cond.code ({ cls := "java/lang/Math", name := "min", desc := "(II)I" } : Jvm.MethodName) jdk_29_method_69_code (2 : Nat) (Option.some Jvm.ClassFile.FieldType.int)]
set_option maxRecDepth 65536 in
theorem codes_eq : words1.filter isCode = codes1 := rfl
theorem w_codes : ∀ c ∈ words1.filter isCode, c.before args0 about1 = true := by
  rw [codes_eq]
  intro c hc
  simp only [codes1, List.mem_cons, List.not_mem_nil, or_false] at hc
  rcases hc with rfl | rfl | rfl | rfl
  · exact w_c0
  · exact w_c1
  · exact w_c2
  · exact w_c3
set_option maxRecDepth 65536 in
theorem w_t1 : words1.all (fun c => isCode c || c.before args0 about1) = true := by decide +kernel
theorem w_tables : (allAtoms (Jvm.Cond.code x code maxLocals ret :: tables_1)).before args0 about1 = true := by
  rw [allAtoms_all]
  show words1.all (fun c => c.before args0 about1) = true
  refine all_split ?_ w_codes
  rw [w_t1]
set_option maxRecDepth 65536 in
theorem w_case : (Jvm.Cond.and given_1 narrow_1).before args0 about1 = true := by decide +kernel
theorem w_applies : (headSpec (Jvm.Cond.code x code maxLocals ret :: tables_1) room_1).applies x e0.platform about1 = true :=
  (Spec.applies_iff w_frames).mpr ⟨w_running, w_runnable, w_alone, w_named, w_hears, w_ripe, w_room, w_tables⟩
theorem atStart : AtStart classFile x code maxLocals ret World_1 tables_1 room_1 Calls_1 rest_1 Pre_1 launch0 p0 e0 about1 theMethod args0 below0 :=
  ⟨lists_1, trivial, launch0.admits_env _ _ _, launch0.least_env, fairChoices_fair.cas, fairChoices_fair.clock, w_frames, w_args, w_heap, w_applies, trivial, trivial, w_case⟩
end start1
theorem witness_1 : WitnessClaimed_1 := ⟨start1.p0, start1.e0, start1.about1, start1.theMethod, start1.args0, start1.below0, start1.atStart⟩
end Jvm.Pilot.@@N@@
