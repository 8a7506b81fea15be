import JvmDerived
import JvmDerived.Pilot.@@N@@Statement
import JvmDerived.Pilot.@@N@@Code
set_option linter.unusedVariables false
set_option linter.unusedSimpArgs false
namespace Jvm.RoadKit
open Sem ClassFile Op Lib Jvm.Stand Jvm.Free Jvm.LawKit
section Own
variable {p : Program} {l : Launch} {e : Env} {R : Room} {s : State} {m : MethodId} {args : Array Value} {below : List Frame} {meth : Method} {c : Code} {T T' : State} {Z : State} {a0 : Array Value} {h h' h0 : Heap} {ws : List Addr} {ck sk CK SK : Nat} {Q : Option Value → Heap → Prop} {bytes : ByteArray} {ml : Nat} {ret : Option FieldType} {y0 : MethodName} {tw : List Jvm.Cond} {pc pc' : Nat} {Ls Ls' : Array Slot} {S : List Value} {g g' : JFrame}
/-- Java's >>> -/
def own_ushr (x y : Int32) : Int32 := (x.toUInt32 >>> (y &&& 31).toUInt32).toInt32
def own_ushrL (x : Int64) (y : Int32) : Int64 := (x.toUInt64 >>> (y &&& 63).toInt64.toUInt64).toInt64
/-- what is known of the method that is walked -/
def OwnCtx (p : Program) (s : State) (m : MethodId) (meth : Method) (c : Code) (Z : State) (a0 : Array Value) (tw : List Jvm.Cond) (y0 : MethodName) (bytes : ByteArray) (ml : Nat) (ret : Option FieldType) : Prop :=
  p.tables.exec = Jvm.exec ∧ Z.Warmed39 s.vm ∧ (∀ d ∈ tw, d.before a0 Z = true) ∧ c.code = bytes ∧ c.maxLocals = ml ∧ s.vm.findClass y0.cls = some m.cls ∧ meth.name = y0.name ∧ meth.sig.returnType = ret ∧ meth.locks = false
/-- where the walk stands: the heap h; of the heap h0 at the entry only the cells at ws may have been written -/
def OwnPos (p : Program) (l : Launch) (e : Env) (R : Room) (s : State) (m : MethodId) (args : Array Value) (below : List Frame) (meth : Method) (c : Code) (h0 : Heap) (ws : List Addr) (T : State) (h : Heap) (ck sk : Nat) : Prop :=
  ∃ locs, Stand p l e R s m args below meth c T locs ck sk ∧ T.heap = h ∧ (∀ y ∈ locs, y.base ∈ ws ∨ h0.size ≤ y.base) ∧ Keep h0 h ws
/-- from here the method returns as Q says -/
def OwnWP (p : Program) (e : Env) (below : List Frame) (s : State) (h0 : Heap) (ws : List Addr) (Q : Option Value → Heap → Prop) (CK SK : Nat) (T : State) (g : JFrame) : Prop :=
  ∃ s₂ o, Steps p.tables e below (T.setTop g) s₂ ∧ s₂.status = .running ∧ Ended s₂ below o ∧ ∃ v L, o = .returned v ∧ ((∀ y ∈ L, y.base ∈ ws ∨ h0.size ≤ y.base) ∧ Keep h0 s₂.heap ws ∧ Q v s₂.heap) ∧ FrameEnd s o s₂ L CK SK
/-- a method's contract -/
def OwnCtr (l : Launch) (Z : State) (y : MethodName) (bytes : ByteArray) (ml : Nat) (ret : Option FieldType) (rm : Room) (as : Array Value) (h0 : Heap) (ws : List Addr) (Q : Option Value → Heap → Prop) (cs : List Jvm.Cond) : Prop :=
  MetFree l y (head1 (Jvm.Cond.code y bytes ml ret :: cs) rm) (fun a U => a = as ∧ Z.Warmed39 U.vm ∧ U.heap = h0) (fun _ _ _ _ _ => True) (fun _ U o U' => ∃ v L, o = .returned v ∧ ((∀ y ∈ L, y.base ∈ ws ∨ h0.size ≤ y.base) ∧ Keep h0 U'.heap ws ∧ Q v U'.heap) ∧ FrameEnd U o U' L rm.cells rm.slots)
theorem ow_le (A : OwnPos p l e R s m args below meth c h0 ws T h ck sk) : h0.size ≤ h.size := by obtain ⟨_, _, _, _, K⟩ := A; exact K.1
theorem ow_st (q : ∀ target, Steps p.tables e below (T'.setTop g') target → Steps p.tables e below (T.setTop g) target) (k : OwnWP p e below s h0 ws Q CK SK T' g') : OwnWP p e below s h0 ws Q CK SK T g := by
  obtain ⟨s₂, o, k1, k2⟩ := k; exact ⟨s₂, o, q _ k1, k2⟩
theorem ow_stT (q : Steps p.tables e below (T.setTop g) (T'.setTop g')) (k : OwnWP p e below s h0 ws Q CK SK T' g') : OwnWP p e below s h0 ws Q CK SK T g := by
  obtain ⟨s₂, o, k1, k2⟩ := k; exact ⟨s₂, o, q.trans k1, k2⟩
theorem ow_mono {Q' : Option Value → Heap → Prop} (q : ∀ v h, Q' v h → Q v h) (k : OwnWP p e below s h0 ws Q' CK SK T g) : OwnWP p e below s h0 ws Q CK SK T g := by
  obtain ⟨s₂, o, k1, k2, k3, v, L, k4, ⟨k5, k6, k7⟩, k8⟩ := k; exact ⟨s₂, o, k1, k2, k3, v, L, k4, ⟨k5, k6, q _ _ k7⟩, k8⟩
theorem ow_ctr {rm : Room} {as : Array Value} {cs : List Jvm.Cond} {Ls : Array Slot} (hp : plainFor y0 = true) (hw : ∀ d ∈ tw, d.before a0 Z = true) (ef : ∀ m, entryFrame m as ml = mkF m 0 Ls [])
    (body : ∀ (p : Program) (e : Env) (s : State) (m : MethodId) (below : List Frame) (meth : Method) (c : Code) (T : State), OwnCtx p s m meth c Z a0 tw y0 bytes ml ret → OwnPos p l e rm s m as below meth c h0 ws T h0 0 0 → OwnWP p e below s h0 ws Q rm.cells rm.slots T (mkF m 0 Ls [])) :
    OwnCtr l Z y0 bytes ml ret rm as h0 ws Q cs := by
  refine MetFree.of_bodySF hp hisR ?_
  intro p e s m args below meth c s₁ Bd hml0 hP hK
  obtain ⟨rfl, hZ, hh⟩ := hP
  have X0 : Stand p l e rm s m _ below meth c s₁ [] 0 0 := Stand.of_body Bd
  have e0 : s₁.heap = h0 := by rw [← hh, Bd.state]; rfl
  have hk : meth.locks = false := BodyLoose.notSynchronized Bd
  obtain ⟨s₂, o, k1, k2⟩ := body p e s m below meth c s₁ ⟨Bd.exec, hZ, hw, Bd.bytes, hml0, findClass_of_methodNamed Bd.named, (name_of_methodNamed Bd.named Bd.method).1, Bd.returns, hk⟩ ⟨[], X0, e0, (fun _ q => nomatch q), Keep.refl _ _⟩
  exact ⟨s₂, o, castTop (ef m) k1, k2⟩
theorem ow_ctr_mono {rm : Room} {as : Array Value} {cs : List Jvm.Cond} {y : MethodName} {Q' : Option Value → Heap → Prop} (M : OwnCtr l Z y bytes ml ret rm as h0 ws Q cs) (q : ∀ v h, Q v h → Q' v h) : OwnCtr l Z y bytes ml ret rm as h0 ws Q' cs := by
  intro p e ha hc hk s m args below hf happ hP hK
  obtain ⟨n, o, h1, h2, h3, v, L, h4, ⟨h5, h6, h7⟩, h8⟩ := M p e ha hc hk s m args below hf happ hP hK
  exact ⟨n, o, h1, h2, h3, v, L, h4, ⟨h5, h6, q _ _ h7⟩, h8⟩
theorem ow_done {v : Option Value} (C : OwnCtx p s m meth c Z a0 tw y0 bytes ml ret) (A : OwnPos p l e R s m args below meth c h0 ws T h ck sk) (hv : ret = none → v = none) (h1 : ck ≤ CK) (h2 : sk ≤ SK) (hq : Q v h)
    (hst : ∀ {locs : List Loc} {fs : List Frame}, Stand p l e R s m args below meth c T locs ck sk → (∀ (f : JFrame) (acts : List Action), f.method = m → f.locked = none → f.entered = [] → (doReturn e (T.setTop f) acts v).1 = T.setFrames fs) → Steps p.tables e below (T.setTop g) (T.setFrames fs)) :
    OwnWP p e below s h0 ws Q CK SK T g := by
  obtain ⟨locs, X, rfl, N, K⟩ := A
  obtain ⟨fs, hr, hrun, hended, hW, hsame⟩ := X.leave (v := v) (fun q => hv (C.2.2.2.2.2.2.2.1.symm.trans q)) C.2.2.2.2.2.2.2.2
  exact ⟨_, _, hst X hr, hrun, hended, _, _, rfl, ⟨N, K, hq⟩, ⟨_, rfl⟩, hW, hsame.mono h1 h2⟩
theorem ow_ireturn (C : OwnCtx p s m meth c Z a0 tw y0 bytes ml ret) (A : OwnPos p l e R s m args below meth c h0 ws T h ck sk) {t : FieldType} {w : Int32} (hret : ret = some t) (hn : narrow t (.int w) = .int w) (hti : t = .int ∨ t = .boolean ∨ t = .byte ∨ t = .char ∨ t = .short)
    (hd : decode bytes pc = .ok (.ireturn, 1)) (h1 : ck ≤ CK) (h2 : sk ≤ SK) (hq : Q (some (.int w)) h) : OwnWP p e below s h0 ws Q CK SK T (mkF m pc Ls [.int w]) :=
  ow_done C A (fun q => by rw [hret] at q; cases q) h1 h2 hq fun X hr => X.ireturnOut C.1 (C.2.2.2.2.2.2.2.1.trans hret) hn hti (hb C.2.2.2.1 hd) hr
theorem ow_lreturn (C : OwnCtx p s m meth c Z a0 tw y0 bytes ml ret) (A : OwnPos p l e R s m args below meth c h0 ws T h ck sk) {w : Int64} (hret : ret = some .long)
    (hd : decode bytes pc = .ok (.lreturn, 1)) (h1 : ck ≤ CK) (h2 : sk ≤ SK) (hq : Q (some (.long w)) h) : OwnWP p e below s h0 ws Q CK SK T (mkF m pc Ls [.long w]) :=
  ow_done C A (fun q => by rw [hret] at q; cases q) h1 h2 hq fun X hr => X.lreturnOut C.1 (C.2.2.2.2.2.2.2.1.trans hret) (hb C.2.2.2.1 hd) hr
theorem ow_areturn (C : OwnCtx p s m meth c Z a0 tw y0 bytes ml ret) (A : OwnPos p l e R s m args below meth c h0 ws T h ck sk) {t : FieldType} {w : Value} (hret : ret = some t) (ht : t.isReference = true) (hw : w.isRef = true)
    (hd : decode bytes pc = .ok (.areturn, 1)) (h1 : ck ≤ CK) (h2 : sk ≤ SK) (hq : Q (some w) h) : OwnWP p e below s h0 ws Q CK SK T (mkF m pc Ls [w]) :=
  ow_done C A (fun q => by rw [hret] at q; cases q) h1 h2 hq fun X hr => X.areturnOut C.1 hw (C.2.2.2.2.2.2.2.1.trans hret) ht (hb C.2.2.2.1 hd) hr
theorem ow_return (C : OwnCtx p s m meth c Z a0 tw y0 bytes ml ret) (A : OwnPos p l e R s m args below meth c h0 ws T h ck sk) (hret : ret = none)
    (hd : decode bytes pc = .ok (.return_, 1)) (h1 : ck ≤ CK) (h2 : sk ≤ SK) (hq : Q none h) : OwnWP p e below s h0 ws Q CK SK T (mkF m pc Ls []) :=
  ow_done C A (fun _ => rfl) h1 h2 hq fun X hr => X.returnOut C.1 (C.2.2.2.2.2.2.2.1.trans hret) (hb C.2.2.2.1 hd) hr
theorem ow_iadd (C : OwnCtx p s m meth c Z a0 tw y0 bytes ml ret) (A : OwnPos p l e R s m args below meth c h0 ws T h ck sk) {x y : Int32} (hd : decode bytes pc = .ok (.iadd, 1)) (hp : pc + 1 = pc') (k : OwnWP p e below s h0 ws Q CK SK T (mkF m pc' Ls (.int (x + y) :: S))) : OwnWP p e below s h0 ws Q CK SK T (mkF m pc Ls (.int y :: .int x :: S)) := by
  obtain ⟨locs, X, -⟩ := A; subst hp
  exact ow_st (fun _ k => XS.iadd X.here C.1 rfl (hb C.2.2.2.1 hd) rfl k) k
theorem ow_isub (C : OwnCtx p s m meth c Z a0 tw y0 bytes ml ret) (A : OwnPos p l e R s m args below meth c h0 ws T h ck sk) {x y : Int32} (hd : decode bytes pc = .ok (.isub, 1)) (hp : pc + 1 = pc') (k : OwnWP p e below s h0 ws Q CK SK T (mkF m pc' Ls (.int (x - y) :: S))) : OwnWP p e below s h0 ws Q CK SK T (mkF m pc Ls (.int y :: .int x :: S)) := by
  obtain ⟨locs, X, -⟩ := A; subst hp
  exact ow_st (fun _ k => XS.isub X.here C.1 rfl (hb C.2.2.2.1 hd) rfl k) k
theorem ow_imul (C : OwnCtx p s m meth c Z a0 tw y0 bytes ml ret) (A : OwnPos p l e R s m args below meth c h0 ws T h ck sk) {x y : Int32} (hd : decode bytes pc = .ok (.imul, 1)) (hp : pc + 1 = pc') (k : OwnWP p e below s h0 ws Q CK SK T (mkF m pc' Ls (.int (x * y) :: S))) : OwnWP p e below s h0 ws Q CK SK T (mkF m pc Ls (.int y :: .int x :: S)) := by
  obtain ⟨locs, X, -⟩ := A; subst hp
  exact ow_st (fun _ k => XS.imul X.here C.1 rfl (hb C.2.2.2.1 hd) rfl k) k
theorem ow_iand (C : OwnCtx p s m meth c Z a0 tw y0 bytes ml ret) (A : OwnPos p l e R s m args below meth c h0 ws T h ck sk) {x y : Int32} (hd : decode bytes pc = .ok (.iand, 1)) (hp : pc + 1 = pc') (k : OwnWP p e below s h0 ws Q CK SK T (mkF m pc' Ls (.int (x &&& y) :: S))) : OwnWP p e below s h0 ws Q CK SK T (mkF m pc Ls (.int y :: .int x :: S)) := by
  obtain ⟨locs, X, -⟩ := A; subst hp
  exact ow_st (fun _ k => XS.iand X.here C.1 rfl (hb C.2.2.2.1 hd) rfl k) k
theorem ow_ior (C : OwnCtx p s m meth c Z a0 tw y0 bytes ml ret) (A : OwnPos p l e R s m args below meth c h0 ws T h ck sk) {x y : Int32} (hd : decode bytes pc = .ok (.ior, 1)) (hp : pc + 1 = pc') (k : OwnWP p e below s h0 ws Q CK SK T (mkF m pc' Ls (.int (x ||| y) :: S))) : OwnWP p e below s h0 ws Q CK SK T (mkF m pc Ls (.int y :: .int x :: S)) := by
  obtain ⟨locs, X, -⟩ := A; subst hp
  exact ow_st (fun _ k => XS.ior X.here C.1 rfl (hb C.2.2.2.1 hd) rfl k) k
theorem ow_ixor (C : OwnCtx p s m meth c Z a0 tw y0 bytes ml ret) (A : OwnPos p l e R s m args below meth c h0 ws T h ck sk) {x y : Int32} (hd : decode bytes pc = .ok (.ixor, 1)) (hp : pc + 1 = pc') (k : OwnWP p e below s h0 ws Q CK SK T (mkF m pc' Ls (.int (x ^^^ y) :: S))) : OwnWP p e below s h0 ws Q CK SK T (mkF m pc Ls (.int y :: .int x :: S)) := by
  obtain ⟨locs, X, -⟩ := A; subst hp
  exact ow_st (fun _ k => XS.ixor X.here C.1 rfl (hb C.2.2.2.1 hd) rfl k) k
theorem ow_ishl (C : OwnCtx p s m meth c Z a0 tw y0 bytes ml ret) (A : OwnPos p l e R s m args below meth c h0 ws T h ck sk) {x y : Int32} (hd : decode bytes pc = .ok (.ishl, 1)) (hp : pc + 1 = pc') (k : OwnWP p e below s h0 ws Q CK SK T (mkF m pc' Ls (.int (x <<< (y &&& 31)) :: S))) : OwnWP p e below s h0 ws Q CK SK T (mkF m pc Ls (.int y :: .int x :: S)) := by
  obtain ⟨locs, X, -⟩ := A; subst hp
  exact ow_st (fun _ k => XS.ishl X.here C.1 rfl (hb C.2.2.2.1 hd) rfl k) k
theorem ow_ishr (C : OwnCtx p s m meth c Z a0 tw y0 bytes ml ret) (A : OwnPos p l e R s m args below meth c h0 ws T h ck sk) {x y : Int32} (hd : decode bytes pc = .ok (.ishr, 1)) (hp : pc + 1 = pc') (k : OwnWP p e below s h0 ws Q CK SK T (mkF m pc' Ls (.int (x >>> (y &&& 31)) :: S))) : OwnWP p e below s h0 ws Q CK SK T (mkF m pc Ls (.int y :: .int x :: S)) := by
  obtain ⟨locs, X, -⟩ := A; subst hp
  exact ow_st (fun _ k => XS.ishr X.here C.1 rfl (hb C.2.2.2.1 hd) rfl k) k
theorem ow_iushr (C : OwnCtx p s m meth c Z a0 tw y0 bytes ml ret) (A : OwnPos p l e R s m args below meth c h0 ws T h ck sk) {x y : Int32} (hd : decode bytes pc = .ok (.iushr, 1)) (hp : pc + 1 = pc') (k : OwnWP p e below s h0 ws Q CK SK T (mkF m pc' Ls (.int (own_ushr x y) :: S))) : OwnWP p e below s h0 ws Q CK SK T (mkF m pc Ls (.int y :: .int x :: S)) := by
  obtain ⟨locs, X, -⟩ := A; subst hp
  exact ow_st (fun _ k => XS.iushr X.here C.1 rfl (hb C.2.2.2.1 hd) rfl k) k
theorem ow_ladd (C : OwnCtx p s m meth c Z a0 tw y0 bytes ml ret) (A : OwnPos p l e R s m args below meth c h0 ws T h ck sk) {x y : Int64} (hd : decode bytes pc = .ok (.ladd, 1)) (hp : pc + 1 = pc') (k : OwnWP p e below s h0 ws Q CK SK T (mkF m pc' Ls (.long (x + y) :: S))) : OwnWP p e below s h0 ws Q CK SK T (mkF m pc Ls (.long y :: .long x :: S)) := by
  obtain ⟨locs, X, -⟩ := A; subst hp
  exact ow_st (fun _ k => XS.ladd X.here C.1 rfl (hb C.2.2.2.1 hd) rfl k) k
theorem ow_lsub (C : OwnCtx p s m meth c Z a0 tw y0 bytes ml ret) (A : OwnPos p l e R s m args below meth c h0 ws T h ck sk) {x y : Int64} (hd : decode bytes pc = .ok (.lsub, 1)) (hp : pc + 1 = pc') (k : OwnWP p e below s h0 ws Q CK SK T (mkF m pc' Ls (.long (x - y) :: S))) : OwnWP p e below s h0 ws Q CK SK T (mkF m pc Ls (.long y :: .long x :: S)) := by
  obtain ⟨locs, X, -⟩ := A; subst hp
  exact ow_st (fun _ k => XS.lsub X.here C.1 rfl (hb C.2.2.2.1 hd) rfl k) k
theorem ow_lmul (C : OwnCtx p s m meth c Z a0 tw y0 bytes ml ret) (A : OwnPos p l e R s m args below meth c h0 ws T h ck sk) {x y : Int64} (hd : decode bytes pc = .ok (.lmul, 1)) (hp : pc + 1 = pc') (k : OwnWP p e below s h0 ws Q CK SK T (mkF m pc' Ls (.long (x * y) :: S))) : OwnWP p e below s h0 ws Q CK SK T (mkF m pc Ls (.long y :: .long x :: S)) := by
  obtain ⟨locs, X, -⟩ := A; subst hp
  exact ow_st (fun _ k => XS.lmul X.here C.1 rfl (hb C.2.2.2.1 hd) rfl k) k
theorem ow_land (C : OwnCtx p s m meth c Z a0 tw y0 bytes ml ret) (A : OwnPos p l e R s m args below meth c h0 ws T h ck sk) {x y : Int64} (hd : decode bytes pc = .ok (.land, 1)) (hp : pc + 1 = pc') (k : OwnWP p e below s h0 ws Q CK SK T (mkF m pc' Ls (.long (x &&& y) :: S))) : OwnWP p e below s h0 ws Q CK SK T (mkF m pc Ls (.long y :: .long x :: S)) := by
  obtain ⟨locs, X, -⟩ := A; subst hp
  exact ow_st (fun _ k => XS.land X.here C.1 rfl (hb C.2.2.2.1 hd) rfl k) k
theorem ow_lor (C : OwnCtx p s m meth c Z a0 tw y0 bytes ml ret) (A : OwnPos p l e R s m args below meth c h0 ws T h ck sk) {x y : Int64} (hd : decode bytes pc = .ok (.lor, 1)) (hp : pc + 1 = pc') (k : OwnWP p e below s h0 ws Q CK SK T (mkF m pc' Ls (.long (x ||| y) :: S))) : OwnWP p e below s h0 ws Q CK SK T (mkF m pc Ls (.long y :: .long x :: S)) := by
  obtain ⟨locs, X, -⟩ := A; subst hp
  exact ow_st (fun _ k => XS.lor X.here C.1 rfl (hb C.2.2.2.1 hd) rfl k) k
theorem ow_lxor (C : OwnCtx p s m meth c Z a0 tw y0 bytes ml ret) (A : OwnPos p l e R s m args below meth c h0 ws T h ck sk) {x y : Int64} (hd : decode bytes pc = .ok (.lxor, 1)) (hp : pc + 1 = pc') (k : OwnWP p e below s h0 ws Q CK SK T (mkF m pc' Ls (.long (x ^^^ y) :: S))) : OwnWP p e below s h0 ws Q CK SK T (mkF m pc Ls (.long y :: .long x :: S)) := by
  obtain ⟨locs, X, -⟩ := A; subst hp
  exact ow_st (fun _ k => XS.lxor X.here C.1 rfl (hb C.2.2.2.1 hd) rfl k) k
theorem ow_lshl (C : OwnCtx p s m meth c Z a0 tw y0 bytes ml ret) (A : OwnPos p l e R s m args below meth c h0 ws T h ck sk) {x : Int64} {y : Int32} (hd : decode bytes pc = .ok (.lshl, 1)) (hp : pc + 1 = pc') (k : OwnWP p e below s h0 ws Q CK SK T (mkF m pc' Ls (.long (x <<< (y &&& 63).toInt64) :: S))) : OwnWP p e below s h0 ws Q CK SK T (mkF m pc Ls (.int y :: .long x :: S)) := by
  obtain ⟨locs, X, -⟩ := A; subst hp
  exact ow_st (fun _ k => XS.lshl X.here C.1 rfl (hb C.2.2.2.1 hd) rfl k) k
theorem ow_lshr (C : OwnCtx p s m meth c Z a0 tw y0 bytes ml ret) (A : OwnPos p l e R s m args below meth c h0 ws T h ck sk) {x : Int64} {y : Int32} (hd : decode bytes pc = .ok (.lshr, 1)) (hp : pc + 1 = pc') (k : OwnWP p e below s h0 ws Q CK SK T (mkF m pc' Ls (.long (x >>> (y &&& 63).toInt64) :: S))) : OwnWP p e below s h0 ws Q CK SK T (mkF m pc Ls (.int y :: .long x :: S)) := by
  obtain ⟨locs, X, -⟩ := A; subst hp
  exact ow_st (fun _ k => XS.lshr X.here C.1 rfl (hb C.2.2.2.1 hd) rfl k) k
theorem ow_lushr (C : OwnCtx p s m meth c Z a0 tw y0 bytes ml ret) (A : OwnPos p l e R s m args below meth c h0 ws T h ck sk) {x : Int64} {y : Int32} (hd : decode bytes pc = .ok (.lushr, 1)) (hp : pc + 1 = pc') (k : OwnWP p e below s h0 ws Q CK SK T (mkF m pc' Ls (.long (own_ushrL x y) :: S))) : OwnWP p e below s h0 ws Q CK SK T (mkF m pc Ls (.int y :: .long x :: S)) := by
  obtain ⟨locs, X, -⟩ := A; subst hp
  exact ow_st (fun _ k => XS.lushr X.here C.1 rfl (hb C.2.2.2.1 hd) rfl k) k
theorem ow_idiv (C : OwnCtx p s m meth c Z a0 tw y0 bytes ml ret) (A : OwnPos p l e R s m args below meth c h0 ws T h ck sk) {x y : Int32} (hd : decode bytes pc = .ok (.idiv, 1)) (hy : y ≠ 0) (hp : pc + 1 = pc') (k : OwnWP p e below s h0 ws Q CK SK T (mkF m pc' Ls (.int (x / y) :: S))) : OwnWP p e below s h0 ws Q CK SK T (mkF m pc Ls (.int y :: .int x :: S)) := by
  obtain ⟨locs, X, -⟩ := A; subst hp
  exact ow_st (fun _ k => XS.idiv X.here C.1 rfl (hb C.2.2.2.1 hd) rfl hy k) k
theorem ow_irem (C : OwnCtx p s m meth c Z a0 tw y0 bytes ml ret) (A : OwnPos p l e R s m args below meth c h0 ws T h ck sk) {x y : Int32} (hd : decode bytes pc = .ok (.irem, 1)) (hy : y ≠ 0) (hp : pc + 1 = pc') (k : OwnWP p e below s h0 ws Q CK SK T (mkF m pc' Ls (.int (x % y) :: S))) : OwnWP p e below s h0 ws Q CK SK T (mkF m pc Ls (.int y :: .int x :: S)) := by
  obtain ⟨locs, X, -⟩ := A; subst hp
  exact ow_st (fun _ k => iremM X C.1 rfl (hb C.2.2.2.1 hd) rfl hy k) k
theorem ow_ldiv (C : OwnCtx p s m meth c Z a0 tw y0 bytes ml ret) (A : OwnPos p l e R s m args below meth c h0 ws T h ck sk) {x y : Int64} (hd : decode bytes pc = .ok (.ldiv, 1)) (hy : y ≠ 0) (hp : pc + 1 = pc') (k : OwnWP p e below s h0 ws Q CK SK T (mkF m pc' Ls (.long (x / y) :: S))) : OwnWP p e below s h0 ws Q CK SK T (mkF m pc Ls (.long y :: .long x :: S)) := by
  obtain ⟨locs, X, -⟩ := A; subst hp
  exact ow_st (fun _ k => XS.ldiv X.here C.1 rfl (hb C.2.2.2.1 hd) rfl hy k) k
theorem ow_lrem (C : OwnCtx p s m meth c Z a0 tw y0 bytes ml ret) (A : OwnPos p l e R s m args below meth c h0 ws T h ck sk) {x y : Int64} (hd : decode bytes pc = .ok (.lrem, 1)) (hy : y ≠ 0) (hp : pc + 1 = pc') (k : OwnWP p e below s h0 ws Q CK SK T (mkF m pc' Ls (.long (x % y) :: S))) : OwnWP p e below s h0 ws Q CK SK T (mkF m pc Ls (.long y :: .long x :: S)) := by
  obtain ⟨locs, X, -⟩ := A; subst hp
  exact ow_st (fun _ k => XS.lrem X.here C.1 rfl (hb C.2.2.2.1 hd) rfl hy (by rw [lrem_mod]; exact k)) k
theorem ow_ineg (C : OwnCtx p s m meth c Z a0 tw y0 bytes ml ret) (A : OwnPos p l e R s m args below meth c h0 ws T h ck sk) {x : Int32} (hd : decode bytes pc = .ok (.ineg, 1)) (hp : pc + 1 = pc') (k : OwnWP p e below s h0 ws Q CK SK T (mkF m pc' Ls (.int (-x) :: S))) : OwnWP p e below s h0 ws Q CK SK T (mkF m pc Ls (.int x :: S)) := by
  obtain ⟨locs, X, -⟩ := A; subst hp
  exact ow_st (fun _ k => XS.ineg X.here C.1 rfl (hb C.2.2.2.1 hd) rfl k) k
theorem ow_lneg (C : OwnCtx p s m meth c Z a0 tw y0 bytes ml ret) (A : OwnPos p l e R s m args below meth c h0 ws T h ck sk) {x : Int64} (hd : decode bytes pc = .ok (.lneg, 1)) (hp : pc + 1 = pc') (k : OwnWP p e below s h0 ws Q CK SK T (mkF m pc' Ls (.long (-x) :: S))) : OwnWP p e below s h0 ws Q CK SK T (mkF m pc Ls (.long x :: S)) := by
  obtain ⟨locs, X, -⟩ := A; subst hp
  exact ow_st (fun _ k => XS.lneg X.here C.1 rfl (hb C.2.2.2.1 hd) rfl k) k
theorem ow_i2l (C : OwnCtx p s m meth c Z a0 tw y0 bytes ml ret) (A : OwnPos p l e R s m args below meth c h0 ws T h ck sk) {x : Int32} (hd : decode bytes pc = .ok (.i2l, 1)) (hp : pc + 1 = pc') (k : OwnWP p e below s h0 ws Q CK SK T (mkF m pc' Ls (.long x.toInt64 :: S))) : OwnWP p e below s h0 ws Q CK SK T (mkF m pc Ls (.int x :: S)) := by
  obtain ⟨locs, X, -⟩ := A; subst hp
  exact ow_st (fun _ k => XS.i2l X.here C.1 rfl (hb C.2.2.2.1 hd) rfl k) k
theorem ow_l2i (C : OwnCtx p s m meth c Z a0 tw y0 bytes ml ret) (A : OwnPos p l e R s m args below meth c h0 ws T h ck sk) {x : Int64} (hd : decode bytes pc = .ok (.l2i, 1)) (hp : pc + 1 = pc') (k : OwnWP p e below s h0 ws Q CK SK T (mkF m pc' Ls (.int x.toInt32 :: S))) : OwnWP p e below s h0 ws Q CK SK T (mkF m pc Ls (.long x :: S)) := by
  obtain ⟨locs, X, -⟩ := A; subst hp
  exact ow_st (fun _ k => XS.l2i X.here C.1 rfl (hb C.2.2.2.1 hd) rfl k) k
theorem ow_i2b (C : OwnCtx p s m meth c Z a0 tw y0 bytes ml ret) (A : OwnPos p l e R s m args below meth c h0 ws T h ck sk) {x : Int32} (hd : decode bytes pc = .ok (.i2b, 1)) (hp : pc + 1 = pc') (k : OwnWP p e below s h0 ws Q CK SK T (mkF m pc' Ls (.int x.toInt8.toInt32 :: S))) : OwnWP p e below s h0 ws Q CK SK T (mkF m pc Ls (.int x :: S)) := by
  obtain ⟨locs, X, -⟩ := A; subst hp
  exact ow_st (fun _ k => XS.i2b X.here C.1 rfl (hb C.2.2.2.1 hd) rfl k) k
theorem ow_i2s (C : OwnCtx p s m meth c Z a0 tw y0 bytes ml ret) (A : OwnPos p l e R s m args below meth c h0 ws T h ck sk) {x : Int32} (hd : decode bytes pc = .ok (.i2s, 1)) (hp : pc + 1 = pc') (k : OwnWP p e below s h0 ws Q CK SK T (mkF m pc' Ls (.int x.toInt16.toInt32 :: S))) : OwnWP p e below s h0 ws Q CK SK T (mkF m pc Ls (.int x :: S)) := by
  obtain ⟨locs, X, -⟩ := A; subst hp
  exact ow_st (fun _ k => XS.i2s X.here C.1 rfl (hb C.2.2.2.1 hd) rfl k) k
theorem ow_i2c (C : OwnCtx p s m meth c Z a0 tw y0 bytes ml ret) (A : OwnPos p l e R s m args below meth c h0 ws T h ck sk) {x : Int32} (hd : decode bytes pc = .ok (.i2c, 1)) (hp : pc + 1 = pc') (k : OwnWP p e below s h0 ws Q CK SK T (mkF m pc' Ls (.int x.toUInt32.toUInt16.toUInt32.toInt32 :: S))) : OwnWP p e below s h0 ws Q CK SK T (mkF m pc Ls (.int x :: S)) := by
  obtain ⟨locs, X, -⟩ := A; subst hp
  exact ow_st (fun _ k => XS.i2c X.here C.1 rfl (hb C.2.2.2.1 hd) rfl k) k
theorem ow_iconst (C : OwnCtx p s m meth c Z a0 tw y0 bytes ml ret) (A : OwnPos p l e R s m args below meth c h0 ws T h ck sk) {i : Int} {v : Int32} (hd : decode bytes pc = .ok (.iconst i, 1)) (hv : Int32.ofInt i = v) (hp : pc + 1 = pc') (k : OwnWP p e below s h0 ws Q CK SK T (mkF m pc' Ls (.int v :: S))) : OwnWP p e below s h0 ws Q CK SK T (mkF m pc Ls (S)) := by
  obtain ⟨locs, X, -⟩ := A; subst hp
  exact ow_st (fun _ k => by subst hv; exact XS.iconst X.here C.1 rfl (hb C.2.2.2.1 hd) k) k
theorem ow_bipush (C : OwnCtx p s m meth c Z a0 tw y0 bytes ml ret) (A : OwnPos p l e R s m args below meth c h0 ws T h ck sk) {i : Int} {v : Int32} (hd : decode bytes pc = .ok (.bipush i, 2)) (hv : (Int8.ofInt i).toInt32 = v) (hp : pc + 2 = pc') (k : OwnWP p e below s h0 ws Q CK SK T (mkF m pc' Ls (.int v :: S))) : OwnWP p e below s h0 ws Q CK SK T (mkF m pc Ls (S)) := by
  obtain ⟨locs, X, -⟩ := A; subst hp
  exact ow_st (fun _ k => by subst hv; exact XS.bipush X.here C.1 rfl (hb C.2.2.2.1 hd) k) k
theorem ow_sipush (C : OwnCtx p s m meth c Z a0 tw y0 bytes ml ret) (A : OwnPos p l e R s m args below meth c h0 ws T h ck sk) {i : Int} {v : Int32} (hd : decode bytes pc = .ok (.sipush i, 3)) (hv : (Int16.ofInt i).toInt32 = v) (hp : pc + 3 = pc') (k : OwnWP p e below s h0 ws Q CK SK T (mkF m pc' Ls (.int v :: S))) : OwnWP p e below s h0 ws Q CK SK T (mkF m pc Ls (S)) := by
  obtain ⟨locs, X, -⟩ := A; subst hp
  exact ow_st (fun _ k => by subst hv; exact XS.sipush X.here C.1 rfl (hb C.2.2.2.1 hd) k) k
theorem ow_lconst (C : OwnCtx p s m meth c Z a0 tw y0 bytes ml ret) (A : OwnPos p l e R s m args below meth c h0 ws T h ck sk) {i : Fin 2} {v : Int64} (hd : decode bytes pc = .ok (.lconst i, 1)) (hv : Int64.ofNat i = v) (hp : pc + 1 = pc') (k : OwnWP p e below s h0 ws Q CK SK T (mkF m pc' Ls (.long v :: S))) : OwnWP p e below s h0 ws Q CK SK T (mkF m pc Ls (S)) := by
  obtain ⟨locs, X, -⟩ := A; subst hp
  exact ow_st (fun _ k => by subst hv; exact XS.lconst X.here C.1 rfl (hb C.2.2.2.1 hd) k) k
theorem ow_aconst_null (C : OwnCtx p s m meth c Z a0 tw y0 bytes ml ret) (A : OwnPos p l e R s m args below meth c h0 ws T h ck sk)  (hd : decode bytes pc = .ok (.aconst_null, 1)) (hp : pc + 1 = pc') (k : OwnWP p e below s h0 ws Q CK SK T (mkF m pc' Ls (.null :: S))) : OwnWP p e below s h0 ws Q CK SK T (mkF m pc Ls (S)) := by
  obtain ⟨locs, X, -⟩ := A; subst hp
  exact ow_st (fun _ k => XS.aconstNull X.here C.1 rfl (hb C.2.2.2.1 hd) k) k
theorem ow_iload (C : OwnCtx p s m meth c Z a0 tw y0 bytes ml ret) (A : OwnPos p l e R s m args below meth c h0 ws T h ck sk) {j : Nat} {v : Int32} (hd : decode bytes pc = .ok (.iload j, 2)) (hl : Ls[j]? = some (.val (.int v))) (hp : pc + 2 = pc') (k : OwnWP p e below s h0 ws Q CK SK T (mkF m pc' Ls (.int v :: S))) : OwnWP p e below s h0 ws Q CK SK T (mkF m pc Ls (S)) := by
  obtain ⟨locs, X, -⟩ := A; subst hp
  exact ow_st (fun _ k => XS.iload X.here C.1 rfl (hb C.2.2.2.1 hd) hl k) k
theorem ow_iloadN (C : OwnCtx p s m meth c Z a0 tw y0 bytes ml ret) (A : OwnPos p l e R s m args below meth c h0 ws T h ck sk) {j : Fin 4} {v : Int32} (hd : decode bytes pc = .ok (.iload_n j, 1)) (hl : Ls[j.val]? = some (.val (.int v))) (hp : pc + 1 = pc') (k : OwnWP p e below s h0 ws Q CK SK T (mkF m pc' Ls (.int v :: S))) : OwnWP p e below s h0 ws Q CK SK T (mkF m pc Ls (S)) := by
  obtain ⟨locs, X, -⟩ := A; subst hp
  exact ow_st (fun _ k => XS.iloadN X.here C.1 rfl (hb C.2.2.2.1 hd) hl k) k
theorem ow_lload (C : OwnCtx p s m meth c Z a0 tw y0 bytes ml ret) (A : OwnPos p l e R s m args below meth c h0 ws T h ck sk) {j : Nat} {v : Int64} (hd : decode bytes pc = .ok (.lload j, 2)) (hl : Ls[j]? = some (.val (.long v))) (hp : pc + 2 = pc') (k : OwnWP p e below s h0 ws Q CK SK T (mkF m pc' Ls (.long v :: S))) : OwnWP p e below s h0 ws Q CK SK T (mkF m pc Ls (S)) := by
  obtain ⟨locs, X, -⟩ := A; subst hp
  exact ow_st (fun _ k => XS.lload X.here C.1 rfl (hb C.2.2.2.1 hd) hl k) k
theorem ow_lloadN (C : OwnCtx p s m meth c Z a0 tw y0 bytes ml ret) (A : OwnPos p l e R s m args below meth c h0 ws T h ck sk) {j : Fin 4} {v : Int64} (hd : decode bytes pc = .ok (.lload_n j, 1)) (hl : Ls[j.val]? = some (.val (.long v))) (hp : pc + 1 = pc') (k : OwnWP p e below s h0 ws Q CK SK T (mkF m pc' Ls (.long v :: S))) : OwnWP p e below s h0 ws Q CK SK T (mkF m pc Ls (S)) := by
  obtain ⟨locs, X, -⟩ := A; subst hp
  exact ow_st (fun _ k => XS.lloadN X.here C.1 rfl (hb C.2.2.2.1 hd) hl k) k
theorem ow_aload (C : OwnCtx p s m meth c Z a0 tw y0 bytes ml ret) (A : OwnPos p l e R s m args below meth c h0 ws T h ck sk) {j : Nat} {v : Value} (hd : decode bytes pc = .ok (.aload j, 2)) (hl : Ls[j]? = some (.val v)) (hv : v.isRef = true) (hp : pc + 2 = pc') (k : OwnWP p e below s h0 ws Q CK SK T (mkF m pc' Ls (v :: S))) : OwnWP p e below s h0 ws Q CK SK T (mkF m pc Ls (S)) := by
  obtain ⟨locs, X, -⟩ := A; subst hp
  exact ow_st (fun _ k => XS.aload X.here C.1 rfl (hb C.2.2.2.1 hd) hl hv k) k
theorem ow_aloadN (C : OwnCtx p s m meth c Z a0 tw y0 bytes ml ret) (A : OwnPos p l e R s m args below meth c h0 ws T h ck sk) {j : Fin 4} {v : Value} (hd : decode bytes pc = .ok (.aload_n j, 1)) (hl : Ls[j.val]? = some (.val v)) (hv : v.isRef = true) (hp : pc + 1 = pc') (k : OwnWP p e below s h0 ws Q CK SK T (mkF m pc' Ls (v :: S))) : OwnWP p e below s h0 ws Q CK SK T (mkF m pc Ls (S)) := by
  obtain ⟨locs, X, -⟩ := A; subst hp
  exact ow_st (fun _ k => XS.aloadN X.here C.1 rfl (hb C.2.2.2.1 hd) hl hv k) k
theorem ow_istore (C : OwnCtx p s m meth c Z a0 tw y0 bytes ml ret) (A : OwnPos p l e R s m args below meth c h0 ws T h ck sk) {j : Nat} {v : Int32} (hd : decode bytes pc = .ok (.istore j, 2)) (hl : storeLocals Ls j (.int v) = some Ls') (hp : pc + 2 = pc') (k : OwnWP p e below s h0 ws Q CK SK T (mkF m pc' Ls' (S))) : OwnWP p e below s h0 ws Q CK SK T (mkF m pc Ls (.int v :: S)) := by
  obtain ⟨locs, X, -⟩ := A; subst hp
  exact ow_st (fun _ k => XS.istore X.here C.1 rfl (hb C.2.2.2.1 hd) rfl hl k) k
theorem ow_istoreN (C : OwnCtx p s m meth c Z a0 tw y0 bytes ml ret) (A : OwnPos p l e R s m args below meth c h0 ws T h ck sk) {j : Fin 4} {v : Int32} (hd : decode bytes pc = .ok (.istore_n j, 1)) (hl : storeLocals Ls j.val (.int v) = some Ls') (hp : pc + 1 = pc') (k : OwnWP p e below s h0 ws Q CK SK T (mkF m pc' Ls' (S))) : OwnWP p e below s h0 ws Q CK SK T (mkF m pc Ls (.int v :: S)) := by
  obtain ⟨locs, X, -⟩ := A; subst hp
  exact ow_st (fun _ k => XS.istoreN X.here C.1 rfl (hb C.2.2.2.1 hd) rfl hl k) k
theorem ow_lstore (C : OwnCtx p s m meth c Z a0 tw y0 bytes ml ret) (A : OwnPos p l e R s m args below meth c h0 ws T h ck sk) {j : Nat} {v : Int64} (hd : decode bytes pc = .ok (.lstore j, 2)) (hl : storeLocals Ls j (.long v) = some Ls') (hp : pc + 2 = pc') (k : OwnWP p e below s h0 ws Q CK SK T (mkF m pc' Ls' (S))) : OwnWP p e below s h0 ws Q CK SK T (mkF m pc Ls (.long v :: S)) := by
  obtain ⟨locs, X, -⟩ := A; subst hp
  exact ow_st (fun _ k => XS.lstore X.here C.1 rfl (hb C.2.2.2.1 hd) rfl hl k) k
theorem ow_lstoreN (C : OwnCtx p s m meth c Z a0 tw y0 bytes ml ret) (A : OwnPos p l e R s m args below meth c h0 ws T h ck sk) {j : Fin 4} {v : Int64} (hd : decode bytes pc = .ok (.lstore_n j, 1)) (hl : storeLocals Ls j.val (.long v) = some Ls') (hp : pc + 1 = pc') (k : OwnWP p e below s h0 ws Q CK SK T (mkF m pc' Ls' (S))) : OwnWP p e below s h0 ws Q CK SK T (mkF m pc Ls (.long v :: S)) := by
  obtain ⟨locs, X, -⟩ := A; subst hp
  exact ow_st (fun _ k => XS.lstoreN X.here C.1 rfl (hb C.2.2.2.1 hd) rfl hl k) k
theorem ow_astore (C : OwnCtx p s m meth c Z a0 tw y0 bytes ml ret) (A : OwnPos p l e R s m args below meth c h0 ws T h ck sk) {j : Nat} {v : Value} (hd : decode bytes pc = .ok (.astore j, 2)) (hv : v.isRef = true) (hl : storeLocals Ls j v = some Ls') (hp : pc + 2 = pc') (k : OwnWP p e below s h0 ws Q CK SK T (mkF m pc' Ls' (S))) : OwnWP p e below s h0 ws Q CK SK T (mkF m pc Ls (v :: S)) := by
  obtain ⟨locs, X, -⟩ := A; subst hp
  exact ow_st (fun _ k => XS.astore X.here C.1 rfl (hb C.2.2.2.1 hd) rfl hv hl k) k
theorem ow_astoreN (C : OwnCtx p s m meth c Z a0 tw y0 bytes ml ret) (A : OwnPos p l e R s m args below meth c h0 ws T h ck sk) {j : Fin 4} {v : Value} (hd : decode bytes pc = .ok (.astore_n j, 1)) (hv : v.isRef = true) (hl : storeLocals Ls j.val v = some Ls') (hp : pc + 1 = pc') (k : OwnWP p e below s h0 ws Q CK SK T (mkF m pc' Ls' (S))) : OwnWP p e below s h0 ws Q CK SK T (mkF m pc Ls (v :: S)) := by
  obtain ⟨locs, X, -⟩ := A; subst hp
  exact ow_st (fun _ k => XS.astoreN X.here C.1 rfl (hb C.2.2.2.1 hd) rfl hv hl k) k
theorem ow_iinc (C : OwnCtx p s m meth c Z a0 tw y0 bytes ml ret) (A : OwnPos p l e R s m args below meth c h0 ws T h ck sk) {j : Nat} {cst : Int} {v : Int32} (hd : decode bytes pc = .ok (.iinc j cst, 3)) (hl : Ls[j]? = some (.val (.int v))) (hl' : storeLocals Ls j (.int (v + Int32.ofInt cst)) = some Ls') (hp : pc + 3 = pc') (k : OwnWP p e below s h0 ws Q CK SK T (mkF m pc' Ls' (S))) : OwnWP p e below s h0 ws Q CK SK T (mkF m pc Ls (S)) := by
  obtain ⟨locs, X, -⟩ := A; subst hp
  exact ow_st (fun _ k => XS.iinc X.here C.1 rfl (hb C.2.2.2.1 hd) hl hl' k) k
theorem ow_dup (C : OwnCtx p s m meth c Z a0 tw y0 bytes ml ret) (A : OwnPos p l e R s m args below meth c h0 ws T h ck sk) {v : Value} (hd : decode bytes pc = .ok (.dup, 1)) (hc : v.category = 1) (hp : pc + 1 = pc') (k : OwnWP p e below s h0 ws Q CK SK T (mkF m pc' Ls (v :: v :: S))) : OwnWP p e below s h0 ws Q CK SK T (mkF m pc Ls (v :: S)) := by
  obtain ⟨locs, X, -⟩ := A; subst hp
  exact ow_st (fun _ k => XS.dup X.here C.1 rfl (hb C.2.2.2.1 hd) rfl hc k) k
theorem ow_dup_x1 (C : OwnCtx p s m meth c Z a0 tw y0 bytes ml ret) (A : OwnPos p l e R s m args below meth c h0 ws T h ck sk) {v w : Value} (hd : decode bytes pc = .ok (.dup_x1, 1)) (hc : v.category = 1) (hc' : w.category = 1) (hp : pc + 1 = pc') (k : OwnWP p e below s h0 ws Q CK SK T (mkF m pc' Ls (v :: w :: v :: S))) : OwnWP p e below s h0 ws Q CK SK T (mkF m pc Ls (v :: w :: S)) := by
  obtain ⟨locs, X, -⟩ := A; subst hp
  exact ow_st (fun _ k => XS.dupX1 X.here C.1 rfl (hb C.2.2.2.1 hd) rfl hc hc' k) k
theorem ow_dup2 (C : OwnCtx p s m meth c Z a0 tw y0 bytes ml ret) (A : OwnPos p l e R s m args below meth c h0 ws T h ck sk) {v w : Value} (hd : decode bytes pc = .ok (.dup2, 1)) (hc : v.category = 1) (hc' : w.category = 1) (hp : pc + 1 = pc') (k : OwnWP p e below s h0 ws Q CK SK T (mkF m pc' Ls (v :: w :: v :: w :: S))) : OwnWP p e below s h0 ws Q CK SK T (mkF m pc Ls (v :: w :: S)) := by
  obtain ⟨locs, X, -⟩ := A; subst hp
  exact ow_st (fun _ k => XT.dup2 X.here C.1 rfl (hb C.2.2.2.1 hd) rfl hc hc' k) k
theorem ow_pop (C : OwnCtx p s m meth c Z a0 tw y0 bytes ml ret) (A : OwnPos p l e R s m args below meth c h0 ws T h ck sk) {v : Value} (hd : decode bytes pc = .ok (.pop, 1)) (hc : v.category = 1) (hp : pc + 1 = pc') (k : OwnWP p e below s h0 ws Q CK SK T (mkF m pc' Ls (S))) : OwnWP p e below s h0 ws Q CK SK T (mkF m pc Ls (v :: S)) := by
  obtain ⟨locs, X, -⟩ := A; subst hp
  exact ow_st (fun _ k => XS.pop X.here C.1 rfl (hb C.2.2.2.1 hd) rfl hc k) k
theorem ow_goto (C : OwnCtx p s m meth c Z a0 tw y0 bytes ml ret) (A : OwnPos p l e R s m args below meth c h0 ws T h ck sk) {o : Int} (hd : decode bytes pc = .ok (.goto o, 3)) (ho : 0 ≤ (pc : Int) + o) (hp : ((pc : Int) + o).toNat = pc') (k : OwnWP p e below s h0 ws Q CK SK T (mkF m pc' Ls S)) : OwnWP p e below s h0 ws Q CK SK T (mkF m pc Ls S) := by
  obtain ⟨locs, X, -⟩ := A
  exact ow_st (fun _ k => XS.goto X.here C.1 rfl (pc0 := pc) (pc' := pc') rfl (hb C.2.2.2.1 hd) ho hp k) k
theorem ow_icmp_lt (C : OwnCtx p s m meth c Z a0 tw y0 bytes ml ret) (A : OwnPos p l e R s m args below meth c h0 ws T h ck sk) {x y : Int32} {o : Int} {pcY pcN : Nat} (hd : decode bytes pc = .ok (.if_icmp .lt o, 3)) (ho : 0 ≤ (pc : Int) + o) (hpY : ((pc : Int) + o).toNat = pcY) (hpN : pc + 3 = pcN) (kY : x < y → OwnWP p e below s h0 ws Q CK SK T (mkF m pcY Ls S)) (kN : ¬ (x < y) → OwnWP p e below s h0 ws Q CK SK T (mkF m pcN Ls S)) : OwnWP p e below s h0 ws Q CK SK T (mkF m pc Ls (.int y :: .int x :: S)) := by
  obtain ⟨locs, X, -⟩ := A; subst hpN
  by_cases q : x < y
  · exact ow_st (fun _ k => XS.icmpYes X.here C.1 rfl (pc0 := pc) (pc' := pcY) rfl (hb C.2.2.2.1 hd) rfl (tlt q).1 ho hpY k) (kY q)
  · exact ow_st (fun _ k => XS.icmpNo X.here C.1 rfl (hb C.2.2.2.1 hd) rfl (flt q).1 k) (kN q)
theorem ow_if_lt (C : OwnCtx p s m meth c Z a0 tw y0 bytes ml ret) (A : OwnPos p l e R s m args below meth c h0 ws T h ck sk) {x : Int32} {o : Int} {pcY pcN : Nat} (hd : decode bytes pc = .ok (.ifCond .lt o, 3)) (ho : 0 ≤ (pc : Int) + o) (hpY : ((pc : Int) + o).toNat = pcY) (hpN : pc + 3 = pcN) (kY : x < 0 → OwnWP p e below s h0 ws Q CK SK T (mkF m pcY Ls S)) (kN : ¬ (x < 0) → OwnWP p e below s h0 ws Q CK SK T (mkF m pcN Ls S)) : OwnWP p e below s h0 ws Q CK SK T (mkF m pc Ls (.int x :: S)) := by
  obtain ⟨locs, X, -⟩ := A; subst hpN
  by_cases q : x < 0
  · exact ow_st (fun _ k => XS.ifYes X.here C.1 rfl (pc0 := pc) (pc' := pcY) rfl (hb C.2.2.2.1 hd) rfl ((if0 _ _).trans (tlt q).1) ho hpY k) (kY q)
  · exact ow_st (fun _ k => XS.ifNo X.here C.1 rfl (hb C.2.2.2.1 hd) rfl ((if0 _ _).trans (flt q).1) k) (kN q)
theorem ow_lcmp_lt (C : OwnCtx p s m meth c Z a0 tw y0 bytes ml ret) (A : OwnPos p l e R s m args below meth c h0 ws T h ck sk) {x y : Int64} {o : Int} {pc1 pcY pcN : Nat} (hd : decode bytes pc = .ok (.lcmp, 1)) (hp1 : pc + 1 = pc1) (hd1 : decode bytes pc1 = .ok (.ifCond .lt o, 3)) (ho : 0 ≤ (pc1 : Int) + o) (hpY : ((pc1 : Int) + o).toNat = pcY) (hpN : pc1 + 3 = pcN) (kY : x < y → OwnWP p e below s h0 ws Q CK SK T (mkF m pcY Ls S)) (kN : ¬ (x < y) → OwnWP p e below s h0 ws Q CK SK T (mkF m pcN Ls S)) : OwnWP p e below s h0 ws Q CK SK T (mkF m pc Ls (.long y :: .long x :: S)) := by
  have A' := A; obtain ⟨locs, X, -⟩ := A'; subst hp1
  refine ow_st (fun _ k => XS.lcmp X.here C.1 rfl (hb C.2.2.2.1 hd) rfl k) ?_
  show OwnWP p e below s h0 ws Q CK SK T (mkF m (pc + 1) Ls (.int (lcmpW x y) :: S))
  exact ow_if_lt C A hd1 ho hpY hpN (fun q => kY ((lw_lt x y).mp q)) (fun q => kN (fun z => q ((lw_lt x y).mpr z)))
theorem ow_icmp_ge (C : OwnCtx p s m meth c Z a0 tw y0 bytes ml ret) (A : OwnPos p l e R s m args below meth c h0 ws T h ck sk) {x y : Int32} {o : Int} {pcY pcN : Nat} (hd : decode bytes pc = .ok (.if_icmp .ge o, 3)) (ho : 0 ≤ (pc : Int) + o) (hpY : ((pc : Int) + o).toNat = pcY) (hpN : pc + 3 = pcN) (kY : ¬ (x < y) → OwnWP p e below s h0 ws Q CK SK T (mkF m pcY Ls S)) (kN : x < y → OwnWP p e below s h0 ws Q CK SK T (mkF m pcN Ls S)) : OwnWP p e below s h0 ws Q CK SK T (mkF m pc Ls (.int y :: .int x :: S)) := by
  obtain ⟨locs, X, -⟩ := A; subst hpN
  by_cases q : x < y
  · exact ow_st (fun _ k => XS.icmpNo X.here C.1 rfl (hb C.2.2.2.1 hd) rfl (tlt q).2.1 k) (kN q)
  · exact ow_st (fun _ k => XS.icmpYes X.here C.1 rfl (pc0 := pc) (pc' := pcY) rfl (hb C.2.2.2.1 hd) rfl (flt q).2.1 ho hpY k) (kY q)
theorem ow_if_ge (C : OwnCtx p s m meth c Z a0 tw y0 bytes ml ret) (A : OwnPos p l e R s m args below meth c h0 ws T h ck sk) {x : Int32} {o : Int} {pcY pcN : Nat} (hd : decode bytes pc = .ok (.ifCond .ge o, 3)) (ho : 0 ≤ (pc : Int) + o) (hpY : ((pc : Int) + o).toNat = pcY) (hpN : pc + 3 = pcN) (kY : ¬ (x < 0) → OwnWP p e below s h0 ws Q CK SK T (mkF m pcY Ls S)) (kN : x < 0 → OwnWP p e below s h0 ws Q CK SK T (mkF m pcN Ls S)) : OwnWP p e below s h0 ws Q CK SK T (mkF m pc Ls (.int x :: S)) := by
  obtain ⟨locs, X, -⟩ := A; subst hpN
  by_cases q : x < 0
  · exact ow_st (fun _ k => XS.ifNo X.here C.1 rfl (hb C.2.2.2.1 hd) rfl ((if0 _ _).trans (tlt q).2.1) k) (kN q)
  · exact ow_st (fun _ k => XS.ifYes X.here C.1 rfl (pc0 := pc) (pc' := pcY) rfl (hb C.2.2.2.1 hd) rfl ((if0 _ _).trans (flt q).2.1) ho hpY k) (kY q)
theorem ow_lcmp_ge (C : OwnCtx p s m meth c Z a0 tw y0 bytes ml ret) (A : OwnPos p l e R s m args below meth c h0 ws T h ck sk) {x y : Int64} {o : Int} {pc1 pcY pcN : Nat} (hd : decode bytes pc = .ok (.lcmp, 1)) (hp1 : pc + 1 = pc1) (hd1 : decode bytes pc1 = .ok (.ifCond .ge o, 3)) (ho : 0 ≤ (pc1 : Int) + o) (hpY : ((pc1 : Int) + o).toNat = pcY) (hpN : pc1 + 3 = pcN) (kY : ¬ (x < y) → OwnWP p e below s h0 ws Q CK SK T (mkF m pcY Ls S)) (kN : x < y → OwnWP p e below s h0 ws Q CK SK T (mkF m pcN Ls S)) : OwnWP p e below s h0 ws Q CK SK T (mkF m pc Ls (.long y :: .long x :: S)) := by
  have A' := A; obtain ⟨locs, X, -⟩ := A'; subst hp1
  refine ow_st (fun _ k => XS.lcmp X.here C.1 rfl (hb C.2.2.2.1 hd) rfl k) ?_
  show OwnWP p e below s h0 ws Q CK SK T (mkF m (pc + 1) Ls (.int (lcmpW x y) :: S))
  exact ow_if_ge C A hd1 ho hpY hpN (fun q => kY (fun z => q ((lw_lt x y).mpr z))) (fun q => kN ((lw_lt x y).mp q))
theorem ow_icmp_gt (C : OwnCtx p s m meth c Z a0 tw y0 bytes ml ret) (A : OwnPos p l e R s m args below meth c h0 ws T h ck sk) {x y : Int32} {o : Int} {pcY pcN : Nat} (hd : decode bytes pc = .ok (.if_icmp .gt o, 3)) (ho : 0 ≤ (pc : Int) + o) (hpY : ((pc : Int) + o).toNat = pcY) (hpN : pc + 3 = pcN) (kY : y < x → OwnWP p e below s h0 ws Q CK SK T (mkF m pcY Ls S)) (kN : ¬ (y < x) → OwnWP p e below s h0 ws Q CK SK T (mkF m pcN Ls S)) : OwnWP p e below s h0 ws Q CK SK T (mkF m pc Ls (.int y :: .int x :: S)) := by
  obtain ⟨locs, X, -⟩ := A; subst hpN
  by_cases q : y < x
  · exact ow_st (fun _ k => XS.icmpYes X.here C.1 rfl (pc0 := pc) (pc' := pcY) rfl (hb C.2.2.2.1 hd) rfl (tlt q).2.2.1 ho hpY k) (kY q)
  · exact ow_st (fun _ k => XS.icmpNo X.here C.1 rfl (hb C.2.2.2.1 hd) rfl (flt q).2.2.1 k) (kN q)
theorem ow_if_gt (C : OwnCtx p s m meth c Z a0 tw y0 bytes ml ret) (A : OwnPos p l e R s m args below meth c h0 ws T h ck sk) {x : Int32} {o : Int} {pcY pcN : Nat} (hd : decode bytes pc = .ok (.ifCond .gt o, 3)) (ho : 0 ≤ (pc : Int) + o) (hpY : ((pc : Int) + o).toNat = pcY) (hpN : pc + 3 = pcN) (kY : 0 < x → OwnWP p e below s h0 ws Q CK SK T (mkF m pcY Ls S)) (kN : ¬ (0 < x) → OwnWP p e below s h0 ws Q CK SK T (mkF m pcN Ls S)) : OwnWP p e below s h0 ws Q CK SK T (mkF m pc Ls (.int x :: S)) := by
  obtain ⟨locs, X, -⟩ := A; subst hpN
  by_cases q : 0 < x
  · exact ow_st (fun _ k => XS.ifYes X.here C.1 rfl (pc0 := pc) (pc' := pcY) rfl (hb C.2.2.2.1 hd) rfl ((if0 _ _).trans (tlt q).2.2.1) ho hpY k) (kY q)
  · exact ow_st (fun _ k => XS.ifNo X.here C.1 rfl (hb C.2.2.2.1 hd) rfl ((if0 _ _).trans (flt q).2.2.1) k) (kN q)
theorem ow_lcmp_gt (C : OwnCtx p s m meth c Z a0 tw y0 bytes ml ret) (A : OwnPos p l e R s m args below meth c h0 ws T h ck sk) {x y : Int64} {o : Int} {pc1 pcY pcN : Nat} (hd : decode bytes pc = .ok (.lcmp, 1)) (hp1 : pc + 1 = pc1) (hd1 : decode bytes pc1 = .ok (.ifCond .gt o, 3)) (ho : 0 ≤ (pc1 : Int) + o) (hpY : ((pc1 : Int) + o).toNat = pcY) (hpN : pc1 + 3 = pcN) (kY : y < x → OwnWP p e below s h0 ws Q CK SK T (mkF m pcY Ls S)) (kN : ¬ (y < x) → OwnWP p e below s h0 ws Q CK SK T (mkF m pcN Ls S)) : OwnWP p e below s h0 ws Q CK SK T (mkF m pc Ls (.long y :: .long x :: S)) := by
  have A' := A; obtain ⟨locs, X, -⟩ := A'; subst hp1
  refine ow_st (fun _ k => XS.lcmp X.here C.1 rfl (hb C.2.2.2.1 hd) rfl k) ?_
  show OwnWP p e below s h0 ws Q CK SK T (mkF m (pc + 1) Ls (.int (lcmpW x y) :: S))
  exact ow_if_gt C A hd1 ho hpY hpN (fun q => kY ((lw_gt x y).mp q)) (fun q => kN (fun z => q ((lw_gt x y).mpr z)))
theorem ow_icmp_le (C : OwnCtx p s m meth c Z a0 tw y0 bytes ml ret) (A : OwnPos p l e R s m args below meth c h0 ws T h ck sk) {x y : Int32} {o : Int} {pcY pcN : Nat} (hd : decode bytes pc = .ok (.if_icmp .le o, 3)) (ho : 0 ≤ (pc : Int) + o) (hpY : ((pc : Int) + o).toNat = pcY) (hpN : pc + 3 = pcN) (kY : ¬ (y < x) → OwnWP p e below s h0 ws Q CK SK T (mkF m pcY Ls S)) (kN : y < x → OwnWP p e below s h0 ws Q CK SK T (mkF m pcN Ls S)) : OwnWP p e below s h0 ws Q CK SK T (mkF m pc Ls (.int y :: .int x :: S)) := by
  obtain ⟨locs, X, -⟩ := A; subst hpN
  by_cases q : y < x
  · exact ow_st (fun _ k => XS.icmpNo X.here C.1 rfl (hb C.2.2.2.1 hd) rfl (tlt q).2.2.2 k) (kN q)
  · exact ow_st (fun _ k => XS.icmpYes X.here C.1 rfl (pc0 := pc) (pc' := pcY) rfl (hb C.2.2.2.1 hd) rfl (flt q).2.2.2 ho hpY k) (kY q)
theorem ow_if_le (C : OwnCtx p s m meth c Z a0 tw y0 bytes ml ret) (A : OwnPos p l e R s m args below meth c h0 ws T h ck sk) {x : Int32} {o : Int} {pcY pcN : Nat} (hd : decode bytes pc = .ok (.ifCond .le o, 3)) (ho : 0 ≤ (pc : Int) + o) (hpY : ((pc : Int) + o).toNat = pcY) (hpN : pc + 3 = pcN) (kY : ¬ (0 < x) → OwnWP p e below s h0 ws Q CK SK T (mkF m pcY Ls S)) (kN : 0 < x → OwnWP p e below s h0 ws Q CK SK T (mkF m pcN Ls S)) : OwnWP p e below s h0 ws Q CK SK T (mkF m pc Ls (.int x :: S)) := by
  obtain ⟨locs, X, -⟩ := A; subst hpN
  by_cases q : 0 < x
  · exact ow_st (fun _ k => XS.ifNo X.here C.1 rfl (hb C.2.2.2.1 hd) rfl ((if0 _ _).trans (tlt q).2.2.2) k) (kN q)
  · exact ow_st (fun _ k => XS.ifYes X.here C.1 rfl (pc0 := pc) (pc' := pcY) rfl (hb C.2.2.2.1 hd) rfl ((if0 _ _).trans (flt q).2.2.2) ho hpY k) (kY q)
theorem ow_lcmp_le (C : OwnCtx p s m meth c Z a0 tw y0 bytes ml ret) (A : OwnPos p l e R s m args below meth c h0 ws T h ck sk) {x y : Int64} {o : Int} {pc1 pcY pcN : Nat} (hd : decode bytes pc = .ok (.lcmp, 1)) (hp1 : pc + 1 = pc1) (hd1 : decode bytes pc1 = .ok (.ifCond .le o, 3)) (ho : 0 ≤ (pc1 : Int) + o) (hpY : ((pc1 : Int) + o).toNat = pcY) (hpN : pc1 + 3 = pcN) (kY : ¬ (y < x) → OwnWP p e below s h0 ws Q CK SK T (mkF m pcY Ls S)) (kN : y < x → OwnWP p e below s h0 ws Q CK SK T (mkF m pcN Ls S)) : OwnWP p e below s h0 ws Q CK SK T (mkF m pc Ls (.long y :: .long x :: S)) := by
  have A' := A; obtain ⟨locs, X, -⟩ := A'; subst hp1
  refine ow_st (fun _ k => XS.lcmp X.here C.1 rfl (hb C.2.2.2.1 hd) rfl k) ?_
  show OwnWP p e below s h0 ws Q CK SK T (mkF m (pc + 1) Ls (.int (lcmpW x y) :: S))
  exact ow_if_le C A hd1 ho hpY hpN (fun q => kY (fun z => q ((lw_gt x y).mpr z))) (fun q => kN ((lw_gt x y).mp q))
theorem ow_icmp_eq (C : OwnCtx p s m meth c Z a0 tw y0 bytes ml ret) (A : OwnPos p l e R s m args below meth c h0 ws T h ck sk) {x y : Int32} {o : Int} {pcY pcN : Nat} (hd : decode bytes pc = .ok (.if_icmp .eq o, 3)) (ho : 0 ≤ (pc : Int) + o) (hpY : ((pc : Int) + o).toNat = pcY) (hpN : pc + 3 = pcN) (kY : x = y → OwnWP p e below s h0 ws Q CK SK T (mkF m pcY Ls S)) (kN : ¬ (x = y) → OwnWP p e below s h0 ws Q CK SK T (mkF m pcN Ls S)) : OwnWP p e below s h0 ws Q CK SK T (mkF m pc Ls (.int y :: .int x :: S)) := by
  obtain ⟨locs, X, -⟩ := A; subst hpN
  by_cases q : x = y
  · exact ow_st (fun _ k => XS.icmpYes X.here C.1 rfl (pc0 := pc) (pc' := pcY) rfl (hb C.2.2.2.1 hd) rfl (teq q).1 ho hpY k) (kY q)
  · exact ow_st (fun _ k => XS.icmpNo X.here C.1 rfl (hb C.2.2.2.1 hd) rfl (feq q).1 k) (kN q)
theorem ow_if_eq (C : OwnCtx p s m meth c Z a0 tw y0 bytes ml ret) (A : OwnPos p l e R s m args below meth c h0 ws T h ck sk) {x : Int32} {o : Int} {pcY pcN : Nat} (hd : decode bytes pc = .ok (.ifCond .eq o, 3)) (ho : 0 ≤ (pc : Int) + o) (hpY : ((pc : Int) + o).toNat = pcY) (hpN : pc + 3 = pcN) (kY : x = 0 → OwnWP p e below s h0 ws Q CK SK T (mkF m pcY Ls S)) (kN : ¬ (x = 0) → OwnWP p e below s h0 ws Q CK SK T (mkF m pcN Ls S)) : OwnWP p e below s h0 ws Q CK SK T (mkF m pc Ls (.int x :: S)) := by
  obtain ⟨locs, X, -⟩ := A; subst hpN
  by_cases q : x = 0
  · exact ow_st (fun _ k => XS.ifYes X.here C.1 rfl (pc0 := pc) (pc' := pcY) rfl (hb C.2.2.2.1 hd) rfl ((if0 _ _).trans (teq q).1) ho hpY k) (kY q)
  · exact ow_st (fun _ k => XS.ifNo X.here C.1 rfl (hb C.2.2.2.1 hd) rfl ((if0 _ _).trans (feq q).1) k) (kN q)
theorem ow_lcmp_eq (C : OwnCtx p s m meth c Z a0 tw y0 bytes ml ret) (A : OwnPos p l e R s m args below meth c h0 ws T h ck sk) {x y : Int64} {o : Int} {pc1 pcY pcN : Nat} (hd : decode bytes pc = .ok (.lcmp, 1)) (hp1 : pc + 1 = pc1) (hd1 : decode bytes pc1 = .ok (.ifCond .eq o, 3)) (ho : 0 ≤ (pc1 : Int) + o) (hpY : ((pc1 : Int) + o).toNat = pcY) (hpN : pc1 + 3 = pcN) (kY : x = y → OwnWP p e below s h0 ws Q CK SK T (mkF m pcY Ls S)) (kN : ¬ (x = y) → OwnWP p e below s h0 ws Q CK SK T (mkF m pcN Ls S)) : OwnWP p e below s h0 ws Q CK SK T (mkF m pc Ls (.long y :: .long x :: S)) := by
  have A' := A; obtain ⟨locs, X, -⟩ := A'; subst hp1
  refine ow_st (fun _ k => XS.lcmp X.here C.1 rfl (hb C.2.2.2.1 hd) rfl k) ?_
  show OwnWP p e below s h0 ws Q CK SK T (mkF m (pc + 1) Ls (.int (lcmpW x y) :: S))
  exact ow_if_eq C A hd1 ho hpY hpN (fun q => kY ((lw_eq x y).mp q)) (fun q => kN (fun z => q ((lw_eq x y).mpr z)))
theorem ow_icmp_ne (C : OwnCtx p s m meth c Z a0 tw y0 bytes ml ret) (A : OwnPos p l e R s m args below meth c h0 ws T h ck sk) {x y : Int32} {o : Int} {pcY pcN : Nat} (hd : decode bytes pc = .ok (.if_icmp .ne o, 3)) (ho : 0 ≤ (pc : Int) + o) (hpY : ((pc : Int) + o).toNat = pcY) (hpN : pc + 3 = pcN) (kY : ¬ (x = y) → OwnWP p e below s h0 ws Q CK SK T (mkF m pcY Ls S)) (kN : x = y → OwnWP p e below s h0 ws Q CK SK T (mkF m pcN Ls S)) : OwnWP p e below s h0 ws Q CK SK T (mkF m pc Ls (.int y :: .int x :: S)) := by
  obtain ⟨locs, X, -⟩ := A; subst hpN
  by_cases q : x = y
  · exact ow_st (fun _ k => XS.icmpNo X.here C.1 rfl (hb C.2.2.2.1 hd) rfl (teq q).2 k) (kN q)
  · exact ow_st (fun _ k => XS.icmpYes X.here C.1 rfl (pc0 := pc) (pc' := pcY) rfl (hb C.2.2.2.1 hd) rfl (feq q).2 ho hpY k) (kY q)
theorem ow_if_ne (C : OwnCtx p s m meth c Z a0 tw y0 bytes ml ret) (A : OwnPos p l e R s m args below meth c h0 ws T h ck sk) {x : Int32} {o : Int} {pcY pcN : Nat} (hd : decode bytes pc = .ok (.ifCond .ne o, 3)) (ho : 0 ≤ (pc : Int) + o) (hpY : ((pc : Int) + o).toNat = pcY) (hpN : pc + 3 = pcN) (kY : ¬ (x = 0) → OwnWP p e below s h0 ws Q CK SK T (mkF m pcY Ls S)) (kN : x = 0 → OwnWP p e below s h0 ws Q CK SK T (mkF m pcN Ls S)) : OwnWP p e below s h0 ws Q CK SK T (mkF m pc Ls (.int x :: S)) := by
  obtain ⟨locs, X, -⟩ := A; subst hpN
  by_cases q : x = 0
  · exact ow_st (fun _ k => XS.ifNo X.here C.1 rfl (hb C.2.2.2.1 hd) rfl ((if0 _ _).trans (teq q).2) k) (kN q)
  · exact ow_st (fun _ k => XS.ifYes X.here C.1 rfl (pc0 := pc) (pc' := pcY) rfl (hb C.2.2.2.1 hd) rfl ((if0 _ _).trans (feq q).2) ho hpY k) (kY q)
theorem ow_lcmp_ne (C : OwnCtx p s m meth c Z a0 tw y0 bytes ml ret) (A : OwnPos p l e R s m args below meth c h0 ws T h ck sk) {x y : Int64} {o : Int} {pc1 pcY pcN : Nat} (hd : decode bytes pc = .ok (.lcmp, 1)) (hp1 : pc + 1 = pc1) (hd1 : decode bytes pc1 = .ok (.ifCond .ne o, 3)) (ho : 0 ≤ (pc1 : Int) + o) (hpY : ((pc1 : Int) + o).toNat = pcY) (hpN : pc1 + 3 = pcN) (kY : ¬ (x = y) → OwnWP p e below s h0 ws Q CK SK T (mkF m pcY Ls S)) (kN : x = y → OwnWP p e below s h0 ws Q CK SK T (mkF m pcN Ls S)) : OwnWP p e below s h0 ws Q CK SK T (mkF m pc Ls (.long y :: .long x :: S)) := by
  have A' := A; obtain ⟨locs, X, -⟩ := A'; subst hp1
  refine ow_st (fun _ k => XS.lcmp X.here C.1 rfl (hb C.2.2.2.1 hd) rfl k) ?_
  show OwnWP p e below s h0 ws Q CK SK T (mkF m (pc + 1) Ls (.int (lcmpW x y) :: S))
  exact ow_if_ne C A hd1 ho hpY hpN (fun q => kY (fun z => q ((lw_eq x y).mpr z))) (fun q => kN ((lw_eq x y).mp q))
theorem ow_ifnonnullYes (C : OwnCtx p s m meth c Z a0 tw y0 bytes ml ret) (A : OwnPos p l e R s m args below meth c h0 ws T h ck sk) {o : Int} {b : Addr} (hd : decode bytes pc = .ok (.ifnonnull o, 3)) (ho : 0 ≤ (pc : Int) + o) (hp : ((pc : Int) + o).toNat = pc') (k : OwnWP p e below s h0 ws Q CK SK T (mkF m pc' Ls S)) : OwnWP p e below s h0 ws Q CK SK T (mkF m pc Ls (.ref b :: S)) := by
  obtain ⟨locs, X, -⟩ := A
  exact ow_st (fun _ k => XS.ifnonnullYes X.here C.1 rfl (pc0 := pc) (pc' := pc') rfl (hb C.2.2.2.1 hd) rfl ho hp k) k
theorem ow_ifnonnullNo (C : OwnCtx p s m meth c Z a0 tw y0 bytes ml ret) (A : OwnPos p l e R s m args below meth c h0 ws T h ck sk) {o : Int} (hd : decode bytes pc = .ok (.ifnonnull o, 3)) (hp : pc + 3 = pc') (k : OwnWP p e below s h0 ws Q CK SK T (mkF m pc' Ls S)) : OwnWP p e below s h0 ws Q CK SK T (mkF m pc Ls (.null :: S)) := by
  obtain ⟨locs, X, -⟩ := A; subst hp
  exact ow_st (fun _ k => XS.ifnonnullNo X.here C.1 rfl (hb C.2.2.2.1 hd) rfl k) k
theorem ow_ldcInt (C : OwnCtx p s m meth c Z a0 tw y0 bytes ml ret) (A : OwnPos p l e R s m args below meth c h0 ws T h ck sk) {i : Nat} {v : Int32} (w : Jvm.Cond.constant y0.cls i v ∈ tw) (hd : decode bytes pc = .ok (.ldc i, 2)) (hp : pc + 2 = pc') (k : OwnWP p e below s h0 ws Q CK SK T (mkF m pc' Ls (.int v :: S))) : OwnWP p e below s h0 ws Q CK SK T (mkF m pc Ls S) := by
  obtain ⟨locs, X, -⟩ := A; subst hp
  exact ow_st (X.ldcInt C.1 C.2.2.2.2.2.1 (mvT C.2.1 (C.2.2.1 _ w)) (g := mkF m pc Ls S) rfl (hb C.2.2.2.1 hd)) k
theorem ow_ldc2 (C : OwnCtx p s m meth c Z a0 tw y0 bytes ml ret) (A : OwnPos p l e R s m args below meth c h0 ws T h ck sk) {i : Nat} {v : Int64} (w : Jvm.Cond.constantLong y0.cls i v ∈ tw) (hd : decode bytes pc = .ok (.ldc2_w i, 3)) (hp : pc + 3 = pc') (k : OwnWP p e below s h0 ws Q CK SK T (mkF m pc' Ls (.long v :: S))) : OwnWP p e below s h0 ws Q CK SK T (mkF m pc Ls S) := by
  obtain ⟨locs, X, -⟩ := A; subst hp
  exact ow_st (X.ldc2Long C.1 C.2.2.2.2.2.1 (mvT C.2.1 (C.2.2.1 _ w)) (g := mkF m pc Ls S) rfl (hb C.2.2.2.1 hd)) k
theorem ow_getF (C : OwnCtx p s m meth c Z a0 tw y0 bytes ml ret) (A : OwnPos p l e R s m args below meth c h0 ws T h ck sk) {i : Nat} {R0 O n d : String} {a : Addr} {v : Value} (w : Jvm.Cond.fieldLink y0.cls i R0 n d ∈ tw) (via : Via Z R0 O n d) (F : Fld Z h a O n d v) (hd : decode bytes pc = .ok (.getfield i, 3)) (hp : pc + 3 = pc') (k : ∀ T', OwnPos p l e R s m args below meth c h0 ws T' h ck sk → OwnWP p e below s h0 ws Q CK SK T' (mkF m pc' Ls (v :: S))) : OwnWP p e below s h0 ws Q CK SK T (mkF m pc Ls (.ref a :: S)) := by
  obtain ⟨locs, X, e1, N, K⟩ := A; subst hp
  obtain ⟨T', X', e', st⟩ := getF X C.1 C.2.1 C.2.2.2.2.2.1 (host := "") (Or.inl (C.2.2.1 _ w)) via e1 F (g := mkF m pc Ls (.ref a :: S)) rfl rfl (hb C.2.2.2.1 hd)
  exact ow_st st (k T' ⟨locs, X', e', N, K⟩)
theorem ow_putF (C : OwnCtx p s m meth c Z a0 tw y0 bytes ml ret) (A : OwnPos p l e R s m args below meth c h0 ws T h ck sk) {i kk : Nat} {R0 O n d D : String} {a : Addr} {v old : Value} {ty : FieldType} (w : Jvm.Cond.fieldLink y0.cls i R0 n d ∈ tw) (via : Via Z R0 O n d) (F : Fld Z h a O n d old) (E : Exa Z h a D) (wl : Jvm.Cond.lays D O n d ∈ tw) (wi : Jvm.Cond.instantiable D kk ∈ tw) (hty : parseFieldDescriptor d = some ty) (hn : narrow ty v = v) (hf : fits ty v = true) (q : a ∈ ws ∨ h0.size ≤ a) (hd : decode bytes pc = .ok (.putfield i, 3)) (hp : pc + 3 = pc') (k : ∀ T' h', Wr h h' a (slotOf Z O n d) v → OwnPos p l e R s m args below meth c h0 ws T' h' ck sk → OwnWP p e below s h0 ws Q CK SK T' (mkF m pc' Ls S)) : OwnWP p e below s h0 ws Q CK SK T (mkF m pc Ls (v :: .ref a :: S)) := by
  obtain ⟨locs, X, e1, N, K⟩ := A; subst hp
  obtain ⟨T', h', X', e', W', st⟩ := putF X C.1 C.2.1 C.2.2.2.2.2.1 (host := "") (Or.inl (C.2.2.1 _ w)) via e1 F E (Or.inl (C.2.2.1 _ wl)) (C.2.2.1 _ wi) hty hn hf (g := mkF m pc Ls (v :: .ref a :: S)) rfl rfl (hb C.2.2.2.1 hd)
  exact ow_st st (k T' h' W' ⟨_, X', e', fun y hy => (List.mem_append.mp hy).elim (N y) fun z => by cases List.mem_singleton.mp z; exact q, K.wr W' q⟩)
theorem ow_putFin (C : OwnCtx p s m meth c Z a0 tw y0 bytes ml ret) (A : OwnPos p l e R s m args below meth c h0 ws T h ck sk) {i kk : Nat} {R0 O n d D : String} {a : Addr} {v old : Value} {ty : FieldType} (w : Jvm.Cond.fieldLink y0.cls i R0 n d ∈ tw) (via : Via Z R0 O n d) (F : Fld Z h a O n d old) (E : Exa Z h a D) (wl : Jvm.Cond.laysFinal D O n d ∈ tw) (hO : y0.cls = O) (hi : y0.name = "<init>") (wi : Jvm.Cond.instantiable D kk ∈ tw) (hty : parseFieldDescriptor d = some ty) (hn : narrow ty v = v) (hf : fits ty v = true) (q : a ∈ ws ∨ h0.size ≤ a) (hd : decode bytes pc = .ok (.putfield i, 3)) (hp : pc + 3 = pc') (k : ∀ T' h', Wr h h' a (slotOf Z O n d) v → OwnPos p l e R s m args below meth c h0 ws T' h' ck sk → OwnWP p e below s h0 ws Q CK SK T' (mkF m pc' Ls S)) : OwnWP p e below s h0 ws Q CK SK T (mkF m pc Ls (v :: .ref a :: S)) := by
  obtain ⟨locs, X, e1, N, K⟩ := A; subst hp
  obtain ⟨T', h', X', e', W', st⟩ := putF X C.1 C.2.1 C.2.2.2.2.2.1 (host := "") (Or.inl (C.2.2.1 _ w)) via e1 F E (Or.inr ⟨C.2.2.1 _ wl, hO, C.2.2.2.2.2.2.1.trans hi⟩) (C.2.2.1 _ wi) hty hn hf (g := mkF m pc Ls (v :: .ref a :: S)) rfl rfl (hb C.2.2.2.1 hd)
  exact ow_st st (k T' h' W' ⟨_, X', e', fun y hy => (List.mem_append.mp hy).elim (N y) fun z => by cases List.mem_singleton.mp z; exact q, K.wr W' q⟩)
theorem ow_new (C : OwnCtx p s m meth c Z a0 tw y0 bytes ml ret) (A : OwnPos p l e R s m args below meth c h0 ws T h ck sk) {i n ck' sk' : Nat} {D : String} (w : Jvm.Cond.classLink y0.cls i D ∈ tw) (wi : Jvm.Cond.instantiable D n ∈ tw) (wz : Jvm.Cond.initialized D ∈ tw) (hd : decode bytes pc = .ok (.new i, 3)) (hp : pc + 3 = pc') (hck : ck + 1 = ck') (hsk : sk + n = sk') (hc : ck' ≤ R.cells) (hs : sk' ≤ R.slots)
    (k : ∀ T' h' b, b = h.size → Ext h h' → Exa Z h' b D → (∀ {O nm d : String} {ty : FieldType}, Laid Z a0 D O nm d → parseFieldDescriptor d = some ty → Fld Z h' b O nm d (defaultValue ty)) → OwnPos p l e R s m args below meth c h0 ws T' h' ck' sk' → OwnWP p e below s h0 ws Q CK SK T' (mkF m pc' Ls (.ref b :: S))) : OwnWP p e below s h0 ws Q CK SK T (mkF m pc Ls S) := by
  obtain ⟨locs, X, e1, N, K⟩ := A; subst hp hck hsk
  obtain ⟨T', h', X', e', E', A', D', -, st⟩ := newO X C.1 C.2.1 C.2.2.2.2.2.1 (C.2.2.1 _ w) (C.2.2.1 _ wi) (C.2.2.1 _ wz) e1 (g := mkF m pc Ls S) rfl (hb C.2.2.2.1 hd) hc hs
  exact ow_st st (k T' h' h.size rfl E' A' D' ⟨locs, X', e', N, K.ext E'⟩)
theorem ow_newA (C : OwnCtx p s m meth c Z a0 tw y0 bytes ml ret) (A : OwnPos p l e R s m args below meth c h0 ws T h ck sk) {aty : ArrayType} {ty : FieldType} {n : Int32} {cap ck' sk' : Nat} (hty : newarray.typeOf aty = ty) (w : Jvm.Cond.arrayClass ty ∈ tw) (hd : decode bytes pc = .ok (.newarray aty, 2)) (hp : pc + 2 = pc') (hn : ¬ n < 0) (hcap : n.toNatClampNeg ≤ cap) (hb8 : cap * 8 ≤ 536870912) (hck : ck + 1 = ck') (hsk : sk + cap = sk') (hc : ck' ≤ R.cells) (hs : sk' ≤ R.slots)
    (k : ∀ T' h' b kk, b = h.size → Ext h h' → Arv Z h' b kk ty n [] (defaultValue ty) → OwnPos p l e R s m args below meth c h0 ws T' h' ck' sk' → OwnWP p e below s h0 ws Q CK SK T' (mkF m pc' Ls (.ref b :: S))) : OwnWP p e below s h0 ws Q CK SK T (mkF m pc Ls (.int n :: S)) := by
  obtain ⟨locs, X, e1, N, K⟩ := A; subst hp hck hsk hty
  obtain ⟨T', h', kk, X', e', E', A', st⟩ := newP X C.1 C.2.1 (C.2.2.1 _ w) e1 (g := mkF m pc Ls (.int n :: S)) rfl (hb C.2.2.2.1 hd) rfl hn (cap := cap) hcap hb8 hc hs
  exact ow_st st (k T' h' h.size kk rfl E' (Arv.new A' hn) ⟨locs, X', e', N, K.ext E'⟩)
theorem ow_alen (C : OwnCtx p s m meth c Z a0 tw y0 bytes ml ret) (A : OwnPos p l e R s m args below meth c h0 ws T h ck sk) {a : Addr} {kk : ClassId} {ty : FieldType} {n : Int32} {vs : List Value} {dv : Value} (V : Arv Z h a kk ty n vs dv) (hd : decode bytes pc = .ok (.arraylength, 1)) (hp : pc + 1 = pc') (k : OwnWP p e below s h0 ws Q CK SK T (mkF m pc' Ls (.int n :: S))) : OwnWP p e below s h0 ws Q CK SK T (mkF m pc Ls (.ref a :: S)) := by
  obtain ⟨locs, X, rfl, -⟩ := A; subst hp
  obtain ⟨cl, Ar, -, S1, N1, -, -⟩ := V
  refine ow_st (fun t k => X.arraylength C.1 Ar.1 (State.isArrayOf_alike C.2.1.alike Ar.2.1) (g := mkF m pc Ls (.ref a :: S)) rfl rfl (hb C.2.2.2.1 hd) t k) ?_
  rw [len_of S1 N1]; exact k
theorem ow_iaload (C : OwnCtx p s m meth c Z a0 tw y0 bytes ml ret) (A : OwnPos p l e R s m args below meth c h0 ws T h ck sk) {a : Addr} {kk : ClassId} {n j : Int32} {vs : List Value} {dv v : Value} (V : Arv Z h a kk .int n vs dv) (hj : ¬ j < 0 ∧ j < n) (hv : vs.getD j.toNatClampNeg dv = v) (hd : decode bytes pc = .ok (.iaload, 1)) (hp : pc + 1 = pc') (k : OwnWP p e below s h0 ws Q CK SK T (mkF m pc' Ls (v :: S))) : OwnWP p e below s h0 ws Q CK SK T (mkF m pc Ls (.int j :: .ref a :: S)) := by
  obtain ⟨locs, X, rfl, -⟩ := A; subst hp
  obtain ⟨cl, Ar, -, S1, N1, H1, -⟩ := V
  have hin := inb_of S1 hj
  exact ow_st (fun t k => X.iaload C.1 (j := j) (v := v) Ar.1 (State.isArrayOf_alike C.2.1.alike Ar.2.1) Ar.2.2 hin (H1.at hin hv) (g := mkF m pc Ls (.int j :: .ref a :: S)) rfl rfl (hb C.2.2.2.1 hd) t k) k
theorem ow_laload (C : OwnCtx p s m meth c Z a0 tw y0 bytes ml ret) (A : OwnPos p l e R s m args below meth c h0 ws T h ck sk) {a : Addr} {kk : ClassId} {n j : Int32} {vs : List Value} {dv v : Value} (V : Arv Z h a kk .long n vs dv) (hj : ¬ j < 0 ∧ j < n) (hv : vs.getD j.toNatClampNeg dv = v) (hd : decode bytes pc = .ok (.laload, 1)) (hp : pc + 1 = pc') (k : OwnWP p e below s h0 ws Q CK SK T (mkF m pc' Ls (v :: S))) : OwnWP p e below s h0 ws Q CK SK T (mkF m pc Ls (.int j :: .ref a :: S)) := by
  obtain ⟨locs, X, rfl, -⟩ := A; subst hp
  obtain ⟨cl, Ar, -, S1, N1, H1, -⟩ := V
  have hin := inb_of S1 hj
  exact ow_st (fun t k => X.laload C.1 (j := j) (v := v) Ar.1 (State.isArrayOf_alike C.2.1.alike Ar.2.1) Ar.2.2 hin (H1.at hin hv) (g := mkF m pc Ls (.int j :: .ref a :: S)) rfl rfl (hb C.2.2.2.1 hd) t k) k
theorem ow_baload (C : OwnCtx p s m meth c Z a0 tw y0 bytes ml ret) (A : OwnPos p l e R s m args below meth c h0 ws T h ck sk) {a : Addr} {kk : ClassId} {n j : Int32} {vs : List Value} {dv v : Value} (V : Arv Z h a kk .byte n vs dv) (hj : ¬ j < 0 ∧ j < n) (hv : vs.getD j.toNatClampNeg dv = v) (hd : decode bytes pc = .ok (.baload, 1)) (hp : pc + 1 = pc') (k : OwnWP p e below s h0 ws Q CK SK T (mkF m pc' Ls (v :: S))) : OwnWP p e below s h0 ws Q CK SK T (mkF m pc Ls (.int j :: .ref a :: S)) := by
  obtain ⟨locs, X, rfl, -⟩ := A; subst hp
  obtain ⟨cl, Ar, -, S1, N1, H1, -⟩ := V
  have hin := inb_of S1 hj
  exact ow_st (fun t k => X.baloadBytes C.1 (j := j) (v := v) Ar.1 (State.isArrayOf_alike C.2.1.alike Ar.2.1) Ar.2.2 hin (H1.at hin hv) (g := mkF m pc Ls (.int j :: .ref a :: S)) rfl rfl (hb C.2.2.2.1 hd) t k) k
theorem ow_iastore (C : OwnCtx p s m meth c Z a0 tw y0 bytes ml ret) (A : OwnPos p l e R s m args below meth c h0 ws T h ck sk) {a : Addr} {kk : ClassId} {n j : Int32} {x : Int32} {vs : List Value} {dv : Value} {i : Nat} (V : Arv Z h a kk .int n vs dv) (hj : ¬ j < 0 ∧ j < n) (hi : j.toNatClampNeg = i) (hl : i < vs.length) (q : a ∈ ws ∨ h0.size ≤ a) (hd : decode bytes pc = .ok (.iastore, 1)) (hp : pc + 1 = pc')
    (k : ∀ T' h', Wr h h' a j.toNatClampNeg (.int x) → Arv Z h' a kk .int n (vs.set i (.int x)) dv → OwnPos p l e R s m args below meth c h0 ws T' h' ck sk → OwnWP p e below s h0 ws Q CK SK T' (mkF m pc' Ls S)) : OwnWP p e below s h0 ws Q CK SK T (mkF m pc Ls (.int x :: .int j :: .ref a :: S)) := by
  obtain ⟨locs, X, e1, N, K⟩ := A; subst hp
  obtain ⟨cl, Ar, q1, S1, N1, H1, G1⟩ := V
  have hin := inb_of S1 hj
  obtain ⟨T', h', X', e', W', st⟩ := stI X C.1 C.2.1 e1 Ar (j := j) hin (g := mkF m pc Ls (.int x :: .int j :: .ref a :: S)) rfl rfl (hb C.2.2.2.1 hd)
  exact ow_st st (k T' h' W' (Arv.set Ar q1 S1 N1 H1 G1 rfl W' i hi hl) ⟨_, X', e', fun y hy => (List.mem_append.mp hy).elim (N y) fun z => by cases List.mem_singleton.mp z; exact q, K.wr W' q⟩)
theorem ow_lastore (C : OwnCtx p s m meth c Z a0 tw y0 bytes ml ret) (A : OwnPos p l e R s m args below meth c h0 ws T h ck sk) {a : Addr} {kk : ClassId} {n j : Int32} {x : Int64} {vs : List Value} {dv : Value} {i : Nat} (V : Arv Z h a kk .long n vs dv) (hj : ¬ j < 0 ∧ j < n) (hi : j.toNatClampNeg = i) (hl : i < vs.length) (q : a ∈ ws ∨ h0.size ≤ a) (hd : decode bytes pc = .ok (.lastore, 1)) (hp : pc + 1 = pc')
    (k : ∀ T' h', Wr h h' a j.toNatClampNeg (.long x) → Arv Z h' a kk .long n (vs.set i (.long x)) dv → OwnPos p l e R s m args below meth c h0 ws T' h' ck sk → OwnWP p e below s h0 ws Q CK SK T' (mkF m pc' Ls S)) : OwnWP p e below s h0 ws Q CK SK T (mkF m pc Ls (.long x :: .int j :: .ref a :: S)) := by
  obtain ⟨locs, X, e1, N, K⟩ := A; subst hp
  obtain ⟨cl, Ar, q1, S1, N1, H1, G1⟩ := V
  have hin := inb_of S1 hj
  obtain ⟨T', h', X', e', W', st⟩ := stJ X C.1 C.2.1 e1 Ar (j := j) hin (g := mkF m pc Ls (.long x :: .int j :: .ref a :: S)) rfl rfl (hb C.2.2.2.1 hd)
  exact ow_st st (k T' h' W' (Arv.set Ar q1 S1 N1 H1 G1 rfl W' i hi hl) ⟨_, X', e', fun y hy => (List.mem_append.mp hy).elim (N y) fun z => by cases List.mem_singleton.mp z; exact q, K.wr W' q⟩)
theorem ow_bastore (C : OwnCtx p s m meth c Z a0 tw y0 bytes ml ret) (A : OwnPos p l e R s m args below meth c h0 ws T h ck sk) {a : Addr} {kk : ClassId} {n j : Int32} {x : Int32} {vs : List Value} {dv : Value} {i : Nat} (V : Arv Z h a kk .byte n vs dv) (hj : ¬ j < 0 ∧ j < n) (hi : j.toNatClampNeg = i) (hl : i < vs.length) (q : a ∈ ws ∨ h0.size ≤ a) (hd : decode bytes pc = .ok (.bastore, 1)) (hp : pc + 1 = pc')
    (k : ∀ T' h', Wr h h' a j.toNatClampNeg (.int x.toInt8.toInt32) → Arv Z h' a kk .byte n (vs.set i (.int x.toInt8.toInt32)) dv → OwnPos p l e R s m args below meth c h0 ws T' h' ck sk → OwnWP p e below s h0 ws Q CK SK T' (mkF m pc' Ls S)) : OwnWP p e below s h0 ws Q CK SK T (mkF m pc Ls (.int x :: .int j :: .ref a :: S)) := by
  obtain ⟨locs, X, e1, N, K⟩ := A; subst hp
  obtain ⟨cl, Ar, q1, S1, N1, H1, G1⟩ := V
  have hin := inb_of S1 hj
  obtain ⟨T', h', X', e', W', st⟩ := stB X C.1 C.2.1 e1 Ar (j := j) hin (g := mkF m pc Ls (.int x :: .int j :: .ref a :: S)) rfl rfl (hb C.2.2.2.1 hd)
  exact ow_st st (k T' h' W' (Arv.set Ar q1 S1 N1 H1 G1 (fits_nar_byte _) W' i hi hl) ⟨_, X', e', fun y hy => (List.mem_append.mp hy).elim (N y) fun z => by cases List.mem_singleton.mp z; exact q, K.wr W' q⟩)
theorem ow_initO (C : OwnCtx p s m meth c Z a0 tw y0 bytes ml ret) (A : OwnPos p l e R s m args below meth c h0 ws T h ck sk) {i W : Nat} {a : Addr} (w1 : Jvm.Cond.methodLink y0.cls i Lib.objectInit ∈ tw) (w2 : Jvm.Cond.instanceMethod Lib.objectInit ∈ tw) (w3 : Jvm.Cond.code Lib.objectInit ⟨#[0xb1]⟩ 1 none ∈ tw) (hsz : Ls.size = ml) (hd : decode bytes pc = .ok (.invokespecial i, 3)) (hp : pc + 3 = pc') (hf : 1 ≤ R.frames) (hW : 2 * 0 + (S.map fun v => v.category).sum ≤ W) (hl : W + 12 ≤ R.locals) (k : ∀ T', OwnPos p l e R s m args below meth c h0 ws T' h ck sk → OwnWP p e below s h0 ws Q CK SK T' (mkF m pc' Ls S)) : OwnWP p e below s h0 ws Q CK SK T (mkF m pc Ls (.ref a :: S)) := by
  obtain ⟨locs, X, e1, N, K⟩ := A; subst hp
  obtain ⟨T', X', e', st⟩ := initO X C.1 C.2.1 C.2.2.2.2.2.1 (C.2.2.1 _ w1) (C.2.2.1 _ w2) (C.2.2.1 _ w3) e1 (g := mkF m pc Ls (.ref a :: S)) rfl (hsz.trans C.2.2.2.2.1.symm) rfl (hb C.2.2.2.1 hd) hf (W := W) hW hl
  exact ow_st st (k T' ⟨locs, X', e', N, K⟩)
theorem ow_callS (C : OwnCtx p s m meth c Z a0 tw y0 bytes ml ret) (A : OwnPos p l e R s m args below meth c h0 ws T h ck sk) {rm : Room} {cb : ByteArray} {cm : Nat} {cr : Option FieldType} {ws' : List Addr} {Q' : Option Value → Heap → Prop} {y : MethodName} {i W ck' sk' : Nat} {argsL : List Value} (hM : OwnCtr l Z y cb cm cr rm argsL.toArray h ws' Q' []) (w1 : Jvm.Cond.methodLink y0.cls i y ∈ tw) (w2 : Jvm.Cond.static y ∈ tw) (w3 : Jvm.Cond.initialized y.cls ∈ tw) (w4 : Jvm.Cond.code y cb cm cr ∈ tw) (hy : y.cls ≠ "java/lang/invoke/MethodHandle" ∧ y.cls ≠ "java/lang/invoke/VarHandle") (hq : ∀ x ∈ ws', x ∈ ws ∨ h0.size ≤ x) (hfr : rm.frames + 1 ≤ R.frames) (hlo : W + (cm + 11) + rm.locals ≤ R.locals) (hck : ck + rm.cells = ck') (hsk : sk + rm.slots = sk') (hc : ck' ≤ R.cells) (hs : sk' ≤ R.slots) (hsz : Ls.size = ml) (hlen : ∀ sig, parseMethodDescriptor y.desc = some sig → argsL.length = sig.parameters.length) {st0 : List Value} (hst : st0 = argsL.reverse ++ S) (hW : 2 * 0 + (S.map fun v => v.category).sum ≤ W) (hd : decode bytes pc = .ok (.invokestatic i, 3)) (hp : pc + 3 = pc') (k : ∀ T' v, Keep h T'.heap ws' → Q' v T'.heap → OwnPos p l e R s m args below meth c h0 ws T' T'.heap ck' sk' → OwnWP p e below s h0 ws Q CK SK T' (mkF m pc' Ls (v.toList ++ S))) : OwnWP p e below s h0 ws Q CK SK T (mkF m pc Ls st0) := by
  obtain ⟨locs, X, e1, N, K⟩ := A; subst hp hck hsk hst
  obtain ⟨v, _, ⟨T', L', k', n'⟩, -, X', ⟨Lc, ⟨hN, hKe, hQ⟩, hl, hc', hs'⟩, st⟩ := Jvm.LawKit.callS X C.1 (y := y) C.2.2.2.2.2.1 (mvT C.2.1 (C.2.2.1 _ w1)) (mvT C.2.1 (C.2.2.1 _ w2)) (mvT C.2.1 (C.2.2.1 _ w3)) (mvT C.2.1 (C.2.2.1 _ w4)) hy (backOf (W := W) (Q := fun v hh L => ((∀ y ∈ L, y.base ∈ ws' ∨ h.size ≤ y.base) ∧ Keep h hh ws' ∧ Q' v hh)) hM C.2.1 (C.2.2.1 _ w4) (C.2.2.1 _ w3) hfr hlo) (g := mkF m pc Ls (argsL.reverse ++ S)) rfl (hsz.trans C.2.2.2.2.1.symm) (argsL := argsL) (rest := S) hlen rfl hW (hb C.2.2.2.1 hd) (fun _ _ => ⟨rfl, e1, hc, hs⟩)
  dsimp only [Pt.U, Pt.locs, Pt.cells, Pt.slots] at X' hl hc' hs' st hN hKe hQ
  subst hl hc' hs'
  exact ow_st st (k T' v hKe hQ ⟨_, X', rfl, fun y hy => (List.mem_append.mp hy).elim (N y) fun z => (hN y z).elim (fun u => hq _ u) fun u => Or.inr (Nat.le_trans K.1 u), K.trans hKe hq⟩)
theorem ow_callI (C : OwnCtx p s m meth c Z a0 tw y0 bytes ml ret) (A : OwnPos p l e R s m args below meth c h0 ws T h ck sk) {rm : Room} {cb : ByteArray} {cm : Nat} {ws' : List Addr} {Q' : Option Value → Heap → Prop} {y : MethodName} {i W ck' sk' : Nat} {argsL : List Value} {a : Addr} (hM : OwnCtr l Z y cb cm none rm (.ref a :: argsL).toArray h ws' Q' []) (hy1 : y.name = "<init>") (w1 : Jvm.Cond.methodLink y0.cls i y ∈ tw) (w2 : Jvm.Cond.instanceMethod y ∈ tw) (w3 : Jvm.Cond.initialized y.cls ∈ tw) (w4 : Jvm.Cond.code y cb cm none ∈ tw) (hy : y.cls ≠ "java/lang/invoke/MethodHandle" ∧ y.cls ≠ "java/lang/invoke/VarHandle") (hq : ∀ x ∈ ws', x ∈ ws ∨ h0.size ≤ x) (hfr : rm.frames + 1 ≤ R.frames) (hlo : W + (cm + 11) + rm.locals ≤ R.locals) (hck : ck + rm.cells = ck') (hsk : sk + rm.slots = sk') (hc : ck' ≤ R.cells) (hs : sk' ≤ R.slots) (hsz : Ls.size = ml) (hlen : ∀ sig, parseMethodDescriptor y.desc = some sig → argsL.length = sig.parameters.length) {st0 : List Value} (hst : st0 = argsL.reverse ++ .ref a :: S) (hW : 2 * 0 + (S.map fun v => v.category).sum ≤ W) (hd : decode bytes pc = .ok (.invokespecial i, 3)) (hp : pc + 3 = pc') (k : ∀ T' v, Keep h T'.heap ws' → Q' v T'.heap → OwnPos p l e R s m args below meth c h0 ws T' T'.heap ck' sk' → OwnWP p e below s h0 ws Q CK SK T' (mkF m pc' Ls (v.toList ++ S))) : OwnWP p e below s h0 ws Q CK SK T (mkF m pc Ls st0) := by
  obtain ⟨locs, X, e1, N, K⟩ := A; subst hp hck hsk hst
  obtain ⟨v, _, ⟨T', L', k', n'⟩, -, X', ⟨Lc, ⟨hN, hKe, hQ⟩, hl, hc', hs'⟩, st⟩ := X.specialBack C.1 (y := y) hy1 C.2.2.2.2.2.1 (mvT C.2.1 (C.2.2.1 _ w1)) (mvT C.2.1 (C.2.2.1 _ w2)) (mvT C.2.1 (C.2.2.1 _ w4)) hy (backOf (W := W) (Q := fun v hh L => ((∀ y ∈ L, y.base ∈ ws' ∨ h.size ≤ y.base) ∧ Keep h hh ws' ∧ Q' v hh)) hM C.2.1 (C.2.2.1 _ w4) (C.2.2.1 _ w3) hfr hlo) (g := mkF m pc Ls (argsL.reverse ++ .ref a :: S)) rfl (hsz.trans C.2.2.2.2.1.symm) (Steps.refl _) (a := a) (argsL := argsL) (rest := S) hlen rfl hW (hb C.2.2.2.1 hd) (fun _ _ => ⟨rfl, e1, hc, hs⟩)
  dsimp only [Pt.U, Pt.locs, Pt.cells, Pt.slots] at X' hl hc' hs' st hN hKe hQ
  subst hl hc' hs'
  exact ow_stT st (k T' v hKe hQ ⟨_, X', rfl, fun y hy => (List.mem_append.mp hy).elim (N y) fun z => (hN y z).elim (fun u => hq _ u) fun u => Or.inr (Nat.le_trans K.1 u), K.trans hKe hq⟩)
theorem ow_callV (C : OwnCtx p s m meth c Z a0 tw y0 bytes ml ret) (A : OwnPos p l e R s m args below meth c h0 ws T h ck sk) {rm : Room} {cb : ByteArray} {cm : Nat} {cr : Option FieldType} {ws' : List Addr} {Q' : Option Value → Heap → Prop} {y : MethodName} {i W ck' sk' : Nat} {argsL : List Value} {z : MethodName} {D : String} {a : Addr} (E : Exa Z h a D) (hM : OwnCtr l Z z cb cm cr rm (.ref a :: argsL).toArray h ws' Q' []) (w1 : Jvm.Cond.methodLink y0.cls i y ∈ tw) (w5 : Jvm.Cond.declares y ∈ tw) (hnf : ∀ s : State, ∀ args : Array Value, Z.Warmed39 s.vm → NotFace s y) (w6 : Jvm.Cond.selects D y z ∈ tw) (w2 : Jvm.Cond.instanceMethod z ∈ tw) (w3 : Jvm.Cond.initialized z.cls ∈ tw) (w4 : Jvm.Cond.code z cb cm cr ∈ tw) (hy : y.cls ≠ "java/lang/invoke/MethodHandle" ∧ y.cls ≠ "java/lang/invoke/VarHandle") (hq : ∀ x ∈ ws', x ∈ ws ∨ h0.size ≤ x) (hfr : rm.frames + 1 ≤ R.frames) (hlo : W + (cm + 11) + rm.locals ≤ R.locals) (hck : ck + rm.cells = ck') (hsk : sk + rm.slots = sk') (hc : ck' ≤ R.cells) (hs : sk' ≤ R.slots) (hsz : Ls.size = ml) (hlen : ∀ sig, parseMethodDescriptor y.desc = some sig → argsL.length = sig.parameters.length) {st0 : List Value} (hst : st0 = argsL.reverse ++ .ref a :: S) (hW : 2 * 0 + (S.map fun v => v.category).sum ≤ W) (hd : decode bytes pc = .ok (.invokevirtual i, 3)) (hp : pc + 3 = pc') (k : ∀ T' v, Keep h T'.heap ws' → Q' v T'.heap → OwnPos p l e R s m args below meth c h0 ws T' T'.heap ck' sk' → OwnWP p e below s h0 ws Q CK SK T' (mkF m pc' Ls (v.toList ++ S))) : OwnWP p e below s h0 ws Q CK SK T (mkF m pc Ls st0) := by
  obtain ⟨locs, X, e1, N, K⟩ := A; subst hp hck hsk hst
  obtain ⟨cq, kq, qa, qb, qc⟩ := isOf C.2.1 e1 E
  obtain ⟨v, _, ⟨T', L', k', n'⟩, -, X', ⟨Lc, ⟨hN, hKe, hQ⟩, hl, hc', hs'⟩, st⟩ := X.virtualBack C.1 (y := y) (z := z) C.2.2.2.2.2.1 (mvT C.2.1 (C.2.2.1 _ w1)) (mvT C.2.1 (C.2.2.1 _ w5)) (hnf s #[] C.2.1) (mvT C.2.1 (C.2.2.1 _ w6)) (mvT C.2.1 (C.2.2.1 _ w2)) hy (backOf (W := W) (Q := fun v hh L => ((∀ y ∈ L, y.base ∈ ws' ∨ h.size ≤ y.base) ∧ Keep h hh ws' ∧ Q' v hh)) hM C.2.1 (C.2.2.1 _ w4) (C.2.2.1 _ w3) hfr hlo) qa qc (g := mkF m pc Ls (argsL.reverse ++ .ref a :: S)) rfl (hsz.trans C.2.2.2.2.1.symm) (Steps.refl _) (argsL := argsL) (rest := S) hlen rfl hW (hb C.2.2.2.1 hd) (fun _ _ => ⟨rfl, e1, hc, hs⟩)
  dsimp only [Pt.U, Pt.locs, Pt.cells, Pt.slots] at X' hl hc' hs' st hN hKe hQ
  subst hl hc' hs'
  exact ow_stT st (k T' v hKe hQ ⟨_, X', rfl, fun y hy => (List.mem_append.mp hy).elim (N y) fun z => (hN y z).elim (fun u => hq _ u) fun u => Or.inr (Nat.le_trans K.1 u), K.trans hKe hq⟩)
theorem ow_selP {y : MethodName} {n : Nat} (hy : y.cls ≠ "java/lang/invoke/MethodHandle" ∧ y.cls ≠ "java/lang/invoke/VarHandle") (hins : (Jvm.Cond.instantiable y.cls n).before args s = true) (hpriv : (Jvm.Cond.privateMethod y).before args s = true) (hinst : (Jvm.Cond.instanceMethod y).before args s = true) :
    (Jvm.Cond.selects y.cls y y).before args s = true := by
  obtain ⟨c, k, hc, hk, -, hniab, -, -⟩ := Cond.instantiable_spec hins
  have hni : k.isInterface = false := (Bool.or_eq_false_iff.mp hniab).1
  obtain ⟨mk, methM, hnamed, hmethM, -, -⟩ := Cond.instanceMethod_spec hinst
  have hfound : s.methodFound? y.cls y.name y.desc = some mk := State.methodFound?_of_named hnamed hy
  have hcls : mk.cls = c := Option.some.inj ((findClass_of_methodNamed hnamed).symm.trans hc)
  have hsel : selectMethod {} s.vm c mk = .method mk := selectMethod_private hmethM (Cond.privateMethod_at hpriv mk methM hnamed hmethM)
  simp only [Cond.before, Cond.holds, Cond.value, hc, hfound, hnamed, hsel, hcls, hk]
  simp; exact hni
theorem ow_callP (C : OwnCtx p s m meth c Z a0 tw y0 bytes ml ret) (A : OwnPos p l e R s m args below meth c h0 ws T h ck sk) {rm : Room} {cb : ByteArray} {cm : Nat} {cr : Option FieldType} {ws' : List Addr} {Q' : Option Value → Heap → Prop} {y : MethodName} {i W ck' sk' : Nat} {argsL : List Value} {D : String} {a : Addr} (E : Exa Z h a D) (hM : OwnCtr l Z y cb cm cr rm (.ref a :: argsL).toArray h ws' Q' []) (w1 : Jvm.Cond.methodLink y0.cls i y ∈ tw) (w5 : Jvm.Cond.privateMethod y ∈ tw) {ni : Nat} (w6 : Jvm.Cond.instantiable y.cls ni ∈ tw) (w2 : Jvm.Cond.instanceMethod y ∈ tw) (w3 : Jvm.Cond.initialized y.cls ∈ tw) (w4 : Jvm.Cond.code y cb cm cr ∈ tw) (hy : y.cls ≠ "java/lang/invoke/MethodHandle" ∧ y.cls ≠ "java/lang/invoke/VarHandle") (hq : ∀ x ∈ ws', x ∈ ws ∨ h0.size ≤ x) (hfr : rm.frames + 1 ≤ R.frames) (hlo : W + (cm + 11) + rm.locals ≤ R.locals) (hck : ck + rm.cells = ck') (hsk : sk + rm.slots = sk') (hc : ck' ≤ R.cells) (hs : sk' ≤ R.slots) (hsz : Ls.size = ml) (hlen : ∀ sig, parseMethodDescriptor y.desc = some sig → argsL.length = sig.parameters.length) {st0 : List Value} (hst : st0 = argsL.reverse ++ .ref a :: S) (hW : 2 * 0 + (S.map fun v => v.category).sum ≤ W) (hd : decode bytes pc = .ok (.invokevirtual i, 3)) (hp : pc + 3 = pc') (k : ∀ T' v, Keep h T'.heap ws' → Q' v T'.heap → OwnPos p l e R s m args below meth c h0 ws T' T'.heap ck' sk' → OwnWP p e below s h0 ws Q CK SK T' (mkF m pc' Ls (v.toList ++ S))) : OwnWP p e below s h0 ws Q CK SK T (mkF m pc Ls st0) := by
  obtain ⟨locs, X, e1, N, K⟩ := A; subst hp hck hsk hst
  obtain ⟨cq, qa, qb⟩ := E.cell
  obtain ⟨v, _, ⟨T', L', k', n'⟩, -, X', ⟨Lc, ⟨hN, hKe, hQ⟩, hl, hc', hs'⟩, st⟩ := X.privateBack C.1 (y := y) C.2.2.2.2.2.1 (mvT C.2.1 (C.2.2.1 _ w1)) (mvT C.2.1 (C.2.2.1 _ w2)) (ow_selP hy (mvT C.2.1 (C.2.2.1 _ w6)) (mvP C.2.1 (C.2.2.1 _ w5)) (mvT C.2.1 (C.2.2.1 _ w2))) (Cond.privateMethod_at (mvP C.2.1 (C.2.2.1 _ w5) (args := #[]))) (mvT C.2.1 (C.2.2.1 _ w4)) hy (backOf (W := W) (Q := fun v hh L => ((∀ y ∈ L, y.base ∈ ws' ∨ h.size ≤ y.base) ∧ Keep h hh ws' ∧ Q' v hh)) hM C.2.1 (C.2.2.1 _ w4) (C.2.2.1 _ w3) hfr hlo) (g := mkF m pc Ls (argsL.reverse ++ .ref a :: S)) rfl (hsz.trans C.2.2.2.2.1.symm) (Steps.refl _) (a := a) (by rw [e1]; exact qa) qb (argsL := argsL) (rest := S) hlen rfl hW (hb C.2.2.2.1 hd) (fun _ _ => ⟨rfl, e1, hc, hs⟩)
  dsimp only [Pt.U, Pt.locs, Pt.cells, Pt.slots] at X' hl hc' hs' st hN hKe hQ
  subst hl hc' hs'
  exact ow_stT st (k T' v hKe hQ ⟨_, X', rfl, fun y hy => (List.mem_append.mp hy).elim (N y) fun z => (hN y z).elim (fun u => hq _ u) fun u => Or.inr (Nat.le_trans K.1 u), K.trans hKe hq⟩)
theorem ow_nf {y : MethodName} {D : String} (hw : ∀ d ∈ tw, d.before a0 Z = true) (w6 : Jvm.Cond.selects D y y ∈ tw) : ∀ s : State, ∀ args : Array Value, Z.Warmed39 s.vm → NotFace s y := fun s args hZ => notFace_of_selects (args := args) (mvT hZ (hw _ w6))
theorem ow_getS (C : OwnCtx p s m meth c Z a0 tw y0 bytes ml ret) (A : OwnPos p l e R s m args below meth c h0 ws T h ck sk) {i : Nat} {R0 O n d : String} {v : Value} (w : Jvm.Cond.fieldLink y0.cls i R0 n d ∈ tw) (via : Via Z R0 O n d) (F : Sta Z h O n d v) (hd : decode bytes pc = .ok (.getstatic i, 3)) (hp : pc + 3 = pc') (k : ∀ T', OwnPos p l e R s m args below meth c h0 ws T' h ck sk → OwnWP p e below s h0 ws Q CK SK T' (mkF m pc' Ls (v :: S))) : OwnWP p e below s h0 ws Q CK SK T (mkF m pc Ls S) := by
  obtain ⟨locs, X, e1, N, K⟩ := A; subst hp
  obtain ⟨T', X', e', st⟩ := getS2 X C.1 C.2.1 C.2.2.2.2.2.1 (host := "") (Or.inl (C.2.2.1 _ w)) via e1 F (g := mkF m pc Ls S) rfl (hb C.2.2.2.1 hd)
  exact ow_st st (k T' ⟨locs, X', e', N, K⟩)
end Own
end Jvm.RoadKit
namespace Jvm.Pilot.@@N@@
open Jvm Jvm.ClassFile Sem Op Lib Jvm.Free Jvm.Stand Jvm.LawKit Jvm.RoadKit Bundle Jvm.Pilot.@@N@@.Jvm.D
theorem tw_1 : (Jvm.Cond.initialized "java/lang/String") ∈ tables_1 := List.mem_of_getElem? (i := 1) rfl
theorem tw_9 : (Jvm.Cond.constant "com/example/tahan/tahan/HexDigitsValuePinLaw" (11 : Nat) (65535 : Int32)) ∈ tables_1 := List.mem_of_getElem? (i := 9) rfl
theorem tw_10 : (Jvm.Cond.methodLink "com/example/tahan/tahan/HexDigitsValuePinLaw" (12 : Nat) ({ cls := "com/example/tahan/tahan/HexDigits", name := "value", desc := "(C)I" } : Jvm.MethodName)) ∈ tables_1 := List.mem_of_getElem? (i := 10) rfl
theorem tw_11 : (Jvm.Cond.static ({ cls := "com/example/tahan/tahan/HexDigits", name := "value", desc := "(C)I" } : Jvm.MethodName)) ∈ tables_1 := List.mem_of_getElem? (i := 11) rfl
theorem tw_12 : (Jvm.Cond.initialized "com/example/tahan/tahan/HexDigits") ∈ tables_1 := List.mem_of_getElem? (i := 12) rfl
theorem tw_13 : (Jvm.Cond.code ({ cls := "com/example/tahan/tahan/HexDigits", name := "value", desc := "(C)I" } : Jvm.MethodName) prog_25_method_2_code (2 : Nat) (Option.some Jvm.ClassFile.FieldType.int)) ∈ tables_1 := List.mem_of_getElem? (i := 13) rfl
theorem tw_14 : (Jvm.Cond.methodLink "com/example/tahan/tahan/HexDigitsValuePinLaw" (18 : Nat) ({ cls := "java/lang/String", name := "charAt", desc := "(I)C" } : Jvm.MethodName)) ∈ tables_1 := List.mem_of_getElem? (i := 14) rfl
theorem tw_15 : (Jvm.Cond.declares ({ cls := "java/lang/String", name := "charAt", desc := "(I)C" } : Jvm.MethodName)) ∈ tables_1 := List.mem_of_getElem? (i := 15) rfl
theorem tw_16 : (Jvm.Cond.instanceMethod ({ cls := "java/lang/String", name := "charAt", desc := "(I)C" } : Jvm.MethodName)) ∈ tables_1 := List.mem_of_getElem? (i := 16) rfl
theorem tw_17 : (Jvm.Cond.selects "java/lang/String" ({ cls := "java/lang/String", name := "charAt", desc := "(I)C" } : Jvm.MethodName) ({ cls := "java/lang/String", name := "charAt", desc := "(I)C" } : Jvm.MethodName)) ∈ tables_1 := List.mem_of_getElem? (i := 17) rfl
theorem tw_18 : (Jvm.Cond.code ({ cls := "java/lang/String", name := "charAt", desc := "(I)C" } : Jvm.MethodName) jdk_42_method_56_code (2 : Nat) (Option.some Jvm.ClassFile.FieldType.char)) ∈ tables_1 := List.mem_of_getElem? (i := 18) rfl
theorem tw_19 : (Jvm.Cond.methodLink "java/lang/String" (492 : Nat) ({ cls := "java/lang/String", name := "isLatin1", desc := "()Z" } : Jvm.MethodName)) ∈ tables_1 := List.mem_of_getElem? (i := 19) rfl
theorem tw_20 : (Jvm.Cond.declares ({ cls := "java/lang/String", name := "isLatin1", desc := "()Z" } : Jvm.MethodName)) ∈ tables_1 := List.mem_of_getElem? (i := 20) rfl
theorem tw_21 : (Jvm.Cond.instanceMethod ({ cls := "java/lang/String", name := "isLatin1", desc := "()Z" } : Jvm.MethodName)) ∈ tables_1 := List.mem_of_getElem? (i := 21) rfl
theorem tw_22 : (Jvm.Cond.selects "java/lang/String" ({ cls := "java/lang/String", name := "isLatin1", desc := "()Z" } : Jvm.MethodName) ({ cls := "java/lang/String", name := "isLatin1", desc := "()Z" } : Jvm.MethodName)) ∈ tables_1 := List.mem_of_getElem? (i := 22) rfl
theorem tw_23 : (Jvm.Cond.code ({ cls := "java/lang/String", name := "isLatin1", desc := "()Z" } : Jvm.MethodName) jdk_42_method_154_code (1 : Nat) (Option.some Jvm.ClassFile.FieldType.boolean)) ∈ tables_1 := List.mem_of_getElem? (i := 23) rfl
theorem tw_24 : (Jvm.Cond.fieldLink "java/lang/String" (38 : Nat) "java/lang/String" "COMPACT_STRINGS" "Z") ∈ tables_1 := List.mem_of_getElem? (i := 24) rfl
theorem tw_25 : (Jvm.Cond.fieldLink "java/lang/String" (15 : Nat) "java/lang/String" "coder" "B") ∈ tables_1 := List.mem_of_getElem? (i := 25) rfl
theorem tw_26 : (Jvm.Cond.fieldLink "java/lang/String" (9 : Nat) "java/lang/String" "value" "[B") ∈ tables_1 := List.mem_of_getElem? (i := 26) rfl
theorem tw_27 : (Jvm.Cond.methodLink "java/lang/String" (495 : Nat) ({ cls := "java/lang/StringLatin1", name := "charAt", desc := "([BI)C" } : Jvm.MethodName)) ∈ tables_1 := List.mem_of_getElem? (i := 27) rfl
theorem tw_28 : (Jvm.Cond.static ({ cls := "java/lang/StringLatin1", name := "charAt", desc := "([BI)C" } : Jvm.MethodName)) ∈ tables_1 := List.mem_of_getElem? (i := 28) rfl
theorem tw_29 : (Jvm.Cond.initialized "java/lang/StringLatin1") ∈ tables_1 := List.mem_of_getElem? (i := 29) rfl
theorem tw_30 : (Jvm.Cond.code ({ cls := "java/lang/StringLatin1", name := "charAt", desc := "([BI)C" } : Jvm.MethodName) jdk_43_method_2_code (2 : Nat) (Option.some Jvm.ClassFile.FieldType.char)) ∈ tables_1 := List.mem_of_getElem? (i := 30) rfl
theorem tw_31 : (Jvm.Cond.methodLink "java/lang/StringLatin1" (9 : Nat) ({ cls := "java/lang/String", name := "checkIndex", desc := "(II)V" } : Jvm.MethodName)) ∈ tables_1 := List.mem_of_getElem? (i := 31) rfl
theorem tw_32 : (Jvm.Cond.static ({ cls := "java/lang/String", name := "checkIndex", desc := "(II)V" } : Jvm.MethodName)) ∈ tables_1 := List.mem_of_getElem? (i := 32) rfl
theorem tw_33 : (Jvm.Cond.code ({ cls := "java/lang/String", name := "checkIndex", desc := "(II)V" } : Jvm.MethodName) jdk_42_method_155_code (2 : Nat) (Option.none : Option Jvm.ClassFile.FieldType)) ∈ tables_1 := List.mem_of_getElem? (i := 33) rfl
theorem tw_34 : (Jvm.Cond.fieldLink "java/lang/String" (1053 : Nat) "jdk/internal/util/Preconditions" "SIOOBE_FORMATTER" "Ljava/util/function/BiFunction;") ∈ tables_1 := List.mem_of_getElem? (i := 34) rfl
theorem tw_35 : (Jvm.Cond.initialized "jdk/internal/util/Preconditions") ∈ tables_1 := List.mem_of_getElem? (i := 35) rfl
theorem tw_36 : (Jvm.Cond.methodLink "java/lang/String" (1059 : Nat) ({ cls := "jdk/internal/util/Preconditions", name := "checkIndex", desc := "(IILjava/util/function/BiFunction;)I" } : Jvm.MethodName)) ∈ tables_1 := List.mem_of_getElem? (i := 36) rfl
theorem tw_37 : (Jvm.Cond.static ({ cls := "jdk/internal/util/Preconditions", name := "checkIndex", desc := "(IILjava/util/function/BiFunction;)I" } : Jvm.MethodName)) ∈ tables_1 := List.mem_of_getElem? (i := 37) rfl
theorem tw_38 : (Jvm.Cond.code ({ cls := "jdk/internal/util/Preconditions", name := "checkIndex", desc := "(IILjava/util/function/BiFunction;)I" } : Jvm.MethodName) jdk_41_method_11_code (3 : Nat) (Option.some Jvm.ClassFile.FieldType.int)) ∈ tables_1 := List.mem_of_getElem? (i := 38) rfl
theorem pd_0 : parseMethodDescriptor "(IILjava/util/function/BiFunction;)I" = some ⟨[.int, .int, (.object "java/util/function/BiFunction")], some .int⟩ := by decide +kernel
theorem pd_1 : parseMethodDescriptor "(II)V" = some ⟨[.int, .int], none⟩ := by decide +kernel
theorem pd_2 : parseMethodDescriptor "()Z" = some ⟨[], some .boolean⟩ := by decide +kernel
theorem pd_3 : parseMethodDescriptor "([BI)C" = some ⟨[(.array .byte), .int], some .char⟩ := by decide +kernel
theorem pd_4 : parseMethodDescriptor "(C)I" = some ⟨[.char], some .int⟩ := by decide +kernel
theorem pd_5 : parseMethodDescriptor "(I)C" = some ⟨[.int], some .char⟩ := by decide +kernel
theorem d1_0 : decode prog_25_method_2_code 0 = .ok (.iconst (-1), 1) := by decide +kernel
theorem d1_1 : decode prog_25_method_2_code 1 = .ok (.istore_n 1, 1) := by decide +kernel
theorem d1_2 : decode prog_25_method_2_code 2 = .ok (.iload_n 0, 1) := by decide +kernel
theorem d1_3 : decode prog_25_method_2_code 3 = .ok (.bipush 48, 2) := by decide +kernel
theorem d1_5 : decode prog_25_method_2_code 5 = .ok (.if_icmp .lt 17, 3) := by decide +kernel
theorem d1_8 : decode prog_25_method_2_code 8 = .ok (.iload_n 0, 1) := by decide +kernel
theorem d1_9 : decode prog_25_method_2_code 9 = .ok (.bipush 57, 2) := by decide +kernel
theorem d1_11 : decode prog_25_method_2_code 11 = .ok (.if_icmp .gt 11, 3) := by decide +kernel
theorem d1_14 : decode prog_25_method_2_code 14 = .ok (.iload_n 0, 1) := by decide +kernel
theorem d1_15 : decode prog_25_method_2_code 15 = .ok (.bipush 48, 2) := by decide +kernel
theorem d1_17 : decode prog_25_method_2_code 17 = .ok (.isub, 1) := by decide +kernel
theorem d1_18 : decode prog_25_method_2_code 18 = .ok (.istore_n 1, 1) := by decide +kernel
theorem d1_19 : decode prog_25_method_2_code 19 = .ok (.goto 46, 3) := by decide +kernel
theorem d1_22 : decode prog_25_method_2_code 22 = .ok (.iload_n 0, 1) := by decide +kernel
theorem d1_23 : decode prog_25_method_2_code 23 = .ok (.bipush 65, 2) := by decide +kernel
theorem d1_25 : decode prog_25_method_2_code 25 = .ok (.if_icmp .lt 20, 3) := by decide +kernel
theorem d1_28 : decode prog_25_method_2_code 28 = .ok (.iload_n 0, 1) := by decide +kernel
theorem d1_29 : decode prog_25_method_2_code 29 = .ok (.bipush 70, 2) := by decide +kernel
theorem d1_31 : decode prog_25_method_2_code 31 = .ok (.if_icmp .gt 14, 3) := by decide +kernel
theorem d1_34 : decode prog_25_method_2_code 34 = .ok (.iload_n 0, 1) := by decide +kernel
theorem d1_35 : decode prog_25_method_2_code 35 = .ok (.bipush 65, 2) := by decide +kernel
theorem d1_37 : decode prog_25_method_2_code 37 = .ok (.isub, 1) := by decide +kernel
theorem d1_38 : decode prog_25_method_2_code 38 = .ok (.bipush 10, 2) := by decide +kernel
theorem d1_40 : decode prog_25_method_2_code 40 = .ok (.iadd, 1) := by decide +kernel
theorem d1_41 : decode prog_25_method_2_code 41 = .ok (.istore_n 1, 1) := by decide +kernel
theorem d1_42 : decode prog_25_method_2_code 42 = .ok (.goto 23, 3) := by decide +kernel
theorem d1_45 : decode prog_25_method_2_code 45 = .ok (.iload_n 0, 1) := by decide +kernel
theorem d1_46 : decode prog_25_method_2_code 46 = .ok (.bipush 97, 2) := by decide +kernel
theorem d1_48 : decode prog_25_method_2_code 48 = .ok (.if_icmp .lt 17, 3) := by decide +kernel
theorem d1_51 : decode prog_25_method_2_code 51 = .ok (.iload_n 0, 1) := by decide +kernel
theorem d1_52 : decode prog_25_method_2_code 52 = .ok (.bipush 102, 2) := by decide +kernel
theorem d1_54 : decode prog_25_method_2_code 54 = .ok (.if_icmp .gt 11, 3) := by decide +kernel
theorem d1_57 : decode prog_25_method_2_code 57 = .ok (.iload_n 0, 1) := by decide +kernel
theorem d1_58 : decode prog_25_method_2_code 58 = .ok (.bipush 97, 2) := by decide +kernel
theorem d1_60 : decode prog_25_method_2_code 60 = .ok (.isub, 1) := by decide +kernel
theorem d1_61 : decode prog_25_method_2_code 61 = .ok (.bipush 10, 2) := by decide +kernel
theorem d1_63 : decode prog_25_method_2_code 63 = .ok (.iadd, 1) := by decide +kernel
theorem d1_64 : decode prog_25_method_2_code 64 = .ok (.istore_n 1, 1) := by decide +kernel
theorem d1_65 : decode prog_25_method_2_code 65 = .ok (.iload_n 1, 1) := by decide +kernel
theorem d1_66 : decode prog_25_method_2_code 66 = .ok (.ireturn, 1) := by decide +kernel
theorem d2_0 : decode jdk_42_method_56_code 0 = .ok (.aload_n 0, 1) := by decide +kernel
theorem d2_1 : decode jdk_42_method_56_code 1 = .ok (.invokevirtual 492, 3) := by decide +kernel
theorem d2_4 : decode jdk_42_method_56_code 4 = .ok (.ifCond .eq 12, 3) := by decide +kernel
theorem d2_7 : decode jdk_42_method_56_code 7 = .ok (.aload_n 0, 1) := by decide +kernel
theorem d2_8 : decode jdk_42_method_56_code 8 = .ok (.getfield 9, 3) := by decide +kernel
theorem d2_11 : decode jdk_42_method_56_code 11 = .ok (.iload_n 1, 1) := by decide +kernel
theorem d2_12 : decode jdk_42_method_56_code 12 = .ok (.invokestatic 495, 3) := by decide +kernel
theorem d2_15 : decode jdk_42_method_56_code 15 = .ok (.ireturn, 1) := by decide +kernel
theorem d3_0 : decode jdk_42_method_154_code 0 = .ok (.getstatic 38, 3) := by decide +kernel
theorem d3_3 : decode jdk_42_method_154_code 3 = .ok (.ifCond .eq 14, 3) := by decide +kernel
theorem d3_6 : decode jdk_42_method_154_code 6 = .ok (.aload_n 0, 1) := by decide +kernel
theorem d3_7 : decode jdk_42_method_154_code 7 = .ok (.getfield 15, 3) := by decide +kernel
theorem d3_10 : decode jdk_42_method_154_code 10 = .ok (.ifCond .ne 7, 3) := by decide +kernel
theorem d3_13 : decode jdk_42_method_154_code 13 = .ok (.iconst 1, 1) := by decide +kernel
theorem d3_14 : decode jdk_42_method_154_code 14 = .ok (.goto 4, 3) := by decide +kernel
theorem d3_18 : decode jdk_42_method_154_code 18 = .ok (.ireturn, 1) := by decide +kernel
theorem d4_0 : decode jdk_43_method_2_code 0 = .ok (.iload_n 1, 1) := by decide +kernel
theorem d4_1 : decode jdk_43_method_2_code 1 = .ok (.aload_n 0, 1) := by decide +kernel
theorem d4_2 : decode jdk_43_method_2_code 2 = .ok (.arraylength, 1) := by decide +kernel
theorem d4_3 : decode jdk_43_method_2_code 3 = .ok (.invokestatic 9, 3) := by decide +kernel
theorem d4_6 : decode jdk_43_method_2_code 6 = .ok (.aload_n 0, 1) := by decide +kernel
theorem d4_7 : decode jdk_43_method_2_code 7 = .ok (.iload_n 1, 1) := by decide +kernel
theorem d4_8 : decode jdk_43_method_2_code 8 = .ok (.baload, 1) := by decide +kernel
theorem d4_9 : decode jdk_43_method_2_code 9 = .ok (.sipush 255, 3) := by decide +kernel
theorem d4_12 : decode jdk_43_method_2_code 12 = .ok (.iand, 1) := by decide +kernel
theorem d4_13 : decode jdk_43_method_2_code 13 = .ok (.i2c, 1) := by decide +kernel
theorem d4_14 : decode jdk_43_method_2_code 14 = .ok (.ireturn, 1) := by decide +kernel
theorem d5_0 : decode jdk_42_method_155_code 0 = .ok (.iload_n 0, 1) := by decide +kernel
theorem d5_1 : decode jdk_42_method_155_code 1 = .ok (.iload_n 1, 1) := by decide +kernel
theorem d5_2 : decode jdk_42_method_155_code 2 = .ok (.getstatic 1053, 3) := by decide +kernel
theorem d5_5 : decode jdk_42_method_155_code 5 = .ok (.invokestatic 1059, 3) := by decide +kernel
theorem d5_8 : decode jdk_42_method_155_code 8 = .ok (.pop, 1) := by decide +kernel
theorem d5_9 : decode jdk_42_method_155_code 9 = .ok (.return_, 1) := by decide +kernel
theorem d6_0 : decode jdk_41_method_11_code 0 = .ok (.iload_n 0, 1) := by decide +kernel
theorem d6_1 : decode jdk_41_method_11_code 1 = .ok (.ifCond .lt 8, 3) := by decide +kernel
theorem d6_4 : decode jdk_41_method_11_code 4 = .ok (.iload_n 0, 1) := by decide +kernel
theorem d6_5 : decode jdk_41_method_11_code 5 = .ok (.iload_n 1, 1) := by decide +kernel
theorem d6_6 : decode jdk_41_method_11_code 6 = .ok (.if_icmp .lt 10, 3) := by decide +kernel
theorem d6_16 : decode jdk_41_method_11_code 16 = .ok (.iload_n 0, 1) := by decide +kernel
theorem d6_17 : decode jdk_41_method_11_code 17 = .ok (.ireturn, 1) := by decide +kernel
theorem pn_0 : plainFor x = true := plainFor_of_name (by first | (simp [plainName, overriddenIn]; done) | decide +kernel)
theorem pn_1 : plainFor (⟨"com/example/tahan/tahan/HexDigits", "value", "(C)I"⟩ : MethodName) = true := plainFor_of_name (by first | (simp [plainName, overriddenIn]; done) | decide +kernel)
theorem pn_2 : plainFor (⟨"java/lang/String", "charAt", "(I)C"⟩ : MethodName) = true := plainFor_of_name (by first | (simp [plainName, overriddenIn]; done) | decide +kernel)
theorem pn_3 : plainFor (⟨"java/lang/String", "isLatin1", "()Z"⟩ : MethodName) = true := plainFor_of_name (by first | (simp [plainName, overriddenIn]; done) | decide +kernel)
theorem pn_4 : plainFor (⟨"java/lang/StringLatin1", "charAt", "([BI)C"⟩ : MethodName) = true := plainFor_of_name (by first | (simp [plainName, overriddenIn]; done) | decide +kernel)
theorem pn_5 : plainFor (⟨"java/lang/String", "checkIndex", "(II)V"⟩ : MethodName) = true := plainFor_of_name (by first | (simp [plainName, overriddenIn]; done) | decide +kernel)
theorem pn_6 : plainFor (⟨"jdk/internal/util/Preconditions", "checkIndex", "(IILjava/util/function/BiFunction;)I"⟩ : MethodName) = true := plainFor_of_name (by first | (simp [plainName, overriddenIn]; done) | decide +kernel)
theorem own_lt32 {a b : Int32} (h : a.toInt < b.toInt) : a < b := Int32.lt_iff_toInt_lt.mpr h
theorem own_nlt32 {a b : Int32} (h : ¬ a.toInt < b.toInt) : ¬ a < b := fun z => h (Int32.lt_iff_toInt_lt.mp z)
theorem own_eq32 {a b : Int32} (h : a.toInt = b.toInt) : a = b := Int32.toInt_inj.mp h
theorem own_ne32 {a b : Int32} (h : ¬ a.toInt = b.toInt) : ¬ a = b := fun z => h (congrArg Int32.toInt z)
theorem own_lt32' {a b : Int32} (h : a < b) : a.toInt < b.toInt := Int32.lt_iff_toInt_lt.mp h
theorem own_nlt32' {a b : Int32} (h : ¬ a < b) : ¬ a.toInt < b.toInt := fun z => h (Int32.lt_iff_toInt_lt.mpr z)
theorem own_eq32' {a b : Int32} (h : a = b) : a.toInt = b.toInt := congrArg Int32.toInt h
theorem own_ne32' {a b : Int32} (h : ¬ a = b) : ¬ a.toInt = b.toInt := fun z => h (Int32.toInt_inj.mp z)
theorem own_lt64 {a b : Int64} (h : a.toInt < b.toInt) : a < b := Int64.lt_iff_toInt_lt.mpr h
theorem own_nlt64 {a b : Int64} (h : ¬ a.toInt < b.toInt) : ¬ a < b := fun z => h (Int64.lt_iff_toInt_lt.mp z)
theorem own_eq64 {a b : Int64} (h : a.toInt = b.toInt) : a = b := Int64.toInt_inj.mp h
theorem own_ne64 {a b : Int64} (h : ¬ a.toInt = b.toInt) : ¬ a = b := fun z => h (congrArg Int64.toInt z)
theorem own_lt64' {a b : Int64} (h : a < b) : a.toInt < b.toInt := Int64.lt_iff_toInt_lt.mp h
theorem own_nlt64' {a b : Int64} (h : ¬ a < b) : ¬ a.toInt < b.toInt := fun z => h (Int64.lt_iff_toInt_lt.mpr z)
theorem own_eq64' {a b : Int64} (h : a = b) : a.toInt = b.toInt := congrArg Int64.toInt h
theorem own_ne64' {a b : Int64} (h : ¬ a = b) : ¬ a.toInt = b.toInt := fun z => h (Int64.toInt_inj.mp z)
def rmz : Room := { frames := 0, cells := 0, slots := 0, locals := 0 }
def rm1 : Room := { frames := 1, cells := 0, slots := 0, locals := 16 }
def rm2 : Room := { frames := 2, cells := 0, slots := 0, locals := 32 }
def rm3 : Room := { frames := 3, cells := 0, slots := 0, locals := 48 }
def QI (x : Int32) (h0 : Heap) (v : Option Value) (h : Heap) : Prop := v = some (.int x) ∧ h = h0
def QV (h0 : Heap) (v : Option Value) (h : Heap) : Prop := v = none ∧ h = h0
def QH (z : Int32) (h0 : Heap) (v : Option Value) (h : Heap) : Prop := h = h0 ∧ ∃ r : Int32, v = some (.int r) ∧ ((r = -1) ∨ (48 ≤ z.toInt ∧ z.toInt ≤ 57 ∧ r.toInt = z.toInt - 48) ∨ (65 ≤ z.toInt ∧ z.toInt ≤ 70 ∧ r.toInt = z.toInt - 55) ∨ (97 ≤ z.toInt ∧ z.toInt ≤ 102 ∧ r.toInt = z.toInt - 87)) ∧ (r = -1 → ¬ (48 ≤ z.toInt ∧ z.toInt ≤ 57) ∧ ¬ (65 ≤ z.toInt ∧ z.toInt ≤ 70) ∧ ¬ (97 ≤ z.toInt ∧ z.toInt ≤ 102))
def Q0 (v : Option Value) (h : Heap) : Prop := v = some (.int 1)
def own_VL : List Value := [(.int (48 : Int32)), (.int (49 : Int32)), (.int (50 : Int32)), (.int (51 : Int32)), (.int (52 : Int32)), (.int (53 : Int32)), (.int (54 : Int32)), (.int (55 : Int32)), (.int (56 : Int32)), (.int (57 : Int32)), (.int (97 : Int32)), (.int (98 : Int32)), (.int (99 : Int32)), (.int (100 : Int32)), (.int (101 : Int32)), (.int (102 : Int32))]
def own_VU : List Value := [(.int (48 : Int32)), (.int (49 : Int32)), (.int (50 : Int32)), (.int (51 : Int32)), (.int (52 : Int32)), (.int (53 : Int32)), (.int (54 : Int32)), (.int (55 : Int32)), (.int (56 : Int32)), (.int (57 : Int32)), (.int (65 : Int32)), (.int (66 : Int32)), (.int (67 : Int32)), (.int (68 : Int32)), (.int (69 : Int32)), (.int (70 : Int32))]
def own_lc (n : Nat) : Int32 := if n ≤ 9 then Int32.ofNat (48 + n) else Int32.ofNat (87 + n)
def own_uc (n : Nat) : Int32 := if n ≤ 9 then Int32.ofNat (48 + n) else Int32.ofNat (55 + n)
theorem own_lca : ∀ n, n < 16 → own_VL.getD n (.int (0 : Int32)) = .int (own_lc n)
  | 0, _ => rfl
  | 1, _ => rfl
  | 2, _ => rfl
  | 3, _ => rfl
  | 4, _ => rfl
  | 5, _ => rfl
  | 6, _ => rfl
  | 7, _ => rfl
  | 8, _ => rfl
  | 9, _ => rfl
  | 10, _ => rfl
  | 11, _ => rfl
  | 12, _ => rfl
  | 13, _ => rfl
  | 14, _ => rfl
  | 15, _ => rfl
  | n + 16, h => absurd h (by omega)
theorem own_uca : ∀ n, n < 16 → own_VU.getD n (.int (0 : Int32)) = .int (own_uc n)
  | 0, _ => rfl
  | 1, _ => rfl
  | 2, _ => rfl
  | 3, _ => rfl
  | 4, _ => rfl
  | 5, _ => rfl
  | 6, _ => rfl
  | 7, _ => rfl
  | 8, _ => rfl
  | 9, _ => rfl
  | 10, _ => rfl
  | 11, _ => rfl
  | 12, _ => rfl
  | 13, _ => rfl
  | 14, _ => rfl
  | 15, _ => rfl
  | n + 16, h => absurd h (by omega)
theorem own_tn (i : Int32) : i.toNatClampNeg = i.toInt.toNat := rfl
theorem own_low (j : Int32) (h : 0 ≤ j.toInt ∧ j.toInt ≤ 15) : ∃ x : Int32, own_VL.getD j.toNatClampNeg (.int (0 : Int32)) = .int x ∧ 0 ≤ x.toInt ∧ x.toInt ≤ 127 ∧ (j.toInt ≤ 9 → x.toInt = 48 + j.toInt) ∧ (¬ j.toInt ≤ 9 → x.toInt = 87 + j.toInt) := by
  have t := own_tn j
  refine ⟨_, own_lca _ (by omega), ?_⟩
  unfold own_lc
  split
  · rw [Int32.toInt_ofNat_of_lt (by omega)]; omega
  · rw [Int32.toInt_ofNat_of_lt (by omega)]; omega
theorem own_upp (j : Int32) (h : 0 ≤ j.toInt ∧ j.toInt ≤ 15) : ∃ x : Int32, own_VU.getD j.toNatClampNeg (.int (0 : Int32)) = .int x ∧ 0 ≤ x.toInt ∧ x.toInt ≤ 127 ∧ (j.toInt ≤ 9 → x.toInt = 48 + j.toInt) ∧ (¬ j.toInt ≤ 9 → x.toInt = 55 + j.toInt) := by
  have t := own_tn j
  refine ⟨_, own_uca _ (by omega), ?_⟩
  unfold own_uc
  split
  · rw [Int32.toInt_ofNat_of_lt (by omega)]; omega
  · rw [Int32.toInt_ofNat_of_lt (by omega)]; omega
theorem own_p8 : ((2 ^ 8 : Nat) : Int) = 256 := rfl
theorem own_p4 : ((2 ^ 4 : Nat) : Int) = 16 := rfl
theorem own_c255 (x : Int32) (h : 0 ≤ x.toInt ∧ x.toInt ≤ 127) : (x &&& 255).toUInt32.toUInt16.toUInt32.toInt32 = x := by
  have e := (c_mask x 255 8 (by decide) (by decide)).trans (by rw [own_p8])
  have e2 := c_i2c (x &&& 255)
  apply Int32.toInt_inj.mp
  omega
theorem own_nar (x : Int32) (h : 0 ≤ x.toInt ∧ x.toInt ≤ 127) : narrow .char (.int x) = .int x := by
  have e2 := c_i2c x
  have q : x.toUInt32.toUInt16.toUInt32.toInt32 = x := by apply Int32.toInt_inj.mp; omega
  show Value.int x.toUInt32.toUInt16.toUInt32.toInt32 = .int x
  rw [q]
theorem own_ch (x : Int32) : 0 ≤ (x &&& 65535).toUInt32.toUInt16.toUInt32.toInt32.toInt ∧ (x &&& 65535).toUInt32.toUInt16.toUInt32.toInt32.toInt < 65536 := (c_i2c (x &&& 65535)).2
theorem own_15 (x : Int32) : 0 ≤ (x &&& 15).toInt ∧ (x &&& 15).toInt ≤ 15 := c_and x 15 (by decide)
theorem own_sub (x y : Int32) (k d : Int) (hy : y.toInt = k) (h0 : 0 ≤ x.toInt - k) (h1 : 0 ≤ x.toInt ∧ x.toInt < 65536) (hk : 0 ≤ k) : (x - y).toInt = x.toInt - k := by
  have e := c_isub x y
  have r := rng32 (x - y)
  rw [hy] at e; omega
theorem own_add10 (x : Int32) (h : 0 ≤ x.toInt ∧ x.toInt < 65536) : (x + 10).toInt = x.toInt + 10 := by
  have e := c_iadd x 10
  have k : (10 : Int32).toInt = 10 := rfl
  have r := rng32 (x + 10)
  omega
set_option maxRecDepth 65536 in
set_option maxHeartbeats 40000000 in
theorem rm_val (l : Launch) (Z : State) (a0 : Array Value) (hw : ∀ d ∈ tables_1, d.before a0 Z = true) (z : Int32) (h0 : Heap) (hz : 0 ≤ z.toInt ∧ z.toInt < 65536) (cs : List Jvm.Cond) :
    OwnCtr l Z (⟨"com/example/tahan/tahan/HexDigits", "value", "(C)I"⟩ : MethodName) prog_25_method_2_code 2 (some .int) rmz #[(.int z)] h0 [] (QH z h0) cs := by
  refine ow_ctr pn_1 hw (Ls := #[.val (.int z), .unset]) (fun m => by first | (simp [entryFrame, mkF, argsToLocals, Value.category]; done) | rfl) ?_
  intro p e s m below meth c T0 C A0
  have hl := hz.1
  have hu := hz.2
  refine ow_iconst C A0 d1_0 (v := (-1)) rfl rfl ?_
  refine ow_istoreN C A0 d1_1 (Ls' := #[.val (.int z), .val (.int (-1 : Int32))]) rfl rfl ?_
  refine ow_iloadN C A0 d1_2 rfl rfl ?_
  refine ow_bipush C A0 d1_3 (v := 48) rfl rfl ?_
  refine ow_icmp_lt C A0 d1_5 (by decide) (pcY := 22) (by decide) (pcN := 8) rfl (fun hc5 => ?_) (fun hc5 => ?_)
  · skip
    have iv1 : z.toInt < 48 := own_lt32' hc5
    refine ow_iloadN C A0 d1_22 rfl rfl ?_
    refine ow_bipush C A0 d1_23 (v := 65) rfl rfl ?_
    refine ow_icmp_lt C A0 d1_25 (by decide) (pcY := 45) (by decide) (pcN := 28) rfl (fun _ => ?_) (fun zq => absurd (own_lt32 (by show z.toInt < 65; omega)) zq)
    refine ow_iloadN C A0 d1_45 rfl rfl ?_
    refine ow_bipush C A0 d1_46 (v := 97) rfl rfl ?_
    refine ow_icmp_lt C A0 d1_48 (by decide) (pcY := 65) (by decide) (pcN := 51) rfl (fun _ => ?_) (fun zq => absurd (own_lt32 (by show z.toInt < 97; omega)) zq)
    refine ow_iloadN C A0 d1_65 rfl rfl ?_
    refine ow_ireturn C A0 (t := .int) rfl rfl (by simp) d1_66 (by decide) (by decide) ?_
    exact ⟨rfl, _, rfl, Or.inl rfl, fun _ => ⟨by omega, by omega, by omega⟩⟩
  · skip
    have iv2 : ¬ (z.toInt < 48) := own_nlt32' hc5
    refine ow_iloadN C A0 d1_8 rfl rfl ?_
    refine ow_bipush C A0 d1_9 (v := 57) rfl rfl ?_
    refine ow_icmp_gt C A0 d1_11 (by decide) (pcY := 22) (by decide) (pcN := 14) rfl (fun hc11 => ?_) (fun hc11 => ?_)
    · skip
      have iv3 : 57 < z.toInt := own_lt32' hc11
      refine ow_iloadN C A0 d1_22 rfl rfl ?_
      refine ow_bipush C A0 d1_23 (v := 65) rfl rfl ?_
      refine ow_icmp_lt C A0 d1_25 (by decide) (pcY := 45) (by decide) (pcN := 28) rfl (fun hc25 => ?_) (fun hc25 => ?_)
      · skip
        have iv4 : z.toInt < 65 := own_lt32' hc25
        refine ow_iloadN C A0 d1_45 rfl rfl ?_
        refine ow_bipush C A0 d1_46 (v := 97) rfl rfl ?_
        refine ow_icmp_lt C A0 d1_48 (by decide) (pcY := 65) (by decide) (pcN := 51) rfl (fun _ => ?_) (fun zq => absurd (own_lt32 (by show z.toInt < 97; omega)) zq)
        refine ow_iloadN C A0 d1_65 rfl rfl ?_
        refine ow_ireturn C A0 (t := .int) rfl rfl (by simp) d1_66 (by decide) (by decide) ?_
        exact ⟨rfl, _, rfl, Or.inl rfl, fun _ => ⟨by omega, by omega, by omega⟩⟩
      · skip
        have iv5 : ¬ (z.toInt < 65) := own_nlt32' hc25
        refine ow_iloadN C A0 d1_28 rfl rfl ?_
        refine ow_bipush C A0 d1_29 (v := 70) rfl rfl ?_
        refine ow_icmp_gt C A0 d1_31 (by decide) (pcY := 45) (by decide) (pcN := 34) rfl (fun hc31 => ?_) (fun hc31 => ?_)
        · skip
          have iv6 : 70 < z.toInt := own_lt32' hc31
          refine ow_iloadN C A0 d1_45 rfl rfl ?_
          refine ow_bipush C A0 d1_46 (v := 97) rfl rfl ?_
          refine ow_icmp_lt C A0 d1_48 (by decide) (pcY := 65) (by decide) (pcN := 51) rfl (fun hc48 => ?_) (fun hc48 => ?_)
          · skip
            have iv7 : z.toInt < 97 := own_lt32' hc48
            refine ow_iloadN C A0 d1_65 rfl rfl ?_
            refine ow_ireturn C A0 (t := .int) rfl rfl (by simp) d1_66 (by decide) (by decide) ?_
            exact ⟨rfl, _, rfl, Or.inl rfl, fun _ => ⟨by omega, by omega, by omega⟩⟩
          · skip
            have iv8 : ¬ (z.toInt < 97) := own_nlt32' hc48
            refine ow_iloadN C A0 d1_51 rfl rfl ?_
            refine ow_bipush C A0 d1_52 (v := 102) rfl rfl ?_
            refine ow_icmp_gt C A0 d1_54 (by decide) (pcY := 65) (by decide) (pcN := 57) rfl (fun hc54 => ?_) (fun hc54 => ?_)
            · skip
              have iv9 : 102 < z.toInt := own_lt32' hc54
              refine ow_iloadN C A0 d1_65 rfl rfl ?_
              refine ow_ireturn C A0 (t := .int) rfl rfl (by simp) d1_66 (by decide) (by decide) ?_
              exact ⟨rfl, _, rfl, Or.inl rfl, fun _ => ⟨by omega, by omega, by omega⟩⟩
            · skip
              have iv10 : ¬ (102 < z.toInt) := own_nlt32' hc54
              refine ow_iloadN C A0 d1_57 rfl rfl ?_
              refine ow_bipush C A0 d1_58 (v := 97) rfl rfl ?_
              refine ow_isub C A0 d1_60 rfl ?_
              refine ow_bipush C A0 d1_61 (v := 10) rfl rfl ?_
              refine ow_iadd C A0 d1_63 rfl ?_
              refine ow_istoreN C A0 d1_64 (Ls' := #[.val (.int z), .val (.int ((z - (97 : Int32)) + (10 : Int32)))]) rfl rfl ?_
              refine ow_iloadN C A0 d1_65 rfl rfl ?_
              refine ow_ireturn C A0 (t := .int) rfl rfl (by simp) d1_66 (by decide) (by decide) ?_
              have s0 := own_sub z 97 97 0 rfl (by omega) ⟨by omega, by omega⟩ (by decide)
              have s1 := own_add10 (z - 97) ⟨by omega, by omega⟩
              exact ⟨rfl, _, rfl, Or.inr (Or.inr (Or.inr ⟨by omega, by omega, by omega⟩)), fun q => absurd (congrArg Int32.toInt q) (by show ¬ (_ = (-1 : Int)); omega)⟩
        · skip
          have iv11 : ¬ (70 < z.toInt) := own_nlt32' hc31
          refine ow_iloadN C A0 d1_34 rfl rfl ?_
          refine ow_bipush C A0 d1_35 (v := 65) rfl rfl ?_
          refine ow_isub C A0 d1_37 rfl ?_
          refine ow_bipush C A0 d1_38 (v := 10) rfl rfl ?_
          refine ow_iadd C A0 d1_40 rfl ?_
          refine ow_istoreN C A0 d1_41 (Ls' := #[.val (.int z), .val (.int ((z - (65 : Int32)) + (10 : Int32)))]) rfl rfl ?_
          refine ow_goto C A0 d1_42 (by decide) (pc' := 65) (by decide) ?_
          refine ow_iloadN C A0 d1_65 rfl rfl ?_
          refine ow_ireturn C A0 (t := .int) rfl rfl (by simp) d1_66 (by decide) (by decide) ?_
          have s0 := own_sub z 65 65 0 rfl (by omega) ⟨by omega, by omega⟩ (by decide)
          have s1 := own_add10 (z - 65) ⟨by omega, by omega⟩
          exact ⟨rfl, _, rfl, Or.inr (Or.inr (Or.inl ⟨by omega, by omega, by omega⟩)), fun q => absurd (congrArg Int32.toInt q) (by show ¬ (_ = (-1 : Int)); omega)⟩
    · skip
      have iv12 : ¬ (57 < z.toInt) := own_nlt32' hc11
      refine ow_iloadN C A0 d1_14 rfl rfl ?_
      refine ow_bipush C A0 d1_15 (v := 48) rfl rfl ?_
      refine ow_isub C A0 d1_17 rfl ?_
      refine ow_istoreN C A0 d1_18 (Ls' := #[.val (.int z), .val (.int (z - (48 : Int32)))]) rfl rfl ?_
      refine ow_goto C A0 d1_19 (by decide) (pc' := 65) (by decide) ?_
      refine ow_iloadN C A0 d1_65 rfl rfl ?_
      refine ow_ireturn C A0 (t := .int) rfl rfl (by simp) d1_66 (by decide) (by decide) ?_
      have s0 := own_sub z 48 48 0 rfl (by omega) ⟨by omega, by omega⟩ (by decide)
      exact ⟨rfl, _, rfl, Or.inr (Or.inl ⟨by omega, by omega, by omega⟩), fun q => absurd (congrArg Int32.toInt q) (by show ¬ (_ = (-1 : Int)); omega)⟩
set_option maxRecDepth 65536 in
set_option maxHeartbeats 40000000 in
theorem rm_pc0 (l : Launch) (Z : State) (a0 : Array Value) (hw : ∀ d ∈ tables_1, d.before a0 Z = true) (i n : Int32) (h0 : Heap) (hi : ¬ (i < 0)) (hj : i < n) (cs : List Jvm.Cond) :
    OwnCtr l Z (⟨"jdk/internal/util/Preconditions", "checkIndex", "(IILjava/util/function/BiFunction;)I"⟩ : MethodName) jdk_41_method_11_code 3 (some .int) rmz #[(.int i), (.int n), .null] h0 [] (QI i h0) cs := by
  refine ow_ctr pn_6 hw (Ls := #[.val (.int i), .val (.int n), .val .null]) (fun m => by first | (simp [entryFrame, mkF, argsToLocals, Value.category]; done) | rfl) ?_
  intro p e s m below meth c T0 C A0
  refine ow_iloadN C A0 d6_0 rfl rfl ?_
  refine ow_if_lt C A0 d6_1 (by decide) (pcY := 9) (by decide) (pcN := 4) rfl (fun zq => absurd zq (hi)) (fun _ => ?_)
  refine ow_iloadN C A0 d6_4 rfl rfl ?_
  refine ow_iloadN C A0 d6_5 rfl rfl ?_
  refine ow_icmp_lt C A0 d6_6 (by decide) (pcY := 16) (by decide) (pcN := 9) rfl (fun _ => ?_) (fun zq => absurd (hj) zq)
  refine ow_iloadN C A0 d6_16 rfl rfl ?_
  refine ow_ireturn C A0 (t := .int) rfl rfl (by simp) d6_17 (by decide) (by decide) ?_
  exact ⟨rfl, rfl⟩
set_option maxRecDepth 65536 in
set_option maxHeartbeats 40000000 in
theorem rm_pc1 (l : Launch) (Z : State) (a0 : Array Value) (hw : ∀ d ∈ tables_1, d.before a0 Z = true) (i n : Int32) (g : Addr) (h0 : Heap) (hi : ¬ (i < 0)) (hj : i < n) (cs : List Jvm.Cond) :
    OwnCtr l Z (⟨"jdk/internal/util/Preconditions", "checkIndex", "(IILjava/util/function/BiFunction;)I"⟩ : MethodName) jdk_41_method_11_code 3 (some .int) rmz #[(.int i), (.int n), (.ref g)] h0 [] (QI i h0) cs := by
  refine ow_ctr pn_6 hw (Ls := #[.val (.int i), .val (.int n), .val (.ref g)]) (fun m => by first | (simp [entryFrame, mkF, argsToLocals, Value.category]; done) | rfl) ?_
  intro p e s m below meth c T0 C A0
  refine ow_iloadN C A0 d6_0 rfl rfl ?_
  refine ow_if_lt C A0 d6_1 (by decide) (pcY := 9) (by decide) (pcN := 4) rfl (fun zq => absurd zq (hi)) (fun _ => ?_)
  refine ow_iloadN C A0 d6_4 rfl rfl ?_
  refine ow_iloadN C A0 d6_5 rfl rfl ?_
  refine ow_icmp_lt C A0 d6_6 (by decide) (pcY := 16) (by decide) (pcN := 9) rfl (fun _ => ?_) (fun zq => absurd (hj) zq)
  refine ow_iloadN C A0 d6_16 rfl rfl ?_
  refine ow_ireturn C A0 (t := .int) rfl rfl (by simp) d6_17 (by decide) (by decide) ?_
  exact ⟨rfl, rfl⟩
theorem rm_pc (l : Launch) (Z : State) (a0 : Array Value) (hw : ∀ d ∈ tables_1, d.before a0 Z = true) (i n : Int32) (G : Value) (rG : G.isRef = true) (h0 : Heap) (hi : ¬ (i < 0)) (hj : i < n) (cs : List Jvm.Cond) :
    OwnCtr l Z (⟨"jdk/internal/util/Preconditions", "checkIndex", "(IILjava/util/function/BiFunction;)I"⟩ : MethodName) jdk_41_method_11_code 3 (some .int) rmz #[(.int i), (.int n), G] h0 [] (QI i h0) cs := by
  rcases RoadKit.ref_cases rG with rfl | ⟨g, rfl⟩
  · exact rm_pc0 l Z a0 hw i n h0 hi hj cs
  · exact rm_pc1 l Z a0 hw i n g h0 hi hj cs
set_option maxRecDepth 65536 in
set_option maxHeartbeats 40000000 in
theorem rm_sc (l : Launch) (Z : State) (a0 : Array Value) (hw : ∀ d ∈ tables_1, d.before a0 Z = true) (i n : Int32) (G : Value) (h0 : Heap) (hi : ¬ (i < 0)) (hj : i < n) (SF : Sta Z h0 "jdk/internal/util/Preconditions" "SIOOBE_FORMATTER" "Ljava/util/function/BiFunction;" G) (rG : G.isRef = true) (cs : List Jvm.Cond) :
    OwnCtr l Z (⟨"java/lang/String", "checkIndex", "(II)V"⟩ : MethodName) jdk_42_method_155_code 2 none rm1 #[(.int i), (.int n)] h0 [] (QV h0) cs := by
  refine ow_ctr pn_5 hw (Ls := #[.val (.int i), .val (.int n)]) (fun m => by first | (simp [entryFrame, mkF, argsToLocals, Value.category]; done) | rfl) ?_
  intro p e s m below meth c T0 C A0
  refine ow_iloadN C A0 d5_0 rfl rfl ?_
  refine ow_iloadN C A0 d5_1 rfl rfl ?_
  refine ow_getS C A0 tw_34 Via.refl SF d5_2 rfl ?_
  intro T1 A2
  refine ow_callS C A2 (argsL := [(.int i), (.int n), G]) (rm_pc l Z a0 hw i n G rG h0 hi hj []) tw_36 tw_37 tw_35 tw_38 (by decide) all0 (by decide) (by decide) (ck' := 0) (sk' := 0) rfl rfl (by decide) (by decide) rfl (lenOf pd_0 rfl) (S := []) rfl (W := 0) (Nat.le_of_eq rfl) d5_5 rfl ?_
  intro T3 v3 K3 hQ3 A3
  obtain ⟨rfl, ee3⟩ := hQ3
  rw [ee3] at A3 K3
  show OwnWP _ _ _ _ _ _ _ _ _ T3 (mkF m 8 #[.val (.int i), .val (.int n)] [(.int i)])
  refine ow_pop C A3 d5_8 rfl rfl ?_
  refine ow_return C A3 rfl d5_9 (by decide) (by decide) ?_
  exact ⟨rfl, rfl⟩
set_option maxRecDepth 65536 in
set_option maxHeartbeats 40000000 in
theorem rm_lc (l : Launch) (Z : State) (a0 : Array Value) (hw : ∀ d ∈ tables_1, d.before a0 Z = true) (b : Addr) (kk : ClassId) (i x : Int32) (vs : List Value) (G : Value) (h0 : Heap) (Vb : Arv Z h0 b kk .byte (16 : Int32) vs (.int (0 : Int32))) (hi : ¬ (i < 0)) (hj : i < 16) (hv : vs.getD i.toNatClampNeg (.int (0 : Int32)) = .int x) (hx : 0 ≤ x.toInt ∧ x.toInt ≤ 127) (SF : Sta Z h0 "jdk/internal/util/Preconditions" "SIOOBE_FORMATTER" "Ljava/util/function/BiFunction;" G) (rG : G.isRef = true) (cs : List Jvm.Cond) :
    OwnCtr l Z (⟨"java/lang/StringLatin1", "charAt", "([BI)C"⟩ : MethodName) jdk_43_method_2_code 2 (some .char) rm2 #[(.ref b), (.int i)] h0 [] (QI x h0) cs := by
  refine ow_ctr pn_4 hw (Ls := #[.val (.ref b), .val (.int i)]) (fun m => by first | (simp [entryFrame, mkF, argsToLocals, Value.category]; done) | rfl) ?_
  intro p e s m below meth c T0 C A0
  refine ow_iloadN C A0 d4_0 rfl rfl ?_
  refine ow_aloadN C A0 d4_1 rfl rfl rfl ?_
  refine ow_alen C A0 Vb d4_2 rfl ?_
  refine ow_callS C A0 (argsL := [(.int i), (.int (16 : Int32))]) (rm_sc l Z a0 hw i (16 : Int32) G h0 hi hj SF rG []) tw_31 tw_32 tw_1 tw_33 (by decide) all0 (by decide) (by decide) (ck' := 0) (sk' := 0) rfl rfl (by decide) (by decide) rfl (lenOf pd_1 rfl) (S := []) rfl (W := 0) (Nat.le_of_eq rfl) d4_3 rfl ?_
  intro T1 v1 K1 hQ1 A1
  obtain ⟨rfl, ee1⟩ := hQ1
  rw [ee1] at A1 K1
  show OwnWP _ _ _ _ _ _ _ _ _ T1 (mkF m 6 #[.val (.ref b), .val (.int i)] [])
  refine ow_aloadN C A1 d4_6 rfl rfl rfl ?_
  refine ow_iloadN C A1 d4_7 rfl rfl ?_
  refine ow_baload C A1 Vb ⟨hi, hj⟩ (v := (.int x)) hv d4_8 rfl ?_
  refine ow_sipush C A1 d4_9 (v := 255) rfl rfl ?_
  refine ow_iand C A1 d4_12 rfl ?_
  refine ow_i2c C A1 d4_13 rfl ?_
  rw [own_c255 x hx]
  refine ow_ireturn C A1 (t := .char) rfl (own_nar x hx) (by simp) d4_14 (by decide) (by decide) ?_
  exact ⟨rfl, rfl⟩
set_option maxRecDepth 65536 in
set_option maxHeartbeats 40000000 in
theorem rm_il (l : Launch) (Z : State) (a0 : Array Value) (hw : ∀ d ∈ tables_1, d.before a0 Z = true) (a : Addr) (gz : Int32) (h0 : Heap) (E : Exa Z h0 a "java/lang/String") (Fc : Fld Z h0 a "java/lang/String" "coder" "B" (.int (0 : Int32))) (SC : Sta Z h0 "java/lang/String" "COMPACT_STRINGS" "Z" (.int gz)) (hg : ¬ (gz = 0)) (cs : List Jvm.Cond) :
    OwnCtr l Z (⟨"java/lang/String", "isLatin1", "()Z"⟩ : MethodName) jdk_42_method_154_code 1 (some .boolean) rmz #[(.ref a)] h0 [] (QI 1 h0) cs := by
  refine ow_ctr pn_3 hw (Ls := #[.val (.ref a)]) (fun m => by first | (simp [entryFrame, mkF, argsToLocals, Value.category]; done) | rfl) ?_
  intro p e s m below meth c T0 C A0
  refine ow_getS C A0 tw_24 Via.refl SC d3_0 rfl ?_
  intro T1 A2
  refine ow_if_eq C A2 d3_3 (by decide) (pcY := 17) (by decide) (pcN := 6) rfl (fun zq => absurd zq (hg)) (fun _ => ?_)
  refine ow_aloadN C A2 d3_6 rfl rfl rfl ?_
  refine ow_getF C A2 tw_25 Via.refl Fc d3_7 rfl ?_
  intro T3 A4
  refine ow_if_ne C A4 d3_10 (by decide) (pcY := 17) (by decide) (pcN := 13) rfl (fun zq => absurd (rfl) zq) (fun _ => ?_)
  refine ow_iconst C A4 d3_13 (v := 1) rfl rfl ?_
  refine ow_goto C A4 d3_14 (by decide) (pc' := 18) (by decide) ?_
  refine ow_ireturn C A4 (t := .boolean) rfl rfl (by simp) d3_18 (by decide) (by decide) ?_
  exact ⟨rfl, rfl⟩
set_option maxRecDepth 65536 in
set_option maxHeartbeats 40000000 in
theorem rm_ca (l : Launch) (Z : State) (a0 : Array Value) (hw : ∀ d ∈ tables_1, d.before a0 Z = true) (a b : Addr) (kk : ClassId) (i x gz : Int32) (vs : List Value) (G : Value) (h0 : Heap) (E : Exa Z h0 a "java/lang/String") (Fc : Fld Z h0 a "java/lang/String" "coder" "B" (.int (0 : Int32))) (Fv : Fld Z h0 a "java/lang/String" "value" "[B" (.ref b)) (Vb : Arv Z h0 b kk .byte (16 : Int32) vs (.int (0 : Int32))) (hi : ¬ (i < 0)) (hj : i < 16) (hv : vs.getD i.toNatClampNeg (.int (0 : Int32)) = .int x) (hx : 0 ≤ x.toInt ∧ x.toInt ≤ 127) (SF : Sta Z h0 "jdk/internal/util/Preconditions" "SIOOBE_FORMATTER" "Ljava/util/function/BiFunction;" G) (rG : G.isRef = true) (SC : Sta Z h0 "java/lang/String" "COMPACT_STRINGS" "Z" (.int gz)) (hg : ¬ (gz = 0)) (cs : List Jvm.Cond) :
    OwnCtr l Z (⟨"java/lang/String", "charAt", "(I)C"⟩ : MethodName) jdk_42_method_56_code 2 (some .char) rm3 #[(.ref a), (.int i)] h0 [] (QI x h0) cs := by
  refine ow_ctr pn_2 hw (Ls := #[.val (.ref a), .val (.int i)]) (fun m => by first | (simp [entryFrame, mkF, argsToLocals, Value.category]; done) | rfl) ?_
  intro p e s m below meth c T0 C A0
  refine ow_aloadN C A0 d2_0 rfl rfl rfl ?_
  refine ow_callV C A0 (argsL := []) E (rm_il l Z a0 hw a gz h0 E Fc SC hg []) tw_19 tw_20 (ow_nf hw tw_22) tw_22 tw_21 tw_1 tw_23 (by decide) all0 (by decide) (by decide) (ck' := 0) (sk' := 0) rfl rfl (by decide) (by decide) rfl (lenOf pd_2 rfl) (S := []) rfl (W := 0) (Nat.le_of_eq rfl) d2_1 rfl ?_
  intro T1 v1 K1 hQ1 A1
  obtain ⟨rfl, ee1⟩ := hQ1
  rw [ee1] at A1 K1
  show OwnWP _ _ _ _ _ _ _ _ _ T1 (mkF m 4 #[.val (.ref a), .val (.int i)] [(.int (1 : Int32))])
  refine ow_if_eq C A1 d2_4 (by decide) (pcY := 16) (by decide) (pcN := 7) rfl (fun zq => absurd zq (by decide)) (fun _ => ?_)
  refine ow_aloadN C A1 d2_7 rfl rfl rfl ?_
  refine ow_getF C A1 tw_26 Via.refl Fv d2_8 rfl ?_
  intro T2 A3
  refine ow_iloadN C A3 d2_11 rfl rfl ?_
  refine ow_callS C A3 (argsL := [(.ref b), (.int i)]) (rm_lc l Z a0 hw b kk i x vs G h0 Vb hi hj hv hx SF rG []) tw_27 tw_28 tw_29 tw_30 (by decide) all0 (by decide) (by decide) (ck' := 0) (sk' := 0) rfl rfl (by decide) (by decide) rfl (lenOf pd_3 rfl) (S := []) rfl (W := 0) (Nat.le_of_eq rfl) d2_12 rfl ?_
  intro T4 v4 K4 hQ4 A4
  obtain ⟨rfl, ee4⟩ := hQ4
  rw [ee4] at A4 K4
  show OwnWP _ _ _ _ _ _ _ _ _ T4 (mkF m 15 #[.val (.ref a), .val (.int i)] [(.int x)])
  refine ow_ireturn C A4 (t := .char) rfl (own_nar x hx) (by simp) d2_15 (by decide) (by decide) ?_
  exact ⟨rfl, rfl⟩
set_option maxRecDepth 65536 in
set_option maxHeartbeats 40000000 in
theorem rm0w {p : Program} {l : Launch} {e : Env} {s : State} {m : MethodId} {below : List Frame} {meth : Method} {c : Code} {T2 : State} {Z : State} {a0 : Array Value} {hh : Heap} (hw : ∀ d ∈ tables_1, d.before a0 Z = true) (p1 p2 gz : Int32) (G : Value) (a1 a2 b1 b2 : Addr) (kk1 kk2 : ClassId)
    (C : OwnCtx p s m meth c Z a0 tables_1 x code maxLocals ret) (A2 : OwnPos p l e room_1 s m #[(.int p1), (.int p2)] below meth c hh [] T2 hh 4 136)
    (E1 : Exa Z hh a1 "java/lang/String") (Fc1 : Fld Z hh a1 "java/lang/String" "coder" "B" (.int (0 : Int32))) (Fv1 : Fld Z hh a1 "java/lang/String" "value" "[B" (.ref b1)) (Vb1 : Arv Z hh b1 kk1 .byte (16 : Int32) own_VL (.int (0 : Int32)))
    (E2 : Exa Z hh a2 "java/lang/String") (Fc2 : Fld Z hh a2 "java/lang/String" "coder" "B" (.int (0 : Int32))) (Fv2 : Fld Z hh a2 "java/lang/String" "value" "[B" (.ref b2)) (Vb2 : Arv Z hh b2 kk2 .byte (16 : Int32) own_VU (.int (0 : Int32)))
    (SF : Sta Z hh "jdk/internal/util/Preconditions" "SIOOBE_FORMATTER" "Ljava/util/function/BiFunction;" G) (rG : G.isRef = true) (SC : Sta Z hh "java/lang/String" "COMPACT_STRINGS" "Z" (.int gz)) (hg : ¬ (gz = 0)) :
    OwnWP p e below s hh [] Q0 room_1.cells room_1.slots T2 (mkF m 6 #[.val (.int p1), .val (.int p2), .val (.ref a1), .val (.ref a2), .unset, .unset, .unset, .unset, .unset] []) := by
  refine ow_iloadN C A2 at_6 rfl rfl ?_
  refine ow_ldcInt C A2 tw_9 at_7 rfl ?_
  refine ow_iand C A2 at_9 rfl ?_
  refine ow_i2c C A2 at_10 rfl ?_
  have hz := own_ch p1
  obtain ⟨zz, hzz⟩ : ∃ z, z = (p1 &&& (65535 : Int32)).toUInt32.toUInt16.toUInt32.toInt32 := ⟨_, rfl⟩
  rw [← hzz] at hz ⊢
  have hzl := hz.1
  have hzu := hz.2
  refine ow_istore C A2 at_11 (Ls' := #[.val (.int p1), .val (.int p2), .val (.ref a1), .val (.ref a2), .val (.int zz), .unset, .unset, .unset, .unset]) rfl rfl ?_
  refine ow_iload C A2 at_13 rfl rfl ?_
  refine ow_callS C A2 (argsL := [(.int zz)]) (rm_val l Z a0 hw zz hh ⟨by omega, by omega⟩ []) tw_10 tw_11 tw_12 tw_13 (by decide) all0 (by decide) (by decide) (ck' := 4) (sk' := 136) rfl rfl (by decide) (by decide) rfl (lenOf pd_4 rfl) (S := []) rfl (W := 0) (Nat.le_of_eq rfl) at_15 rfl ?_
  intro T1 v1 K1 hQ1 A1
  obtain ⟨ee1, r1, rfl, hv1, nn1⟩ := hQ1
  rw [ee1] at A1 K1
  rcases hv1 with rfl | ⟨u1, v1, w1⟩ | ⟨u1, v1, w1⟩ | ⟨u1, v1, w1⟩
  · skip
    show OwnWP _ _ _ _ _ _ _ _ _ T1 (mkF m 18 #[.val (.int p1), .val (.int p2), .val (.ref a1), .val (.ref a2), .val (.int zz), .unset, .unset, .unset, .unset] [(.int (-1 : Int32))])
    have kn1 := nn1 rfl
    refine ow_istore C A1 at_18 (Ls' := #[.val (.int p1), .val (.int p2), .val (.ref a1), .val (.ref a2), .val (.int zz), .val (.int (-1 : Int32)), .unset, .unset, .unset]) rfl rfl ?_
    refine ow_iload C A1 at_20 rfl rfl ?_
    refine ow_iconst C A1 at_22 (v := (-1)) rfl rfl ?_
    refine ow_icmp_eq C A1 at_23 (by decide) (pcY := 60) (by decide) (pcN := 26) rfl (fun _ => ?_) (fun zq => absurd (by decide) zq)
    refine ow_iconst C A1 at_60 (v := 1) rfl rfl ?_
    refine ow_goto C A1 at_61 (by decide) (pc' := 65) (by decide) ?_
    refine ow_istore C A1 at_65 (Ls' := #[.val (.int p1), .val (.int p2), .val (.ref a1), .val (.ref a2), .val (.int zz), .val (.int (-1 : Int32)), .val (.int (1 : Int32)), .unset, .unset]) rfl rfl ?_
    refine ow_iloadN C A1 at_67 rfl rfl ?_
    refine ow_bipush C A1 at_68 (v := 15) rfl rfl ?_
    refine ow_iand C A1 at_70 rfl ?_
    have hk := own_15 p2
    obtain ⟨kd, hkd⟩ : ∃ z, z = p2 &&& (15 : Int32) := ⟨_, rfl⟩
    rw [← hkd] at hk ⊢
    have hkl := hk.1
    have hku := hk.2
    by_cases hsm : kd.toInt ≤ 9
    · skip
      refine ow_istore C A1 at_71 (Ls' := #[.val (.int p1), .val (.int p2), .val (.ref a1), .val (.ref a2), .val (.int zz), .val (.int (-1 : Int32)), .val (.int (1 : Int32)), .val (.int kd), .unset]) rfl rfl ?_
      refine ow_aloadN C A1 at_73 rfl rfl rfl ?_
      refine ow_iload C A1 at_74 rfl rfl ?_
      obtain ⟨x2, hx2, hl2, hu2, hs2, hb2⟩ := own_low kd ⟨by omega, by omega⟩
      refine ow_callV C A1 (argsL := [(.int kd)]) E1 (rm_ca l Z a0 hw a1 b1 kk1 kd x2 gz own_VL G hh E1 Fc1 Fv1 Vb1 (own_nlt32 (by show ¬ (kd.toInt < 0); omega)) (own_lt32 (by show kd.toInt < 16; omega)) hx2 ⟨hl2, hu2⟩ SF rG SC hg []) tw_14 tw_15 (ow_nf hw tw_17) tw_17 tw_16 tw_1 tw_18 (by decide) all0 (by decide) (by decide) (ck' := 4) (sk' := 136) rfl rfl (by decide) (by decide) rfl (lenOf pd_5 rfl) (S := []) rfl (W := 0) (Nat.le_of_eq rfl) at_76 rfl ?_
      intro T3 v3 K3 hQ3 A3
      obtain ⟨rfl, ee3⟩ := hQ3
      rw [ee3] at A3 K3
      show OwnWP _ _ _ _ _ _ _ _ _ T3 (mkF m 79 #[.val (.int p1), .val (.int p2), .val (.ref a1), .val (.ref a2), .val (.int zz), .val (.int (-1 : Int32)), .val (.int (1 : Int32)), .val (.int kd), .unset] [(.int x2)])
      refine ow_callS C A3 (argsL := [(.int x2)]) (rm_val l Z a0 hw x2 hh ⟨by omega, by omega⟩ []) tw_10 tw_11 tw_12 tw_13 (by decide) all0 (by decide) (by decide) (ck' := 4) (sk' := 136) rfl rfl (by decide) (by decide) rfl (lenOf pd_4 rfl) (S := []) rfl (W := 0) (Nat.le_of_eq rfl) at_79 rfl ?_
      intro T4 v4 K4 hQ4 A4
      obtain ⟨ee4, r4, rfl, hv4, nn4⟩ := hQ4
      rw [ee4] at A4 K4
      rcases hv4 with rfl | ⟨u4, v4, w4⟩ | ⟨u4, v4, w4⟩ | ⟨u4, v4, w4⟩
      · exfalso; have kn := nn4 rfl; omega
      · skip
        show OwnWP _ _ _ _ _ _ _ _ _ T4 (mkF m 82 #[.val (.int p1), .val (.int p2), .val (.ref a1), .val (.ref a2), .val (.int zz), .val (.int (-1 : Int32)), .val (.int (1 : Int32)), .val (.int kd), .unset] [(.int r4)])
        have kn4 := True.intro
        refine ow_iload C A4 at_82 rfl rfl ?_
        refine ow_icmp_ne C A4 at_84 (by decide) (pcY := 105) (by decide) (pcN := 87) rfl (fun zq => absurd (own_eq32 (by omega)) zq) (fun _ => ?_)
        refine ow_aloadN C A4 at_87 rfl rfl rfl ?_
        refine ow_iload C A4 at_88 rfl rfl ?_
        obtain ⟨x5, hx5, hl5, hu5, hs5, hb5⟩ := own_upp kd ⟨by omega, by omega⟩
        refine ow_callV C A4 (argsL := [(.int kd)]) E2 (rm_ca l Z a0 hw a2 b2 kk2 kd x5 gz own_VU G hh E2 Fc2 Fv2 Vb2 (own_nlt32 (by show ¬ (kd.toInt < 0); omega)) (own_lt32 (by show kd.toInt < 16; omega)) hx5 ⟨hl5, hu5⟩ SF rG SC hg []) tw_14 tw_15 (ow_nf hw tw_17) tw_17 tw_16 tw_1 tw_18 (by decide) all0 (by decide) (by decide) (ck' := 4) (sk' := 136) rfl rfl (by decide) (by decide) rfl (lenOf pd_5 rfl) (S := []) rfl (W := 0) (Nat.le_of_eq rfl) at_90 rfl ?_
        intro T6 v6 K6 hQ6 A6
        obtain ⟨rfl, ee6⟩ := hQ6
        rw [ee6] at A6 K6
        show OwnWP _ _ _ _ _ _ _ _ _ T6 (mkF m 93 #[.val (.int p1), .val (.int p2), .val (.ref a1), .val (.ref a2), .val (.int zz), .val (.int (-1 : Int32)), .val (.int (1 : Int32)), .val (.int kd), .unset] [(.int x5)])
        refine ow_callS C A6 (argsL := [(.int x5)]) (rm_val l Z a0 hw x5 hh ⟨by omega, by omega⟩ []) tw_10 tw_11 tw_12 tw_13 (by decide) all0 (by decide) (by decide) (ck' := 4) (sk' := 136) rfl rfl (by decide) (by decide) rfl (lenOf pd_4 rfl) (S := []) rfl (W := 0) (Nat.le_of_eq rfl) at_93 rfl ?_
        intro T7 v7 K7 hQ7 A7
        obtain ⟨ee7, r7, rfl, hv7, nn7⟩ := hQ7
        rw [ee7] at A7 K7
        rcases hv7 with rfl | ⟨u7, v7, w7⟩ | ⟨u7, v7, w7⟩ | ⟨u7, v7, w7⟩
        · exfalso; have kn := nn7 rfl; omega
        · skip
          show OwnWP _ _ _ _ _ _ _ _ _ T7 (mkF m 96 #[.val (.int p1), .val (.int p2), .val (.ref a1), .val (.ref a2), .val (.int zz), .val (.int (-1 : Int32)), .val (.int (1 : Int32)), .val (.int kd), .unset] [(.int r7)])
          have kn7 := True.intro
          refine ow_iload C A7 at_96 rfl rfl ?_
          refine ow_icmp_ne C A7 at_98 (by decide) (pcY := 105) (by decide) (pcN := 101) rfl (fun zq => absurd (own_eq32 (by omega)) zq) (fun _ => ?_)
          refine ow_iconst C A7 at_101 (v := 1) rfl rfl ?_
          refine ow_goto C A7 at_102 (by decide) (pc' := 106) (by decide) ?_
          refine ow_istore C A7 at_106 (Ls' := #[.val (.int p1), .val (.int p2), .val (.ref a1), .val (.ref a2), .val (.int zz), .val (.int (-1 : Int32)), .val (.int (1 : Int32)), .val (.int kd), .val (.int (1 : Int32))]) rfl rfl ?_
          refine ow_iload C A7 at_108 rfl rfl ?_
          refine ow_if_eq C A7 at_110 (by decide) (pcY := 122) (by decide) (pcN := 113) rfl (fun zq => absurd zq (by decide)) (fun _ => ?_)
          refine ow_iload C A7 at_113 rfl rfl ?_
          refine ow_if_eq C A7 at_115 (by decide) (pcY := 122) (by decide) (pcN := 118) rfl (fun zq => absurd zq (by decide)) (fun _ => ?_)
          refine ow_iconst C A7 at_118 (v := 1) rfl rfl ?_
          refine ow_goto C A7 at_119 (by decide) (pc' := 123) (by decide) ?_
          refine ow_ireturn C A7 (t := .boolean) rfl rfl (by simp) at_123 (by decide) (by decide) ?_
          exact rfl
        · exfalso; omega
        · exfalso; omega
      · exfalso; omega
      · exfalso; omega
    · skip
      refine ow_istore C A1 at_71 (Ls' := #[.val (.int p1), .val (.int p2), .val (.ref a1), .val (.ref a2), .val (.int zz), .val (.int (-1 : Int32)), .val (.int (1 : Int32)), .val (.int kd), .unset]) rfl rfl ?_
      refine ow_aloadN C A1 at_73 rfl rfl rfl ?_
      refine ow_iload C A1 at_74 rfl rfl ?_
      obtain ⟨x8, hx8, hl8, hu8, hs8, hb8⟩ := own_low kd ⟨by omega, by omega⟩
      refine ow_callV C A1 (argsL := [(.int kd)]) E1 (rm_ca l Z a0 hw a1 b1 kk1 kd x8 gz own_VL G hh E1 Fc1 Fv1 Vb1 (own_nlt32 (by show ¬ (kd.toInt < 0); omega)) (own_lt32 (by show kd.toInt < 16; omega)) hx8 ⟨hl8, hu8⟩ SF rG SC hg []) tw_14 tw_15 (ow_nf hw tw_17) tw_17 tw_16 tw_1 tw_18 (by decide) all0 (by decide) (by decide) (ck' := 4) (sk' := 136) rfl rfl (by decide) (by decide) rfl (lenOf pd_5 rfl) (S := []) rfl (W := 0) (Nat.le_of_eq rfl) at_76 rfl ?_
      intro T9 v9 K9 hQ9 A9
      obtain ⟨rfl, ee9⟩ := hQ9
      rw [ee9] at A9 K9
      show OwnWP _ _ _ _ _ _ _ _ _ T9 (mkF m 79 #[.val (.int p1), .val (.int p2), .val (.ref a1), .val (.ref a2), .val (.int zz), .val (.int (-1 : Int32)), .val (.int (1 : Int32)), .val (.int kd), .unset] [(.int x8)])
      refine ow_callS C A9 (argsL := [(.int x8)]) (rm_val l Z a0 hw x8 hh ⟨by omega, by omega⟩ []) tw_10 tw_11 tw_12 tw_13 (by decide) all0 (by decide) (by decide) (ck' := 4) (sk' := 136) rfl rfl (by decide) (by decide) rfl (lenOf pd_4 rfl) (S := []) rfl (W := 0) (Nat.le_of_eq rfl) at_79 rfl ?_
      intro T10 v10 K10 hQ10 A10
      obtain ⟨ee10, r10, rfl, hv10, nn10⟩ := hQ10
      rw [ee10] at A10 K10
      rcases hv10 with rfl | ⟨u10, v10, w10⟩ | ⟨u10, v10, w10⟩ | ⟨u10, v10, w10⟩
      · exfalso; have kn := nn10 rfl; omega
      · exfalso; omega
      · exfalso; omega
      · skip
        show OwnWP _ _ _ _ _ _ _ _ _ T10 (mkF m 82 #[.val (.int p1), .val (.int p2), .val (.ref a1), .val (.ref a2), .val (.int zz), .val (.int (-1 : Int32)), .val (.int (1 : Int32)), .val (.int kd), .unset] [(.int r10)])
        have kn10 := True.intro
        refine ow_iload C A10 at_82 rfl rfl ?_
        refine ow_icmp_ne C A10 at_84 (by decide) (pcY := 105) (by decide) (pcN := 87) rfl (fun zq => absurd (own_eq32 (by omega)) zq) (fun _ => ?_)
        refine ow_aloadN C A10 at_87 rfl rfl rfl ?_
        refine ow_iload C A10 at_88 rfl rfl ?_
        obtain ⟨x11, hx11, hl11, hu11, hs11, hb11⟩ := own_upp kd ⟨by omega, by omega⟩
        refine ow_callV C A10 (argsL := [(.int kd)]) E2 (rm_ca l Z a0 hw a2 b2 kk2 kd x11 gz own_VU G hh E2 Fc2 Fv2 Vb2 (own_nlt32 (by show ¬ (kd.toInt < 0); omega)) (own_lt32 (by show kd.toInt < 16; omega)) hx11 ⟨hl11, hu11⟩ SF rG SC hg []) tw_14 tw_15 (ow_nf hw tw_17) tw_17 tw_16 tw_1 tw_18 (by decide) all0 (by decide) (by decide) (ck' := 4) (sk' := 136) rfl rfl (by decide) (by decide) rfl (lenOf pd_5 rfl) (S := []) rfl (W := 0) (Nat.le_of_eq rfl) at_90 rfl ?_
        intro T12 v12 K12 hQ12 A12
        obtain ⟨rfl, ee12⟩ := hQ12
        rw [ee12] at A12 K12
        show OwnWP _ _ _ _ _ _ _ _ _ T12 (mkF m 93 #[.val (.int p1), .val (.int p2), .val (.ref a1), .val (.ref a2), .val (.int zz), .val (.int (-1 : Int32)), .val (.int (1 : Int32)), .val (.int kd), .unset] [(.int x11)])
        refine ow_callS C A12 (argsL := [(.int x11)]) (rm_val l Z a0 hw x11 hh ⟨by omega, by omega⟩ []) tw_10 tw_11 tw_12 tw_13 (by decide) all0 (by decide) (by decide) (ck' := 4) (sk' := 136) rfl rfl (by decide) (by decide) rfl (lenOf pd_4 rfl) (S := []) rfl (W := 0) (Nat.le_of_eq rfl) at_93 rfl ?_
        intro T13 v13 K13 hQ13 A13
        obtain ⟨ee13, r13, rfl, hv13, nn13⟩ := hQ13
        rw [ee13] at A13 K13
        rcases hv13 with rfl | ⟨u13, v13, w13⟩ | ⟨u13, v13, w13⟩ | ⟨u13, v13, w13⟩
        · exfalso; have kn := nn13 rfl; omega
        · exfalso; omega
        · skip
          show OwnWP _ _ _ _ _ _ _ _ _ T13 (mkF m 96 #[.val (.int p1), .val (.int p2), .val (.ref a1), .val (.ref a2), .val (.int zz), .val (.int (-1 : Int32)), .val (.int (1 : Int32)), .val (.int kd), .unset] [(.int r13)])
          have kn13 := True.intro
          refine ow_iload C A13 at_96 rfl rfl ?_
          refine ow_icmp_ne C A13 at_98 (by decide) (pcY := 105) (by decide) (pcN := 101) rfl (fun zq => absurd (own_eq32 (by omega)) zq) (fun _ => ?_)
          refine ow_iconst C A13 at_101 (v := 1) rfl rfl ?_
          refine ow_goto C A13 at_102 (by decide) (pc' := 106) (by decide) ?_
          refine ow_istore C A13 at_106 (Ls' := #[.val (.int p1), .val (.int p2), .val (.ref a1), .val (.ref a2), .val (.int zz), .val (.int (-1 : Int32)), .val (.int (1 : Int32)), .val (.int kd), .val (.int (1 : Int32))]) rfl rfl ?_
          refine ow_iload C A13 at_108 rfl rfl ?_
          refine ow_if_eq C A13 at_110 (by decide) (pcY := 122) (by decide) (pcN := 113) rfl (fun zq => absurd zq (by decide)) (fun _ => ?_)
          refine ow_iload C A13 at_113 rfl rfl ?_
          refine ow_if_eq C A13 at_115 (by decide) (pcY := 122) (by decide) (pcN := 118) rfl (fun zq => absurd zq (by decide)) (fun _ => ?_)
          refine ow_iconst C A13 at_118 (v := 1) rfl rfl ?_
          refine ow_goto C A13 at_119 (by decide) (pc' := 123) (by decide) ?_
          refine ow_ireturn C A13 (t := .boolean) rfl rfl (by simp) at_123 (by decide) (by decide) ?_
          exact rfl
        · exfalso; omega
  · skip
    show OwnWP _ _ _ _ _ _ _ _ _ T1 (mkF m 18 #[.val (.int p1), .val (.int p2), .val (.ref a1), .val (.ref a2), .val (.int zz), .unset, .unset, .unset, .unset] [(.int r1)])
    have kn1 := True.intro
    refine ow_istore C A1 at_18 (Ls' := #[.val (.int p1), .val (.int p2), .val (.ref a1), .val (.ref a2), .val (.int zz), .val (.int r1), .unset, .unset, .unset]) rfl rfl ?_
    refine ow_iload C A1 at_20 rfl rfl ?_
    refine ow_iconst C A1 at_22 (v := (-1)) rfl rfl ?_
    refine ow_icmp_eq C A1 at_23 (by decide) (pcY := 60) (by decide) (pcN := 26) rfl (fun zq => absurd zq (own_ne32 (by show ¬ (r1.toInt = (-1)); omega))) (fun _ => ?_)
    refine ow_iload C A1 at_26 rfl rfl ?_
    refine ow_if_lt C A1 at_28 (by decide) (pcY := 64) (by decide) (pcN := 31) rfl (fun zq => absurd zq (own_nlt32 (by show ¬ (r1.toInt < 0); omega))) (fun _ => ?_)
    refine ow_iload C A1 at_31 rfl rfl ?_
    refine ow_bipush C A1 at_33 (v := 16) rfl rfl ?_
    refine ow_icmp_ge C A1 at_35 (by decide) (pcY := 64) (by decide) (pcN := 38) rfl (fun zq => absurd (own_lt32 (by show r1.toInt < 16; omega)) zq) (fun _ => ?_)
    refine ow_iload C A1 at_38 rfl rfl ?_
    refine ow_aloadN C A1 at_40 rfl rfl rfl ?_
    refine ow_iload C A1 at_41 rfl rfl ?_
    obtain ⟨x14, hx14, hl14, hu14, hs14, hb14⟩ := own_low r1 ⟨by omega, by omega⟩
    refine ow_callV C A1 (argsL := [(.int r1)]) E1 (rm_ca l Z a0 hw a1 b1 kk1 r1 x14 gz own_VL G hh E1 Fc1 Fv1 Vb1 (own_nlt32 (by show ¬ (r1.toInt < 0); omega)) (own_lt32 (by show r1.toInt < 16; omega)) hx14 ⟨hl14, hu14⟩ SF rG SC hg []) tw_14 tw_15 (ow_nf hw tw_17) tw_17 tw_16 tw_1 tw_18 (by decide) all0 (by decide) (by decide) (ck' := 4) (sk' := 136) rfl rfl (by decide) (by decide) rfl (lenOf pd_5 rfl) (S := [(.int zz)]) rfl (W := 1) (Nat.le_of_eq rfl) at_43 rfl ?_
    intro T15 v15 K15 hQ15 A15
    obtain ⟨rfl, ee15⟩ := hQ15
    rw [ee15] at A15 K15
    show OwnWP _ _ _ _ _ _ _ _ _ T15 (mkF m 46 #[.val (.int p1), .val (.int p2), .val (.ref a1), .val (.ref a2), .val (.int zz), .val (.int r1), .unset, .unset, .unset] [(.int x14), (.int zz)])
    refine ow_icmp_eq C A15 at_46 (by decide) (pcY := 60) (by decide) (pcN := 49) rfl (fun _ => ?_) (fun zq => absurd (own_eq32 (by omega)) zq)
    refine ow_iconst C A15 at_60 (v := 1) rfl rfl ?_
    refine ow_goto C A15 at_61 (by decide) (pc' := 65) (by decide) ?_
    refine ow_istore C A15 at_65 (Ls' := #[.val (.int p1), .val (.int p2), .val (.ref a1), .val (.ref a2), .val (.int zz), .val (.int r1), .val (.int (1 : Int32)), .unset, .unset]) rfl rfl ?_
    refine ow_iloadN C A15 at_67 rfl rfl ?_
    refine ow_bipush C A15 at_68 (v := 15) rfl rfl ?_
    refine ow_iand C A15 at_70 rfl ?_
    have hk := own_15 p2
    obtain ⟨kd, hkd⟩ : ∃ z, z = p2 &&& (15 : Int32) := ⟨_, rfl⟩
    rw [← hkd] at hk ⊢
    have hkl := hk.1
    have hku := hk.2
    by_cases hsm : kd.toInt ≤ 9
    · skip
      refine ow_istore C A15 at_71 (Ls' := #[.val (.int p1), .val (.int p2), .val (.ref a1), .val (.ref a2), .val (.int zz), .val (.int r1), .val (.int (1 : Int32)), .val (.int kd), .unset]) rfl rfl ?_
      refine ow_aloadN C A15 at_73 rfl rfl rfl ?_
      refine ow_iload C A15 at_74 rfl rfl ?_
      obtain ⟨x16, hx16, hl16, hu16, hs16, hb16⟩ := own_low kd ⟨by omega, by omega⟩
      refine ow_callV C A15 (argsL := [(.int kd)]) E1 (rm_ca l Z a0 hw a1 b1 kk1 kd x16 gz own_VL G hh E1 Fc1 Fv1 Vb1 (own_nlt32 (by show ¬ (kd.toInt < 0); omega)) (own_lt32 (by show kd.toInt < 16; omega)) hx16 ⟨hl16, hu16⟩ SF rG SC hg []) tw_14 tw_15 (ow_nf hw tw_17) tw_17 tw_16 tw_1 tw_18 (by decide) all0 (by decide) (by decide) (ck' := 4) (sk' := 136) rfl rfl (by decide) (by decide) rfl (lenOf pd_5 rfl) (S := []) rfl (W := 0) (Nat.le_of_eq rfl) at_76 rfl ?_
      intro T17 v17 K17 hQ17 A17
      obtain ⟨rfl, ee17⟩ := hQ17
      rw [ee17] at A17 K17
      show OwnWP _ _ _ _ _ _ _ _ _ T17 (mkF m 79 #[.val (.int p1), .val (.int p2), .val (.ref a1), .val (.ref a2), .val (.int zz), .val (.int r1), .val (.int (1 : Int32)), .val (.int kd), .unset] [(.int x16)])
      refine ow_callS C A17 (argsL := [(.int x16)]) (rm_val l Z a0 hw x16 hh ⟨by omega, by omega⟩ []) tw_10 tw_11 tw_12 tw_13 (by decide) all0 (by decide) (by decide) (ck' := 4) (sk' := 136) rfl rfl (by decide) (by decide) rfl (lenOf pd_4 rfl) (S := []) rfl (W := 0) (Nat.le_of_eq rfl) at_79 rfl ?_
      intro T18 v18 K18 hQ18 A18
      obtain ⟨ee18, r18, rfl, hv18, nn18⟩ := hQ18
      rw [ee18] at A18 K18
      rcases hv18 with rfl | ⟨u18, v18, w18⟩ | ⟨u18, v18, w18⟩ | ⟨u18, v18, w18⟩
      · exfalso; have kn := nn18 rfl; omega
      · skip
        show OwnWP _ _ _ _ _ _ _ _ _ T18 (mkF m 82 #[.val (.int p1), .val (.int p2), .val (.ref a1), .val (.ref a2), .val (.int zz), .val (.int r1), .val (.int (1 : Int32)), .val (.int kd), .unset] [(.int r18)])
        have kn18 := True.intro
        refine ow_iload C A18 at_82 rfl rfl ?_
        refine ow_icmp_ne C A18 at_84 (by decide) (pcY := 105) (by decide) (pcN := 87) rfl (fun zq => absurd (own_eq32 (by omega)) zq) (fun _ => ?_)
        refine ow_aloadN C A18 at_87 rfl rfl rfl ?_
        refine ow_iload C A18 at_88 rfl rfl ?_
        obtain ⟨x19, hx19, hl19, hu19, hs19, hb19⟩ := own_upp kd ⟨by omega, by omega⟩
        refine ow_callV C A18 (argsL := [(.int kd)]) E2 (rm_ca l Z a0 hw a2 b2 kk2 kd x19 gz own_VU G hh E2 Fc2 Fv2 Vb2 (own_nlt32 (by show ¬ (kd.toInt < 0); omega)) (own_lt32 (by show kd.toInt < 16; omega)) hx19 ⟨hl19, hu19⟩ SF rG SC hg []) tw_14 tw_15 (ow_nf hw tw_17) tw_17 tw_16 tw_1 tw_18 (by decide) all0 (by decide) (by decide) (ck' := 4) (sk' := 136) rfl rfl (by decide) (by decide) rfl (lenOf pd_5 rfl) (S := []) rfl (W := 0) (Nat.le_of_eq rfl) at_90 rfl ?_
        intro T20 v20 K20 hQ20 A20
        obtain ⟨rfl, ee20⟩ := hQ20
        rw [ee20] at A20 K20
        show OwnWP _ _ _ _ _ _ _ _ _ T20 (mkF m 93 #[.val (.int p1), .val (.int p2), .val (.ref a1), .val (.ref a2), .val (.int zz), .val (.int r1), .val (.int (1 : Int32)), .val (.int kd), .unset] [(.int x19)])
        refine ow_callS C A20 (argsL := [(.int x19)]) (rm_val l Z a0 hw x19 hh ⟨by omega, by omega⟩ []) tw_10 tw_11 tw_12 tw_13 (by decide) all0 (by decide) (by decide) (ck' := 4) (sk' := 136) rfl rfl (by decide) (by decide) rfl (lenOf pd_4 rfl) (S := []) rfl (W := 0) (Nat.le_of_eq rfl) at_93 rfl ?_
        intro T21 v21 K21 hQ21 A21
        obtain ⟨ee21, r21, rfl, hv21, nn21⟩ := hQ21
        rw [ee21] at A21 K21
        rcases hv21 with rfl | ⟨u21, v21, w21⟩ | ⟨u21, v21, w21⟩ | ⟨u21, v21, w21⟩
        · exfalso; have kn := nn21 rfl; omega
        · skip
          show OwnWP _ _ _ _ _ _ _ _ _ T21 (mkF m 96 #[.val (.int p1), .val (.int p2), .val (.ref a1), .val (.ref a2), .val (.int zz), .val (.int r1), .val (.int (1 : Int32)), .val (.int kd), .unset] [(.int r21)])
          have kn21 := True.intro
          refine ow_iload C A21 at_96 rfl rfl ?_
          refine ow_icmp_ne C A21 at_98 (by decide) (pcY := 105) (by decide) (pcN := 101) rfl (fun zq => absurd (own_eq32 (by omega)) zq) (fun _ => ?_)
          refine ow_iconst C A21 at_101 (v := 1) rfl rfl ?_
          refine ow_goto C A21 at_102 (by decide) (pc' := 106) (by decide) ?_
          refine ow_istore C A21 at_106 (Ls' := #[.val (.int p1), .val (.int p2), .val (.ref a1), .val (.ref a2), .val (.int zz), .val (.int r1), .val (.int (1 : Int32)), .val (.int kd), .val (.int (1 : Int32))]) rfl rfl ?_
          refine ow_iload C A21 at_108 rfl rfl ?_
          refine ow_if_eq C A21 at_110 (by decide) (pcY := 122) (by decide) (pcN := 113) rfl (fun zq => absurd zq (by decide)) (fun _ => ?_)
          refine ow_iload C A21 at_113 rfl rfl ?_
          refine ow_if_eq C A21 at_115 (by decide) (pcY := 122) (by decide) (pcN := 118) rfl (fun zq => absurd zq (by decide)) (fun _ => ?_)
          refine ow_iconst C A21 at_118 (v := 1) rfl rfl ?_
          refine ow_goto C A21 at_119 (by decide) (pc' := 123) (by decide) ?_
          refine ow_ireturn C A21 (t := .boolean) rfl rfl (by simp) at_123 (by decide) (by decide) ?_
          exact rfl
        · exfalso; omega
        · exfalso; omega
      · exfalso; omega
      · exfalso; omega
    · skip
      refine ow_istore C A15 at_71 (Ls' := #[.val (.int p1), .val (.int p2), .val (.ref a1), .val (.ref a2), .val (.int zz), .val (.int r1), .val (.int (1 : Int32)), .val (.int kd), .unset]) rfl rfl ?_
      refine ow_aloadN C A15 at_73 rfl rfl rfl ?_
      refine ow_iload C A15 at_74 rfl rfl ?_
      obtain ⟨x22, hx22, hl22, hu22, hs22, hb22⟩ := own_low kd ⟨by omega, by omega⟩
      refine ow_callV C A15 (argsL := [(.int kd)]) E1 (rm_ca l Z a0 hw a1 b1 kk1 kd x22 gz own_VL G hh E1 Fc1 Fv1 Vb1 (own_nlt32 (by show ¬ (kd.toInt < 0); omega)) (own_lt32 (by show kd.toInt < 16; omega)) hx22 ⟨hl22, hu22⟩ SF rG SC hg []) tw_14 tw_15 (ow_nf hw tw_17) tw_17 tw_16 tw_1 tw_18 (by decide) all0 (by decide) (by decide) (ck' := 4) (sk' := 136) rfl rfl (by decide) (by decide) rfl (lenOf pd_5 rfl) (S := []) rfl (W := 0) (Nat.le_of_eq rfl) at_76 rfl ?_
      intro T23 v23 K23 hQ23 A23
      obtain ⟨rfl, ee23⟩ := hQ23
      rw [ee23] at A23 K23
      show OwnWP _ _ _ _ _ _ _ _ _ T23 (mkF m 79 #[.val (.int p1), .val (.int p2), .val (.ref a1), .val (.ref a2), .val (.int zz), .val (.int r1), .val (.int (1 : Int32)), .val (.int kd), .unset] [(.int x22)])
      refine ow_callS C A23 (argsL := [(.int x22)]) (rm_val l Z a0 hw x22 hh ⟨by omega, by omega⟩ []) tw_10 tw_11 tw_12 tw_13 (by decide) all0 (by decide) (by decide) (ck' := 4) (sk' := 136) rfl rfl (by decide) (by decide) rfl (lenOf pd_4 rfl) (S := []) rfl (W := 0) (Nat.le_of_eq rfl) at_79 rfl ?_
      intro T24 v24 K24 hQ24 A24
      obtain ⟨ee24, r24, rfl, hv24, nn24⟩ := hQ24
      rw [ee24] at A24 K24
      rcases hv24 with rfl | ⟨u24, v24, w24⟩ | ⟨u24, v24, w24⟩ | ⟨u24, v24, w24⟩
      · exfalso; have kn := nn24 rfl; omega
      · exfalso; omega
      · exfalso; omega
      · skip
        show OwnWP _ _ _ _ _ _ _ _ _ T24 (mkF m 82 #[.val (.int p1), .val (.int p2), .val (.ref a1), .val (.ref a2), .val (.int zz), .val (.int r1), .val (.int (1 : Int32)), .val (.int kd), .unset] [(.int r24)])
        have kn24 := True.intro
        refine ow_iload C A24 at_82 rfl rfl ?_
        refine ow_icmp_ne C A24 at_84 (by decide) (pcY := 105) (by decide) (pcN := 87) rfl (fun zq => absurd (own_eq32 (by omega)) zq) (fun _ => ?_)
        refine ow_aloadN C A24 at_87 rfl rfl rfl ?_
        refine ow_iload C A24 at_88 rfl rfl ?_
        obtain ⟨x25, hx25, hl25, hu25, hs25, hb25⟩ := own_upp kd ⟨by omega, by omega⟩
        refine ow_callV C A24 (argsL := [(.int kd)]) E2 (rm_ca l Z a0 hw a2 b2 kk2 kd x25 gz own_VU G hh E2 Fc2 Fv2 Vb2 (own_nlt32 (by show ¬ (kd.toInt < 0); omega)) (own_lt32 (by show kd.toInt < 16; omega)) hx25 ⟨hl25, hu25⟩ SF rG SC hg []) tw_14 tw_15 (ow_nf hw tw_17) tw_17 tw_16 tw_1 tw_18 (by decide) all0 (by decide) (by decide) (ck' := 4) (sk' := 136) rfl rfl (by decide) (by decide) rfl (lenOf pd_5 rfl) (S := []) rfl (W := 0) (Nat.le_of_eq rfl) at_90 rfl ?_
        intro T26 v26 K26 hQ26 A26
        obtain ⟨rfl, ee26⟩ := hQ26
        rw [ee26] at A26 K26
        show OwnWP _ _ _ _ _ _ _ _ _ T26 (mkF m 93 #[.val (.int p1), .val (.int p2), .val (.ref a1), .val (.ref a2), .val (.int zz), .val (.int r1), .val (.int (1 : Int32)), .val (.int kd), .unset] [(.int x25)])
        refine ow_callS C A26 (argsL := [(.int x25)]) (rm_val l Z a0 hw x25 hh ⟨by omega, by omega⟩ []) tw_10 tw_11 tw_12 tw_13 (by decide) all0 (by decide) (by decide) (ck' := 4) (sk' := 136) rfl rfl (by decide) (by decide) rfl (lenOf pd_4 rfl) (S := []) rfl (W := 0) (Nat.le_of_eq rfl) at_93 rfl ?_
        intro T27 v27 K27 hQ27 A27
        obtain ⟨ee27, r27, rfl, hv27, nn27⟩ := hQ27
        rw [ee27] at A27 K27
        rcases hv27 with rfl | ⟨u27, v27, w27⟩ | ⟨u27, v27, w27⟩ | ⟨u27, v27, w27⟩
        · exfalso; have kn := nn27 rfl; omega
        · exfalso; omega
        · skip
          show OwnWP _ _ _ _ _ _ _ _ _ T27 (mkF m 96 #[.val (.int p1), .val (.int p2), .val (.ref a1), .val (.ref a2), .val (.int zz), .val (.int r1), .val (.int (1 : Int32)), .val (.int kd), .unset] [(.int r27)])
          have kn27 := True.intro
          refine ow_iload C A27 at_96 rfl rfl ?_
          refine ow_icmp_ne C A27 at_98 (by decide) (pcY := 105) (by decide) (pcN := 101) rfl (fun zq => absurd (own_eq32 (by omega)) zq) (fun _ => ?_)
          refine ow_iconst C A27 at_101 (v := 1) rfl rfl ?_
          refine ow_goto C A27 at_102 (by decide) (pc' := 106) (by decide) ?_
          refine ow_istore C A27 at_106 (Ls' := #[.val (.int p1), .val (.int p2), .val (.ref a1), .val (.ref a2), .val (.int zz), .val (.int r1), .val (.int (1 : Int32)), .val (.int kd), .val (.int (1 : Int32))]) rfl rfl ?_
          refine ow_iload C A27 at_108 rfl rfl ?_
          refine ow_if_eq C A27 at_110 (by decide) (pcY := 122) (by decide) (pcN := 113) rfl (fun zq => absurd zq (by decide)) (fun _ => ?_)
          refine ow_iload C A27 at_113 rfl rfl ?_
          refine ow_if_eq C A27 at_115 (by decide) (pcY := 122) (by decide) (pcN := 118) rfl (fun zq => absurd zq (by decide)) (fun _ => ?_)
          refine ow_iconst C A27 at_118 (v := 1) rfl rfl ?_
          refine ow_goto C A27 at_119 (by decide) (pc' := 123) (by decide) ?_
          refine ow_ireturn C A27 (t := .boolean) rfl rfl (by simp) at_123 (by decide) (by decide) ?_
          exact rfl
        · exfalso; omega
  · skip
    show OwnWP _ _ _ _ _ _ _ _ _ T1 (mkF m 18 #[.val (.int p1), .val (.int p2), .val (.ref a1), .val (.ref a2), .val (.int zz), .unset, .unset, .unset, .unset] [(.int r1)])
    have kn1 := True.intro
    refine ow_istore C A1 at_18 (Ls' := #[.val (.int p1), .val (.int p2), .val (.ref a1), .val (.ref a2), .val (.int zz), .val (.int r1), .unset, .unset, .unset]) rfl rfl ?_
    refine ow_iload C A1 at_20 rfl rfl ?_
    refine ow_iconst C A1 at_22 (v := (-1)) rfl rfl ?_
    refine ow_icmp_eq C A1 at_23 (by decide) (pcY := 60) (by decide) (pcN := 26) rfl (fun zq => absurd zq (own_ne32 (by show ¬ (r1.toInt = (-1)); omega))) (fun _ => ?_)
    refine ow_iload C A1 at_26 rfl rfl ?_
    refine ow_if_lt C A1 at_28 (by decide) (pcY := 64) (by decide) (pcN := 31) rfl (fun zq => absurd zq (own_nlt32 (by show ¬ (r1.toInt < 0); omega))) (fun _ => ?_)
    refine ow_iload C A1 at_31 rfl rfl ?_
    refine ow_bipush C A1 at_33 (v := 16) rfl rfl ?_
    refine ow_icmp_ge C A1 at_35 (by decide) (pcY := 64) (by decide) (pcN := 38) rfl (fun zq => absurd (own_lt32 (by show r1.toInt < 16; omega)) zq) (fun _ => ?_)
    refine ow_iload C A1 at_38 rfl rfl ?_
    refine ow_aloadN C A1 at_40 rfl rfl rfl ?_
    refine ow_iload C A1 at_41 rfl rfl ?_
    obtain ⟨x28, hx28, hl28, hu28, hs28, hb28⟩ := own_low r1 ⟨by omega, by omega⟩
    refine ow_callV C A1 (argsL := [(.int r1)]) E1 (rm_ca l Z a0 hw a1 b1 kk1 r1 x28 gz own_VL G hh E1 Fc1 Fv1 Vb1 (own_nlt32 (by show ¬ (r1.toInt < 0); omega)) (own_lt32 (by show r1.toInt < 16; omega)) hx28 ⟨hl28, hu28⟩ SF rG SC hg []) tw_14 tw_15 (ow_nf hw tw_17) tw_17 tw_16 tw_1 tw_18 (by decide) all0 (by decide) (by decide) (ck' := 4) (sk' := 136) rfl rfl (by decide) (by decide) rfl (lenOf pd_5 rfl) (S := [(.int zz)]) rfl (W := 1) (Nat.le_of_eq rfl) at_43 rfl ?_
    intro T29 v29 K29 hQ29 A29
    obtain ⟨rfl, ee29⟩ := hQ29
    rw [ee29] at A29 K29
    show OwnWP _ _ _ _ _ _ _ _ _ T29 (mkF m 46 #[.val (.int p1), .val (.int p2), .val (.ref a1), .val (.ref a2), .val (.int zz), .val (.int r1), .unset, .unset, .unset] [(.int x28), (.int zz)])
    refine ow_icmp_eq C A29 at_46 (by decide) (pcY := 60) (by decide) (pcN := 49) rfl (fun zq => absurd zq (own_ne32 (by omega))) (fun _ => ?_)
    refine ow_iload C A29 at_49 rfl rfl ?_
    refine ow_aloadN C A29 at_51 rfl rfl rfl ?_
    refine ow_iload C A29 at_52 rfl rfl ?_
    obtain ⟨x30, hx30, hl30, hu30, hs30, hb30⟩ := own_upp r1 ⟨by omega, by omega⟩
    refine ow_callV C A29 (argsL := [(.int r1)]) E2 (rm_ca l Z a0 hw a2 b2 kk2 r1 x30 gz own_VU G hh E2 Fc2 Fv2 Vb2 (own_nlt32 (by show ¬ (r1.toInt < 0); omega)) (own_lt32 (by show r1.toInt < 16; omega)) hx30 ⟨hl30, hu30⟩ SF rG SC hg []) tw_14 tw_15 (ow_nf hw tw_17) tw_17 tw_16 tw_1 tw_18 (by decide) all0 (by decide) (by decide) (ck' := 4) (sk' := 136) rfl rfl (by decide) (by decide) rfl (lenOf pd_5 rfl) (S := [(.int zz)]) rfl (W := 1) (Nat.le_of_eq rfl) at_54 rfl ?_
    intro T31 v31 K31 hQ31 A31
    obtain ⟨rfl, ee31⟩ := hQ31
    rw [ee31] at A31 K31
    show OwnWP _ _ _ _ _ _ _ _ _ T31 (mkF m 57 #[.val (.int p1), .val (.int p2), .val (.ref a1), .val (.ref a2), .val (.int zz), .val (.int r1), .unset, .unset, .unset] [(.int x30), (.int zz)])
    refine ow_icmp_ne C A31 at_57 (by decide) (pcY := 64) (by decide) (pcN := 60) rfl (fun zq => absurd (own_eq32 (by omega)) zq) (fun _ => ?_)
    refine ow_iconst C A31 at_60 (v := 1) rfl rfl ?_
    refine ow_goto C A31 at_61 (by decide) (pc' := 65) (by decide) ?_
    refine ow_istore C A31 at_65 (Ls' := #[.val (.int p1), .val (.int p2), .val (.ref a1), .val (.ref a2), .val (.int zz), .val (.int r1), .val (.int (1 : Int32)), .unset, .unset]) rfl rfl ?_
    refine ow_iloadN C A31 at_67 rfl rfl ?_
    refine ow_bipush C A31 at_68 (v := 15) rfl rfl ?_
    refine ow_iand C A31 at_70 rfl ?_
    have hk := own_15 p2
    obtain ⟨kd, hkd⟩ : ∃ z, z = p2 &&& (15 : Int32) := ⟨_, rfl⟩
    rw [← hkd] at hk ⊢
    have hkl := hk.1
    have hku := hk.2
    by_cases hsm : kd.toInt ≤ 9
    · skip
      refine ow_istore C A31 at_71 (Ls' := #[.val (.int p1), .val (.int p2), .val (.ref a1), .val (.ref a2), .val (.int zz), .val (.int r1), .val (.int (1 : Int32)), .val (.int kd), .unset]) rfl rfl ?_
      refine ow_aloadN C A31 at_73 rfl rfl rfl ?_
      refine ow_iload C A31 at_74 rfl rfl ?_
      obtain ⟨x32, hx32, hl32, hu32, hs32, hb32⟩ := own_low kd ⟨by omega, by omega⟩
      refine ow_callV C A31 (argsL := [(.int kd)]) E1 (rm_ca l Z a0 hw a1 b1 kk1 kd x32 gz own_VL G hh E1 Fc1 Fv1 Vb1 (own_nlt32 (by show ¬ (kd.toInt < 0); omega)) (own_lt32 (by show kd.toInt < 16; omega)) hx32 ⟨hl32, hu32⟩ SF rG SC hg []) tw_14 tw_15 (ow_nf hw tw_17) tw_17 tw_16 tw_1 tw_18 (by decide) all0 (by decide) (by decide) (ck' := 4) (sk' := 136) rfl rfl (by decide) (by decide) rfl (lenOf pd_5 rfl) (S := []) rfl (W := 0) (Nat.le_of_eq rfl) at_76 rfl ?_
      intro T33 v33 K33 hQ33 A33
      obtain ⟨rfl, ee33⟩ := hQ33
      rw [ee33] at A33 K33
      show OwnWP _ _ _ _ _ _ _ _ _ T33 (mkF m 79 #[.val (.int p1), .val (.int p2), .val (.ref a1), .val (.ref a2), .val (.int zz), .val (.int r1), .val (.int (1 : Int32)), .val (.int kd), .unset] [(.int x32)])
      refine ow_callS C A33 (argsL := [(.int x32)]) (rm_val l Z a0 hw x32 hh ⟨by omega, by omega⟩ []) tw_10 tw_11 tw_12 tw_13 (by decide) all0 (by decide) (by decide) (ck' := 4) (sk' := 136) rfl rfl (by decide) (by decide) rfl (lenOf pd_4 rfl) (S := []) rfl (W := 0) (Nat.le_of_eq rfl) at_79 rfl ?_
      intro T34 v34 K34 hQ34 A34
      obtain ⟨ee34, r34, rfl, hv34, nn34⟩ := hQ34
      rw [ee34] at A34 K34
      rcases hv34 with rfl | ⟨u34, v34, w34⟩ | ⟨u34, v34, w34⟩ | ⟨u34, v34, w34⟩
      · exfalso; have kn := nn34 rfl; omega
      · skip
        show OwnWP _ _ _ _ _ _ _ _ _ T34 (mkF m 82 #[.val (.int p1), .val (.int p2), .val (.ref a1), .val (.ref a2), .val (.int zz), .val (.int r1), .val (.int (1 : Int32)), .val (.int kd), .unset] [(.int r34)])
        have kn34 := True.intro
        refine ow_iload C A34 at_82 rfl rfl ?_
        refine ow_icmp_ne C A34 at_84 (by decide) (pcY := 105) (by decide) (pcN := 87) rfl (fun zq => absurd (own_eq32 (by omega)) zq) (fun _ => ?_)
        refine ow_aloadN C A34 at_87 rfl rfl rfl ?_
        refine ow_iload C A34 at_88 rfl rfl ?_
        obtain ⟨x35, hx35, hl35, hu35, hs35, hb35⟩ := own_upp kd ⟨by omega, by omega⟩
        refine ow_callV C A34 (argsL := [(.int kd)]) E2 (rm_ca l Z a0 hw a2 b2 kk2 kd x35 gz own_VU G hh E2 Fc2 Fv2 Vb2 (own_nlt32 (by show ¬ (kd.toInt < 0); omega)) (own_lt32 (by show kd.toInt < 16; omega)) hx35 ⟨hl35, hu35⟩ SF rG SC hg []) tw_14 tw_15 (ow_nf hw tw_17) tw_17 tw_16 tw_1 tw_18 (by decide) all0 (by decide) (by decide) (ck' := 4) (sk' := 136) rfl rfl (by decide) (by decide) rfl (lenOf pd_5 rfl) (S := []) rfl (W := 0) (Nat.le_of_eq rfl) at_90 rfl ?_
        intro T36 v36 K36 hQ36 A36
        obtain ⟨rfl, ee36⟩ := hQ36
        rw [ee36] at A36 K36
        show OwnWP _ _ _ _ _ _ _ _ _ T36 (mkF m 93 #[.val (.int p1), .val (.int p2), .val (.ref a1), .val (.ref a2), .val (.int zz), .val (.int r1), .val (.int (1 : Int32)), .val (.int kd), .unset] [(.int x35)])
        refine ow_callS C A36 (argsL := [(.int x35)]) (rm_val l Z a0 hw x35 hh ⟨by omega, by omega⟩ []) tw_10 tw_11 tw_12 tw_13 (by decide) all0 (by decide) (by decide) (ck' := 4) (sk' := 136) rfl rfl (by decide) (by decide) rfl (lenOf pd_4 rfl) (S := []) rfl (W := 0) (Nat.le_of_eq rfl) at_93 rfl ?_
        intro T37 v37 K37 hQ37 A37
        obtain ⟨ee37, r37, rfl, hv37, nn37⟩ := hQ37
        rw [ee37] at A37 K37
        rcases hv37 with rfl | ⟨u37, v37, w37⟩ | ⟨u37, v37, w37⟩ | ⟨u37, v37, w37⟩
        · exfalso; have kn := nn37 rfl; omega
        · skip
          show OwnWP _ _ _ _ _ _ _ _ _ T37 (mkF m 96 #[.val (.int p1), .val (.int p2), .val (.ref a1), .val (.ref a2), .val (.int zz), .val (.int r1), .val (.int (1 : Int32)), .val (.int kd), .unset] [(.int r37)])
          have kn37 := True.intro
          refine ow_iload C A37 at_96 rfl rfl ?_
          refine ow_icmp_ne C A37 at_98 (by decide) (pcY := 105) (by decide) (pcN := 101) rfl (fun zq => absurd (own_eq32 (by omega)) zq) (fun _ => ?_)
          refine ow_iconst C A37 at_101 (v := 1) rfl rfl ?_
          refine ow_goto C A37 at_102 (by decide) (pc' := 106) (by decide) ?_
          refine ow_istore C A37 at_106 (Ls' := #[.val (.int p1), .val (.int p2), .val (.ref a1), .val (.ref a2), .val (.int zz), .val (.int r1), .val (.int (1 : Int32)), .val (.int kd), .val (.int (1 : Int32))]) rfl rfl ?_
          refine ow_iload C A37 at_108 rfl rfl ?_
          refine ow_if_eq C A37 at_110 (by decide) (pcY := 122) (by decide) (pcN := 113) rfl (fun zq => absurd zq (by decide)) (fun _ => ?_)
          refine ow_iload C A37 at_113 rfl rfl ?_
          refine ow_if_eq C A37 at_115 (by decide) (pcY := 122) (by decide) (pcN := 118) rfl (fun zq => absurd zq (by decide)) (fun _ => ?_)
          refine ow_iconst C A37 at_118 (v := 1) rfl rfl ?_
          refine ow_goto C A37 at_119 (by decide) (pc' := 123) (by decide) ?_
          refine ow_ireturn C A37 (t := .boolean) rfl rfl (by simp) at_123 (by decide) (by decide) ?_
          exact rfl
        · exfalso; omega
        · exfalso; omega
      · exfalso; omega
      · exfalso; omega
    · skip
      refine ow_istore C A31 at_71 (Ls' := #[.val (.int p1), .val (.int p2), .val (.ref a1), .val (.ref a2), .val (.int zz), .val (.int r1), .val (.int (1 : Int32)), .val (.int kd), .unset]) rfl rfl ?_
      refine ow_aloadN C A31 at_73 rfl rfl rfl ?_
      refine ow_iload C A31 at_74 rfl rfl ?_
      obtain ⟨x38, hx38, hl38, hu38, hs38, hb38⟩ := own_low kd ⟨by omega, by omega⟩
      refine ow_callV C A31 (argsL := [(.int kd)]) E1 (rm_ca l Z a0 hw a1 b1 kk1 kd x38 gz own_VL G hh E1 Fc1 Fv1 Vb1 (own_nlt32 (by show ¬ (kd.toInt < 0); omega)) (own_lt32 (by show kd.toInt < 16; omega)) hx38 ⟨hl38, hu38⟩ SF rG SC hg []) tw_14 tw_15 (ow_nf hw tw_17) tw_17 tw_16 tw_1 tw_18 (by decide) all0 (by decide) (by decide) (ck' := 4) (sk' := 136) rfl rfl (by decide) (by decide) rfl (lenOf pd_5 rfl) (S := []) rfl (W := 0) (Nat.le_of_eq rfl) at_76 rfl ?_
      intro T39 v39 K39 hQ39 A39
      obtain ⟨rfl, ee39⟩ := hQ39
      rw [ee39] at A39 K39
      show OwnWP _ _ _ _ _ _ _ _ _ T39 (mkF m 79 #[.val (.int p1), .val (.int p2), .val (.ref a1), .val (.ref a2), .val (.int zz), .val (.int r1), .val (.int (1 : Int32)), .val (.int kd), .unset] [(.int x38)])
      refine ow_callS C A39 (argsL := [(.int x38)]) (rm_val l Z a0 hw x38 hh ⟨by omega, by omega⟩ []) tw_10 tw_11 tw_12 tw_13 (by decide) all0 (by decide) (by decide) (ck' := 4) (sk' := 136) rfl rfl (by decide) (by decide) rfl (lenOf pd_4 rfl) (S := []) rfl (W := 0) (Nat.le_of_eq rfl) at_79 rfl ?_
      intro T40 v40 K40 hQ40 A40
      obtain ⟨ee40, r40, rfl, hv40, nn40⟩ := hQ40
      rw [ee40] at A40 K40
      rcases hv40 with rfl | ⟨u40, v40, w40⟩ | ⟨u40, v40, w40⟩ | ⟨u40, v40, w40⟩
      · exfalso; have kn := nn40 rfl; omega
      · exfalso; omega
      · exfalso; omega
      · skip
        show OwnWP _ _ _ _ _ _ _ _ _ T40 (mkF m 82 #[.val (.int p1), .val (.int p2), .val (.ref a1), .val (.ref a2), .val (.int zz), .val (.int r1), .val (.int (1 : Int32)), .val (.int kd), .unset] [(.int r40)])
        have kn40 := True.intro
        refine ow_iload C A40 at_82 rfl rfl ?_
        refine ow_icmp_ne C A40 at_84 (by decide) (pcY := 105) (by decide) (pcN := 87) rfl (fun zq => absurd (own_eq32 (by omega)) zq) (fun _ => ?_)
        refine ow_aloadN C A40 at_87 rfl rfl rfl ?_
        refine ow_iload C A40 at_88 rfl rfl ?_
        obtain ⟨x41, hx41, hl41, hu41, hs41, hb41⟩ := own_upp kd ⟨by omega, by omega⟩
        refine ow_callV C A40 (argsL := [(.int kd)]) E2 (rm_ca l Z a0 hw a2 b2 kk2 kd x41 gz own_VU G hh E2 Fc2 Fv2 Vb2 (own_nlt32 (by show ¬ (kd.toInt < 0); omega)) (own_lt32 (by show kd.toInt < 16; omega)) hx41 ⟨hl41, hu41⟩ SF rG SC hg []) tw_14 tw_15 (ow_nf hw tw_17) tw_17 tw_16 tw_1 tw_18 (by decide) all0 (by decide) (by decide) (ck' := 4) (sk' := 136) rfl rfl (by decide) (by decide) rfl (lenOf pd_5 rfl) (S := []) rfl (W := 0) (Nat.le_of_eq rfl) at_90 rfl ?_
        intro T42 v42 K42 hQ42 A42
        obtain ⟨rfl, ee42⟩ := hQ42
        rw [ee42] at A42 K42
        show OwnWP _ _ _ _ _ _ _ _ _ T42 (mkF m 93 #[.val (.int p1), .val (.int p2), .val (.ref a1), .val (.ref a2), .val (.int zz), .val (.int r1), .val (.int (1 : Int32)), .val (.int kd), .unset] [(.int x41)])
        refine ow_callS C A42 (argsL := [(.int x41)]) (rm_val l Z a0 hw x41 hh ⟨by omega, by omega⟩ []) tw_10 tw_11 tw_12 tw_13 (by decide) all0 (by decide) (by decide) (ck' := 4) (sk' := 136) rfl rfl (by decide) (by decide) rfl (lenOf pd_4 rfl) (S := []) rfl (W := 0) (Nat.le_of_eq rfl) at_93 rfl ?_
        intro T43 v43 K43 hQ43 A43
        obtain ⟨ee43, r43, rfl, hv43, nn43⟩ := hQ43
        rw [ee43] at A43 K43
        rcases hv43 with rfl | ⟨u43, v43, w43⟩ | ⟨u43, v43, w43⟩ | ⟨u43, v43, w43⟩
        · exfalso; have kn := nn43 rfl; omega
        · exfalso; omega
        · skip
          show OwnWP _ _ _ _ _ _ _ _ _ T43 (mkF m 96 #[.val (.int p1), .val (.int p2), .val (.ref a1), .val (.ref a2), .val (.int zz), .val (.int r1), .val (.int (1 : Int32)), .val (.int kd), .unset] [(.int r43)])
          have kn43 := True.intro
          refine ow_iload C A43 at_96 rfl rfl ?_
          refine ow_icmp_ne C A43 at_98 (by decide) (pcY := 105) (by decide) (pcN := 101) rfl (fun zq => absurd (own_eq32 (by omega)) zq) (fun _ => ?_)
          refine ow_iconst C A43 at_101 (v := 1) rfl rfl ?_
          refine ow_goto C A43 at_102 (by decide) (pc' := 106) (by decide) ?_
          refine ow_istore C A43 at_106 (Ls' := #[.val (.int p1), .val (.int p2), .val (.ref a1), .val (.ref a2), .val (.int zz), .val (.int r1), .val (.int (1 : Int32)), .val (.int kd), .val (.int (1 : Int32))]) rfl rfl ?_
          refine ow_iload C A43 at_108 rfl rfl ?_
          refine ow_if_eq C A43 at_110 (by decide) (pcY := 122) (by decide) (pcN := 113) rfl (fun zq => absurd zq (by decide)) (fun _ => ?_)
          refine ow_iload C A43 at_113 rfl rfl ?_
          refine ow_if_eq C A43 at_115 (by decide) (pcY := 122) (by decide) (pcN := 118) rfl (fun zq => absurd zq (by decide)) (fun _ => ?_)
          refine ow_iconst C A43 at_118 (v := 1) rfl rfl ?_
          refine ow_goto C A43 at_119 (by decide) (pc' := 123) (by decide) ?_
          refine ow_ireturn C A43 (t := .boolean) rfl rfl (by simp) at_123 (by decide) (by decide) ?_
          exact rfl
        · exfalso; omega
  · skip
    show OwnWP _ _ _ _ _ _ _ _ _ T1 (mkF m 18 #[.val (.int p1), .val (.int p2), .val (.ref a1), .val (.ref a2), .val (.int zz), .unset, .unset, .unset, .unset] [(.int r1)])
    have kn1 := True.intro
    refine ow_istore C A1 at_18 (Ls' := #[.val (.int p1), .val (.int p2), .val (.ref a1), .val (.ref a2), .val (.int zz), .val (.int r1), .unset, .unset, .unset]) rfl rfl ?_
    refine ow_iload C A1 at_20 rfl rfl ?_
    refine ow_iconst C A1 at_22 (v := (-1)) rfl rfl ?_
    refine ow_icmp_eq C A1 at_23 (by decide) (pcY := 60) (by decide) (pcN := 26) rfl (fun zq => absurd zq (own_ne32 (by show ¬ (r1.toInt = (-1)); omega))) (fun _ => ?_)
    refine ow_iload C A1 at_26 rfl rfl ?_
    refine ow_if_lt C A1 at_28 (by decide) (pcY := 64) (by decide) (pcN := 31) rfl (fun zq => absurd zq (own_nlt32 (by show ¬ (r1.toInt < 0); omega))) (fun _ => ?_)
    refine ow_iload C A1 at_31 rfl rfl ?_
    refine ow_bipush C A1 at_33 (v := 16) rfl rfl ?_
    refine ow_icmp_ge C A1 at_35 (by decide) (pcY := 64) (by decide) (pcN := 38) rfl (fun zq => absurd (own_lt32 (by show r1.toInt < 16; omega)) zq) (fun _ => ?_)
    refine ow_iload C A1 at_38 rfl rfl ?_
    refine ow_aloadN C A1 at_40 rfl rfl rfl ?_
    refine ow_iload C A1 at_41 rfl rfl ?_
    obtain ⟨x44, hx44, hl44, hu44, hs44, hb44⟩ := own_low r1 ⟨by omega, by omega⟩
    refine ow_callV C A1 (argsL := [(.int r1)]) E1 (rm_ca l Z a0 hw a1 b1 kk1 r1 x44 gz own_VL G hh E1 Fc1 Fv1 Vb1 (own_nlt32 (by show ¬ (r1.toInt < 0); omega)) (own_lt32 (by show r1.toInt < 16; omega)) hx44 ⟨hl44, hu44⟩ SF rG SC hg []) tw_14 tw_15 (ow_nf hw tw_17) tw_17 tw_16 tw_1 tw_18 (by decide) all0 (by decide) (by decide) (ck' := 4) (sk' := 136) rfl rfl (by decide) (by decide) rfl (lenOf pd_5 rfl) (S := [(.int zz)]) rfl (W := 1) (Nat.le_of_eq rfl) at_43 rfl ?_
    intro T45 v45 K45 hQ45 A45
    obtain ⟨rfl, ee45⟩ := hQ45
    rw [ee45] at A45 K45
    show OwnWP _ _ _ _ _ _ _ _ _ T45 (mkF m 46 #[.val (.int p1), .val (.int p2), .val (.ref a1), .val (.ref a2), .val (.int zz), .val (.int r1), .unset, .unset, .unset] [(.int x44), (.int zz)])
    refine ow_icmp_eq C A45 at_46 (by decide) (pcY := 60) (by decide) (pcN := 49) rfl (fun _ => ?_) (fun zq => absurd (own_eq32 (by omega)) zq)
    refine ow_iconst C A45 at_60 (v := 1) rfl rfl ?_
    refine ow_goto C A45 at_61 (by decide) (pc' := 65) (by decide) ?_
    refine ow_istore C A45 at_65 (Ls' := #[.val (.int p1), .val (.int p2), .val (.ref a1), .val (.ref a2), .val (.int zz), .val (.int r1), .val (.int (1 : Int32)), .unset, .unset]) rfl rfl ?_
    refine ow_iloadN C A45 at_67 rfl rfl ?_
    refine ow_bipush C A45 at_68 (v := 15) rfl rfl ?_
    refine ow_iand C A45 at_70 rfl ?_
    have hk := own_15 p2
    obtain ⟨kd, hkd⟩ : ∃ z, z = p2 &&& (15 : Int32) := ⟨_, rfl⟩
    rw [← hkd] at hk ⊢
    have hkl := hk.1
    have hku := hk.2
    by_cases hsm : kd.toInt ≤ 9
    · skip
      refine ow_istore C A45 at_71 (Ls' := #[.val (.int p1), .val (.int p2), .val (.ref a1), .val (.ref a2), .val (.int zz), .val (.int r1), .val (.int (1 : Int32)), .val (.int kd), .unset]) rfl rfl ?_
      refine ow_aloadN C A45 at_73 rfl rfl rfl ?_
      refine ow_iload C A45 at_74 rfl rfl ?_
      obtain ⟨x46, hx46, hl46, hu46, hs46, hb46⟩ := own_low kd ⟨by omega, by omega⟩
      refine ow_callV C A45 (argsL := [(.int kd)]) E1 (rm_ca l Z a0 hw a1 b1 kk1 kd x46 gz own_VL G hh E1 Fc1 Fv1 Vb1 (own_nlt32 (by show ¬ (kd.toInt < 0); omega)) (own_lt32 (by show kd.toInt < 16; omega)) hx46 ⟨hl46, hu46⟩ SF rG SC hg []) tw_14 tw_15 (ow_nf hw tw_17) tw_17 tw_16 tw_1 tw_18 (by decide) all0 (by decide) (by decide) (ck' := 4) (sk' := 136) rfl rfl (by decide) (by decide) rfl (lenOf pd_5 rfl) (S := []) rfl (W := 0) (Nat.le_of_eq rfl) at_76 rfl ?_
      intro T47 v47 K47 hQ47 A47
      obtain ⟨rfl, ee47⟩ := hQ47
      rw [ee47] at A47 K47
      show OwnWP _ _ _ _ _ _ _ _ _ T47 (mkF m 79 #[.val (.int p1), .val (.int p2), .val (.ref a1), .val (.ref a2), .val (.int zz), .val (.int r1), .val (.int (1 : Int32)), .val (.int kd), .unset] [(.int x46)])
      refine ow_callS C A47 (argsL := [(.int x46)]) (rm_val l Z a0 hw x46 hh ⟨by omega, by omega⟩ []) tw_10 tw_11 tw_12 tw_13 (by decide) all0 (by decide) (by decide) (ck' := 4) (sk' := 136) rfl rfl (by decide) (by decide) rfl (lenOf pd_4 rfl) (S := []) rfl (W := 0) (Nat.le_of_eq rfl) at_79 rfl ?_
      intro T48 v48 K48 hQ48 A48
      obtain ⟨ee48, r48, rfl, hv48, nn48⟩ := hQ48
      rw [ee48] at A48 K48
      rcases hv48 with rfl | ⟨u48, v48, w48⟩ | ⟨u48, v48, w48⟩ | ⟨u48, v48, w48⟩
      · exfalso; have kn := nn48 rfl; omega
      · skip
        show OwnWP _ _ _ _ _ _ _ _ _ T48 (mkF m 82 #[.val (.int p1), .val (.int p2), .val (.ref a1), .val (.ref a2), .val (.int zz), .val (.int r1), .val (.int (1 : Int32)), .val (.int kd), .unset] [(.int r48)])
        have kn48 := True.intro
        refine ow_iload C A48 at_82 rfl rfl ?_
        refine ow_icmp_ne C A48 at_84 (by decide) (pcY := 105) (by decide) (pcN := 87) rfl (fun zq => absurd (own_eq32 (by omega)) zq) (fun _ => ?_)
        refine ow_aloadN C A48 at_87 rfl rfl rfl ?_
        refine ow_iload C A48 at_88 rfl rfl ?_
        obtain ⟨x49, hx49, hl49, hu49, hs49, hb49⟩ := own_upp kd ⟨by omega, by omega⟩
        refine ow_callV C A48 (argsL := [(.int kd)]) E2 (rm_ca l Z a0 hw a2 b2 kk2 kd x49 gz own_VU G hh E2 Fc2 Fv2 Vb2 (own_nlt32 (by show ¬ (kd.toInt < 0); omega)) (own_lt32 (by show kd.toInt < 16; omega)) hx49 ⟨hl49, hu49⟩ SF rG SC hg []) tw_14 tw_15 (ow_nf hw tw_17) tw_17 tw_16 tw_1 tw_18 (by decide) all0 (by decide) (by decide) (ck' := 4) (sk' := 136) rfl rfl (by decide) (by decide) rfl (lenOf pd_5 rfl) (S := []) rfl (W := 0) (Nat.le_of_eq rfl) at_90 rfl ?_
        intro T50 v50 K50 hQ50 A50
        obtain ⟨rfl, ee50⟩ := hQ50
        rw [ee50] at A50 K50
        show OwnWP _ _ _ _ _ _ _ _ _ T50 (mkF m 93 #[.val (.int p1), .val (.int p2), .val (.ref a1), .val (.ref a2), .val (.int zz), .val (.int r1), .val (.int (1 : Int32)), .val (.int kd), .unset] [(.int x49)])
        refine ow_callS C A50 (argsL := [(.int x49)]) (rm_val l Z a0 hw x49 hh ⟨by omega, by omega⟩ []) tw_10 tw_11 tw_12 tw_13 (by decide) all0 (by decide) (by decide) (ck' := 4) (sk' := 136) rfl rfl (by decide) (by decide) rfl (lenOf pd_4 rfl) (S := []) rfl (W := 0) (Nat.le_of_eq rfl) at_93 rfl ?_
        intro T51 v51 K51 hQ51 A51
        obtain ⟨ee51, r51, rfl, hv51, nn51⟩ := hQ51
        rw [ee51] at A51 K51
        rcases hv51 with rfl | ⟨u51, v51, w51⟩ | ⟨u51, v51, w51⟩ | ⟨u51, v51, w51⟩
        · exfalso; have kn := nn51 rfl; omega
        · skip
          show OwnWP _ _ _ _ _ _ _ _ _ T51 (mkF m 96 #[.val (.int p1), .val (.int p2), .val (.ref a1), .val (.ref a2), .val (.int zz), .val (.int r1), .val (.int (1 : Int32)), .val (.int kd), .unset] [(.int r51)])
          have kn51 := True.intro
          refine ow_iload C A51 at_96 rfl rfl ?_
          refine ow_icmp_ne C A51 at_98 (by decide) (pcY := 105) (by decide) (pcN := 101) rfl (fun zq => absurd (own_eq32 (by omega)) zq) (fun _ => ?_)
          refine ow_iconst C A51 at_101 (v := 1) rfl rfl ?_
          refine ow_goto C A51 at_102 (by decide) (pc' := 106) (by decide) ?_
          refine ow_istore C A51 at_106 (Ls' := #[.val (.int p1), .val (.int p2), .val (.ref a1), .val (.ref a2), .val (.int zz), .val (.int r1), .val (.int (1 : Int32)), .val (.int kd), .val (.int (1 : Int32))]) rfl rfl ?_
          refine ow_iload C A51 at_108 rfl rfl ?_
          refine ow_if_eq C A51 at_110 (by decide) (pcY := 122) (by decide) (pcN := 113) rfl (fun zq => absurd zq (by decide)) (fun _ => ?_)
          refine ow_iload C A51 at_113 rfl rfl ?_
          refine ow_if_eq C A51 at_115 (by decide) (pcY := 122) (by decide) (pcN := 118) rfl (fun zq => absurd zq (by decide)) (fun _ => ?_)
          refine ow_iconst C A51 at_118 (v := 1) rfl rfl ?_
          refine ow_goto C A51 at_119 (by decide) (pc' := 123) (by decide) ?_
          refine ow_ireturn C A51 (t := .boolean) rfl rfl (by simp) at_123 (by decide) (by decide) ?_
          exact rfl
        · exfalso; omega
        · exfalso; omega
      · exfalso; omega
      · exfalso; omega
    · skip
      refine ow_istore C A45 at_71 (Ls' := #[.val (.int p1), .val (.int p2), .val (.ref a1), .val (.ref a2), .val (.int zz), .val (.int r1), .val (.int (1 : Int32)), .val (.int kd), .unset]) rfl rfl ?_
      refine ow_aloadN C A45 at_73 rfl rfl rfl ?_
      refine ow_iload C A45 at_74 rfl rfl ?_
      obtain ⟨x52, hx52, hl52, hu52, hs52, hb52⟩ := own_low kd ⟨by omega, by omega⟩
      refine ow_callV C A45 (argsL := [(.int kd)]) E1 (rm_ca l Z a0 hw a1 b1 kk1 kd x52 gz own_VL G hh E1 Fc1 Fv1 Vb1 (own_nlt32 (by show ¬ (kd.toInt < 0); omega)) (own_lt32 (by show kd.toInt < 16; omega)) hx52 ⟨hl52, hu52⟩ SF rG SC hg []) tw_14 tw_15 (ow_nf hw tw_17) tw_17 tw_16 tw_1 tw_18 (by decide) all0 (by decide) (by decide) (ck' := 4) (sk' := 136) rfl rfl (by decide) (by decide) rfl (lenOf pd_5 rfl) (S := []) rfl (W := 0) (Nat.le_of_eq rfl) at_76 rfl ?_
      intro T53 v53 K53 hQ53 A53
      obtain ⟨rfl, ee53⟩ := hQ53
      rw [ee53] at A53 K53
      show OwnWP _ _ _ _ _ _ _ _ _ T53 (mkF m 79 #[.val (.int p1), .val (.int p2), .val (.ref a1), .val (.ref a2), .val (.int zz), .val (.int r1), .val (.int (1 : Int32)), .val (.int kd), .unset] [(.int x52)])
      refine ow_callS C A53 (argsL := [(.int x52)]) (rm_val l Z a0 hw x52 hh ⟨by omega, by omega⟩ []) tw_10 tw_11 tw_12 tw_13 (by decide) all0 (by decide) (by decide) (ck' := 4) (sk' := 136) rfl rfl (by decide) (by decide) rfl (lenOf pd_4 rfl) (S := []) rfl (W := 0) (Nat.le_of_eq rfl) at_79 rfl ?_
      intro T54 v54 K54 hQ54 A54
      obtain ⟨ee54, r54, rfl, hv54, nn54⟩ := hQ54
      rw [ee54] at A54 K54
      rcases hv54 with rfl | ⟨u54, v54, w54⟩ | ⟨u54, v54, w54⟩ | ⟨u54, v54, w54⟩
      · exfalso; have kn := nn54 rfl; omega
      · exfalso; omega
      · exfalso; omega
      · skip
        show OwnWP _ _ _ _ _ _ _ _ _ T54 (mkF m 82 #[.val (.int p1), .val (.int p2), .val (.ref a1), .val (.ref a2), .val (.int zz), .val (.int r1), .val (.int (1 : Int32)), .val (.int kd), .unset] [(.int r54)])
        have kn54 := True.intro
        refine ow_iload C A54 at_82 rfl rfl ?_
        refine ow_icmp_ne C A54 at_84 (by decide) (pcY := 105) (by decide) (pcN := 87) rfl (fun zq => absurd (own_eq32 (by omega)) zq) (fun _ => ?_)
        refine ow_aloadN C A54 at_87 rfl rfl rfl ?_
        refine ow_iload C A54 at_88 rfl rfl ?_
        obtain ⟨x55, hx55, hl55, hu55, hs55, hb55⟩ := own_upp kd ⟨by omega, by omega⟩
        refine ow_callV C A54 (argsL := [(.int kd)]) E2 (rm_ca l Z a0 hw a2 b2 kk2 kd x55 gz own_VU G hh E2 Fc2 Fv2 Vb2 (own_nlt32 (by show ¬ (kd.toInt < 0); omega)) (own_lt32 (by show kd.toInt < 16; omega)) hx55 ⟨hl55, hu55⟩ SF rG SC hg []) tw_14 tw_15 (ow_nf hw tw_17) tw_17 tw_16 tw_1 tw_18 (by decide) all0 (by decide) (by decide) (ck' := 4) (sk' := 136) rfl rfl (by decide) (by decide) rfl (lenOf pd_5 rfl) (S := []) rfl (W := 0) (Nat.le_of_eq rfl) at_90 rfl ?_
        intro T56 v56 K56 hQ56 A56
        obtain ⟨rfl, ee56⟩ := hQ56
        rw [ee56] at A56 K56
        show OwnWP _ _ _ _ _ _ _ _ _ T56 (mkF m 93 #[.val (.int p1), .val (.int p2), .val (.ref a1), .val (.ref a2), .val (.int zz), .val (.int r1), .val (.int (1 : Int32)), .val (.int kd), .unset] [(.int x55)])
        refine ow_callS C A56 (argsL := [(.int x55)]) (rm_val l Z a0 hw x55 hh ⟨by omega, by omega⟩ []) tw_10 tw_11 tw_12 tw_13 (by decide) all0 (by decide) (by decide) (ck' := 4) (sk' := 136) rfl rfl (by decide) (by decide) rfl (lenOf pd_4 rfl) (S := []) rfl (W := 0) (Nat.le_of_eq rfl) at_93 rfl ?_
        intro T57 v57 K57 hQ57 A57
        obtain ⟨ee57, r57, rfl, hv57, nn57⟩ := hQ57
        rw [ee57] at A57 K57
        rcases hv57 with rfl | ⟨u57, v57, w57⟩ | ⟨u57, v57, w57⟩ | ⟨u57, v57, w57⟩
        · exfalso; have kn := nn57 rfl; omega
        · exfalso; omega
        · skip
          show OwnWP _ _ _ _ _ _ _ _ _ T57 (mkF m 96 #[.val (.int p1), .val (.int p2), .val (.ref a1), .val (.ref a2), .val (.int zz), .val (.int r1), .val (.int (1 : Int32)), .val (.int kd), .unset] [(.int r57)])
          have kn57 := True.intro
          refine ow_iload C A57 at_96 rfl rfl ?_
          refine ow_icmp_ne C A57 at_98 (by decide) (pcY := 105) (by decide) (pcN := 101) rfl (fun zq => absurd (own_eq32 (by omega)) zq) (fun _ => ?_)
          refine ow_iconst C A57 at_101 (v := 1) rfl rfl ?_
          refine ow_goto C A57 at_102 (by decide) (pc' := 106) (by decide) ?_
          refine ow_istore C A57 at_106 (Ls' := #[.val (.int p1), .val (.int p2), .val (.ref a1), .val (.ref a2), .val (.int zz), .val (.int r1), .val (.int (1 : Int32)), .val (.int kd), .val (.int (1 : Int32))]) rfl rfl ?_
          refine ow_iload C A57 at_108 rfl rfl ?_
          refine ow_if_eq C A57 at_110 (by decide) (pcY := 122) (by decide) (pcN := 113) rfl (fun zq => absurd zq (by decide)) (fun _ => ?_)
          refine ow_iload C A57 at_113 rfl rfl ?_
          refine ow_if_eq C A57 at_115 (by decide) (pcY := 122) (by decide) (pcN := 118) rfl (fun zq => absurd zq (by decide)) (fun _ => ?_)
          refine ow_iconst C A57 at_118 (v := 1) rfl rfl ?_
          refine ow_goto C A57 at_119 (by decide) (pc' := 123) (by decide) ?_
          refine ow_ireturn C A57 (t := .boolean) rfl rfl (by simp) at_123 (by decide) (by decide) ?_
          exact rfl
        · exfalso; omega
theorem own_wS {Z : State} {a0 : Array Value} (hw : ∀ d ∈ tables_1, d.before a0 Z = true) : ∀ a ∈ Bundle.stringAtoms, a.before a0 Z = true := by
  intro d hd
  simp only [Bundle.stringAtoms, Bundle.sN, List.mem_cons, List.not_mem_nil, or_false] at hd
  rcases hd with rfl | rfl | rfl | rfl | rfl | rfl | rfl
  · exact hw _ (List.mem_of_getElem? (i := 1) rfl)
  · exact hw _ (List.mem_of_getElem? (i := 2) rfl)
  · exact hw _ (List.mem_of_getElem? (i := 3) rfl)
  · exact hw _ (List.mem_of_getElem? (i := 4) rfl)
  · exact hw _ (List.mem_of_getElem? (i := 5) rfl)
  · exact hw _ (List.mem_of_getElem? (i := 6) rfl)
  · exact hw _ (List.mem_of_getElem? (i := 7) rfl)
def QW (U : State) (o : Outcome) (U' : State) : Prop := ∃ L, o = .returned (some (.int 1)) ∧ (∀ y ∈ L, U.heap.size ≤ y.base) ∧ U.Warmed39 U'.vm ∧ U.Booked U'.vm U'.heap.size ∧ U.sameButNew ({ U' with vm := U.vm } : State) L room_1.cells room_1.slots
set_option maxRecDepth 65536 in
set_option maxHeartbeats 40000000 in
theorem rm0 (l : Launch) (Z : State) (a0 : Array Value) (hw : ∀ d ∈ tables_1, d.before a0 Z = true) (p1 p2 gz : Int32) (G : Value) (ws : List Jvm.Cond) (hcw : Jvm.Lit.compactW.before a0 Z = true) (hk7 : Jvm.Lit.constHeld Z "com/example/tahan/tahan/HexDigitsValuePinLaw" 7) (hk9 : Jvm.Lit.constHeld Z "com/example/tahan/tahan/HexDigitsValuePinLaw" 9)
    (SF : Sta Z Z.heap "jdk/internal/util/Preconditions" "SIOOBE_FORMATTER" "Ljava/util/function/BiFunction;" G) (rG : G.isRef = true) (SC : Sta Z Z.heap "java/lang/String" "COMPACT_STRINGS" "Z" (.int gz)) (hg : ¬ (gz = 0)) :
    MetFree l x (head1 (Jvm.Cond.code x code maxLocals ret :: ws) room_1) (fun a U => a = #[(.int p1), (.int p2)] ∧ U = Z) (fun _ _ _ _ _ => True) (fun _ U o U' => QW U o U') := by
  refine MetFree.of_bodySF pn_0 hisR ?_
  intro p e s m args below meth c s₁ Bd hml0 hP hK
  obtain ⟨rfl, rfl⟩ := hP
  have hx := Bd.exec
  have hby := Bd.bytes
  have hlk : meth.locks = false := BodyLoose.notSynchronized Bd
  have X0 : Stand p l e room_1 s m #[(.int p1), (.int p2)] below meth c s₁ [] 0 0 := Stand.of_body Bd
  have e0 : s₁.heap = s.heap := by rw [Bd.state]; rfl
  have hown : s.vm.findClass "com/example/tahan/tahan/HexDigitsValuePinLaw" = some m.cls := findClass_of_methodNamed Bd.named
  have hZ0 : s.Warmed39 s.vm := State.Warmed39.refl s
  obtain ⟨a1, T1, h1, k1, b1, kk1, X1, e1, E1, S1, hk1, hZ1, hown1, Xa1, Fc1, Fv1, Vb1, -, -, I1, st1⟩ := ldcSV (s := s) (vm0 := s.vm) X0 hx hZ0 hown (hw _ (List.mem_of_getElem? (i := 0) rfl)) (own_wS hw) e0 (k0 := s.heap.size) ((State.WarmedH.refl s).since s.heap.size) (Nat.le_refl _) (Fr.nil _) (fun _ _ q => q) IB.start (by simp) hk7 hcw (vs := own_VL) (z := 16) ⟨by decide, by decide⟩ (by decide) (by decide) (g := mkF m 0 #[.val (.int p1), .val (.int p2), .unset, .unset, .unset, .unset, .unset, .unset, .unset] []) rfl (hb hby at_0) (n := 64) (by decide) (by decide) (by decide) (by decide)
  obtain ⟨a2, T2, h2, k2, b2, kk2, X2, e2, E2, S2, hk2, hZ2, hown2, Xa2, Fc2, Fv2, Vb2, -, -, I2, st2⟩ := ldcSV (s := s) (vm0 := T1.vm) X1 hx hZ1 hown1 (hw _ (List.mem_of_getElem? (i := 8) rfl)) (own_wS hw) e1 (k0 := k1) S1 hk1 (Fr.nil _) (fun _ _ q => q) I1 (by decide) hk9 hcw (vs := own_VU) (z := 16) ⟨by decide, by decide⟩ (by decide) (by decide) (g := mkF m 3 #[.val (.int p1), .val (.int p2), .val (.ref a1), .unset, .unset, .unset, .unset, .unset, .unset] []) rfl (hb hby at_3) (n := 64) (by decide) (by decide) (by decide) (by decide)
  have C2 : OwnCtx p (s.setVm T2.vm) m meth c s a0 tables_1 x code maxLocals ret := ⟨hx, hZ2, hw, hby, hml0, hown2, (name_of_methodNamed Bd.named Bd.method).1, Bd.returns, hlk⟩
  have A2 : OwnPos p l e room_1 (s.setVm T2.vm) m #[(.int p1), (.int p2)] below meth c h2 [] T2 h2 4 136 := ⟨[], X2, e2, (fun _ q => nomatch q), Keep.refl _ _⟩
  obtain ⟨s₂, o, k1', k2', k3', v, L, k4', ⟨k5', k6', k7'⟩, k8'⟩ := rm0w (l := l) hw p1 p2 gz G a1 a2 b1 b2 kk1 kk2 C2 A2 (Xa1.ext E2) (Fc1.ext E2) (Fv1.ext E2) (Vb1.ext E2) Xa2 Fc2 Fv2 Vb2 ((SF.ext E1).ext E2) rG ((SC.ext E1).ext E2) hg
  refine ⟨s₂, o, castTop (g' := mkF m 0 #[.val (.int p1), .val (.int p2), .unset, .unset, .unset, .unset, .unset, .unset, .unset] []) (by first | (simp [entryFrame, mkF, argsToLocals, Value.category, maxLocals]; done) | rfl) ?_, k2', k3', ?_⟩
  · refine st1 _ ?_
    show Steps p.tables e below (T1.setTop (mkF m 2 #[.val (.int p1), .val (.int p2), .unset, .unset, .unset, .unset, .unset, .unset, .unset] [(.ref a1)])) _
    refine XS.astoreN X1.here hx rfl (hb hby at_2) rfl rfl (l' := #[.val (.int p1), .val (.int p2), .val (.ref a1), .unset, .unset, .unset, .unset, .unset, .unset]) rfl ?_
    show Steps p.tables e below (T1.setTop (mkF m 3 #[.val (.int p1), .val (.int p2), .val (.ref a1), .unset, .unset, .unset, .unset, .unset, .unset] [])) _
    refine st2 _ ?_
    show Steps p.tables e below (T2.setTop (mkF m 5 #[.val (.int p1), .val (.int p2), .val (.ref a1), .unset, .unset, .unset, .unset, .unset, .unset] [(.ref a2)])) _
    refine XS.astoreN X2.here hx rfl (hb hby at_5) rfl rfl (l' := #[.val (.int p1), .val (.int p2), .val (.ref a1), .val (.ref a2), .unset, .unset, .unset, .unset, .unset]) rfl ?_
    exact k1'
  · obtain ⟨w1, w2, w3⟩ := k8'
    obtain rfl : v = some (.int 1) := k7'
    obtain ⟨z1, z2, z3⟩ := S2.ended (U := s₂) w2 (Nat.le_trans hk2 k6'.1) w3
    exact ⟨L, k4', fun y hy => (k5' y hy).elim (fun q => nomatch q) fun q => Nat.le_trans (Nat.le_trans (by rw [← e0, e0]; exact E1.1) E2.1) q, z1, z2, z3⟩
set_option maxRecDepth 65536 in
set_option maxHeartbeats 40000000 in
theorem comes_1 {Post : Tables → Env → Array Value → State → Outcome → State → Prop} (hpost : ∀ tb e args s v u, (limb_1_1.after args s (.returned v) u = true ∧ limb_1_2.after args s (.returned v) u = true ∧ True) → Jvm.D.FramedW s (.returned v) u (Jvm.fieldLocs frame_1_writes args s ++ Jvm.arrayLocs frame_1_arrays args s ++ Jvm.staticLocs frame_1_statics s) 8 2112 → Post tb e args s (.returned v) u) :
    ArmFor flags0 classFile x code maxLocals ret World_1 tables_1 room_1 Calls_1 rest_1 Pre_1 Post := by
  intro l hfl _ _ p e ha hc hk s m args below hf hA hF happ hP
  obtain ⟨hcalls, hrest, hpre⟩ := hP
  obtain ⟨-, -, -, hnamed, -, -, -, hat⟩ := (Spec.applies_iff hf).mp happ
  obtain ⟨hg, hn⟩ := and_e (Cond.before_iff.mp (show (Jvm.Cond.and given_1 narrow_1).before args s = true from hpre))
  obtain ⟨gg1, gg2⟩ := and_e hg
  obtain ⟨gg3, gg4⟩ := and_e gg2
  obtain ⟨w0, w1, rfl⟩ : ∃ w0 w1 : Value, args = #[w0, w1] := by
    have hs : args.size = 2 := by simpa [Cond.value, given_1] using gg1
    obtain ⟨L⟩ := args
    match L, hs with
    | [w0, w1], _ => exact ⟨w0, w1, rfl⟩
  have hw := fun d (hd : d ∈ tables_1) => atoms_spec (ws := Jvm.Cond.code x code maxLocals ret :: tables_1) hat d (List.mem_cons_of_mem _ hd)
  have hfit : Fit s := fun {y c} hc i hi => by
    obtain ⟨ha, rfl⟩ := Array.getElem?_eq_some_iff.mp hc
    have q := List.all_eq_true.mp ((Array.all_eq_true_iff_forall_mem.mp hF) _ (Array.getElem_mem ha)) i (List.mem_range.mpr hi)
    simpa [Array.getElem?_eq_getElem hi] using q
  obtain ⟨hsets, hown0⟩ := atoms_of _ (rest_1_c_eq ▸ (show rest_1_c.before _ s = true from hrest))
  have hr0 := Cond.before_iff.mp hown0
  obtain ⟨i0, ei0⟩ := is_v gg3
  obtain rfl : w0 = (.int i0) := Option.some.inj ei0
  obtain ⟨i1, ei1⟩ := is_v gg4
  obtain rfl : w1 = (.int i1) := Option.some.inj ei1
  have n5 := not_v (Cond.before_iff.mp (hsets _ (List.mem_of_getElem? (i := 2) rfl)))
  obtain ⟨i11, e10⟩ := is_v (Cond.before_iff.mp (hsets _ (List.mem_of_getElem? (i := 1) rfl)))
  have S12 : Sta s s.heap "java/lang/String" "COMPACT_STRINGS" "Z" (.int i11) := Sta.start e10 (Or.inl (hsets _ (List.mem_of_getElem? (i := 0) rfl)))
  obtain ⟨v13, e14, r15⟩ := isR_v (Cond.before_iff.mp (hsets _ (List.mem_of_getElem? (i := 8) rfl)))
  have S16 : Sta s s.heap "jdk/internal/util/Preconditions" "SIOOBE_FORMATTER" "Ljava/util/function/BiFunction;" v13 := Sta.start e14 (Or.inl (hsets _ (List.mem_of_getElem? (i := 7) rfl)))
  have c17 : ¬ (i11 = (0 : Int32)) := gotF (Cond.eq_ints e10 (Term.int_eval (0))) n5
  have hk7 : Jvm.Lit.constHeld s "com/example/tahan/tahan/HexDigitsValuePinLaw" 7 := hcalls.1 ("com/example/tahan/tahan/HexDigitsValuePinLaw", 7) (by simp [consts_1])
  have hk9 : Jvm.Lit.constHeld s "com/example/tahan/tahan/HexDigitsValuePinLaw" 9 := hcalls.1 ("com/example/tahan/tahan/HexDigitsValuePinLaw", 9) (by simp [consts_1])
  obtain ⟨n, o, h1, h2, h3, L, rfl, N, q1, q2, q3⟩ := rm0 l s _ hw i0 i1 i11 v13 tables_1 (hsets _ (List.mem_of_getElem? (i := 2) rfl)) hk7 hk9 S16 r15 S12 c17 p e ha hc hk s m _ below hf ((Spec.applies_iff_loose hf).mp happ).1 ⟨rfl, rfl⟩ trivial
  refine ⟨n, _, h1, h2, h3, hpost _ _ _ _ _ _ ⟨Cond.after_iff.mpr rfl, Cond.after_iff.mpr (eq_i res_at (Term.int_eval (1)) rfl), trivial⟩ ⟨⟨_, rfl⟩, q1, q2, (q3.sift fun y hy => Or.inr (N y hy)).mono (by decide) (by decide)⟩⟩
theorem main_1_1 : Claimed_1_1 := comes_1 fun _ _ _ _ _ _ h hF => ⟨h.1, hF⟩
theorem main_1_2 : Claimed_1_2 := comes_1 fun _ _ _ _ _ _ h hF => ⟨h.2.1, hF⟩
end Jvm.Pilot.@@N@@
namespace Jvm.Pilot.@@N@@
open Jvm Jvm.ClassFile Sem Op Lib Jvm.Free Jvm.Stand Jvm.Pilot.@@N@@.Jvm.D
/-! MADE BY PROGRAM (witnessworld.py) out of the Statement's table words and the real class files: 17 classes; the members and pool entries that the words name. The judged class is class 1, her method 1. -/
namespace start1
open Jvm.ClassFile
def u (s : String) : CpInfo := .utf8 (stringToUtf16 s)
/-- a pool by its gaps: so many unusable entries, then the entry; so many at the end -/
def gap : Nat → List CpInfo → List CpInfo
  | 0, r => r
  | n + 1, r => .unusable :: gap n r
def poolList (es : List (Nat × CpInfo)) (last : Nat) : List CpInfo := es.foldr (fun e r => gap e.1 (e.2 :: r)) (gap last [])
def pool (es : List (Nat × CpInfo)) (last : Nat) : Array CpInfo := ⟨poolList es last⟩
def fileOf (pool : Array CpInfo) (this : Nat) (attrs : Array Attribute := #[]) (ms : Array MethodInfo := #[]) (fl : Nat := 33) (sup : Nat := 0) (ifs : Array Nat := #[]) (fds : Array FieldInfo := #[]) : ClassFile where
  minorVersion := 0
  majorVersion := 65
  constantPool := pool
  accessFlags := fl
  thisClass := this
  superClass := sup
  interfaces := ifs
  fields := fds
  methods := ms
  attributes := attrs
def plain (name : String) (sup : Option ClassId) : Class where
  name := name
  kind := .ordinary
  loader := none
  accessFlags := 33
  super := sup
  interfaces := #[]
  cf := none
  fields := #[]
  methods := #[]
  instanceTypes := #[]
  staticTypes := #[]
  resolved := #[]
  callSites := []
  init := .initialized
  statics := none
  mirror := none

def pool0 : Array CpInfo := pool [(5, u "<init>"), (0, u "()V"), (1, .class_ 10), (1, u "java/lang/Object")] 113

def k0m0 : Method := { name := "<init>", desc := "()V", sig := { parameters := [], returnType := none }, accessFlags := 1, code := none }
/-- java/lang/Object -/
def k0 : Class := { plain "java/lang/Object" none with
  accessFlags := 33
  interfaces := #[]
  cf := some (fileOf pool0 8 #[] #[{ accessFlags := 1, nameIndex := 5, descriptorIndex := 6, attributes := #[] }] 33 0 #[] #[])
  fields := #[]
  methods := #[k0m0]
  instanceTypes := #[]
  staticTypes := #[]
  resolved := Array.replicate 124 none
  statics := none }

def pool1 : Array CpInfo := pool [(2, .class_ 4), (1, u "java/lang/Object"), (0, u "<init>"), (0, u "()V"), (0, .string 8), (0, u "0123456789abcdef"), (0, .string 10), (0, u "0123456789ABCDEF"), (0, .integer 65535), (0, .methodref 13 14), (0, .class_ 15), (0, .nameAndType 16 17), (0, u "com/example/tahan/tahan/HexDigits"), (0, u "value"), (0, u "(C)I"), (0, .methodref 19 20), (0, .class_ 21), (0, .nameAndType 22 23), (0, u "java/lang/String"), (0, u "charAt"), (0, u "(I)C"), (0, .class_ 25), (0, u "com/example/tahan/tahan/HexDigitsValuePinLaw"), (2, u "law"), (0, u "(II)Z")] 3

def k1m0 : Method := { name := "<init>", desc := "()V", sig := { parameters := [], returnType := none }, accessFlags := 2, code := none }
def k1c1 : Code := { maxStack := 3, maxLocals := 9, code := code, exceptionTable := #[], attributes := #[] }
def k1m1 : Method := { name := "law", desc := "(II)Z", sig := { parameters := [.int, .int], returnType := some .boolean }, accessFlags := 9, code := some k1c1 }
/-- com/example/tahan/tahan/HexDigitsValuePinLaw -/
def k1 : Class := { plain "com/example/tahan/tahan/HexDigitsValuePinLaw" (some 0) with
  accessFlags := 49
  interfaces := #[]
  cf := some (fileOf pool1 24 #[] #[{ accessFlags := 2, nameIndex := 5, descriptorIndex := 6, attributes := #[] }, { accessFlags := 9, nameIndex := 28, descriptorIndex := 29, attributes := #[] }] 49 2 #[] #[])
  fields := #[]
  methods := #[k1m0, k1m1]
  instanceTypes := #[]
  staticTypes := #[]
  resolved := Array.replicate 33 none
  statics := none }

def pool2 : Array CpInfo := pool [(1, .class_ 2), (0, u "java/io/Serializable"), (0, .class_ 4), (0, u "java/lang/Object")] 2

/-- java/io/Serializable -/
def k2 : Class := { plain "java/io/Serializable" (some 0) with
  accessFlags := 1537
  interfaces := #[]
  cf := some (fileOf pool2 1 #[] #[] 1537 3 #[] #[])
  fields := #[]
  methods := #[]
  instanceTypes := #[]
  staticTypes := #[]
  resolved := Array.replicate 7 none
  statics := none }

def pool3 : Array CpInfo := pool [(1, .class_ 2), (0, u "java/lang/Comparable"), (0, .class_ 4), (0, u "java/lang/Object")] 7

/-- java/lang/Comparable -/
def k3 : Class := { plain "java/lang/Comparable" (some 0) with
  accessFlags := 1537
  interfaces := #[]
  cf := some (fileOf pool3 1 #[] #[] 1537 3 #[] #[])
  fields := #[]
  methods := #[]
  instanceTypes := #[]
  staticTypes := #[]
  resolved := Array.replicate 12 none
  statics := none }

def pool4 : Array CpInfo := pool [(2, .class_ 4), (1, u "java/lang/CharSequence"), (42, .class_ 48), (0, u "java/lang/CharSequence$1CodePointIterator"), (10, .class_ 60), (0, u "java/lang/CharSequence$1CharIterator"), (5, .class_ 67), (0, u "java/lang/Object")] 63

/-- java/lang/CharSequence -/
def k4 : Class := { plain "java/lang/CharSequence" (some 0) with
  accessFlags := 1537
  interfaces := #[]
  cf := some (fileOf pool4 2 #[.nestMembers #[47, 59]] #[] 1537 66 #[] #[])
  fields := #[]
  methods := #[]
  instanceTypes := #[]
  staticTypes := #[]
  resolved := Array.replicate 131 none
  statics := none }

def pool5 : Array CpInfo := pool [(1, .class_ 2), (0, u "java/lang/constant/Constable"), (0, .class_ 4), (0, u "java/lang/Object")] 6

/-- java/lang/constant/Constable -/
def k5 : Class := { plain "java/lang/constant/Constable" (some 0) with
  accessFlags := 1537
  interfaces := #[]
  cf := some (fileOf pool5 1 #[] #[] 1537 3 #[] #[])
  fields := #[]
  methods := #[]
  instanceTypes := #[]
  staticTypes := #[]
  resolved := Array.replicate 11 none
  statics := none }

def pool6 : Array CpInfo := pool [(1, .class_ 2), (0, u "java/lang/constant/ConstantDesc"), (0, .class_ 4), (0, u "java/lang/Object")] 32

/-- java/lang/constant/ConstantDesc -/
def k6 : Class := { plain "java/lang/constant/ConstantDesc" (some 0) with
  accessFlags := 1537
  interfaces := #[]
  cf := some (fileOf pool6 1 #[] #[] 1537 3 #[] #[])
  fields := #[]
  methods := #[]
  instanceTypes := #[]
  staticTypes := #[]
  resolved := Array.replicate 37 none
  statics := none }

def pool7 : Array CpInfo := pool [(2, .class_ 4), (1, u "java/lang/Object"), (0, u "<init>"), (0, u "()V"), (2, .fieldref 10 11), (0, .class_ 12), (0, .nameAndType 13 14), (0, u "java/lang/String"), (0, u "value"), (0, u "[B"), (0, .fieldref 10 16), (0, .nameAndType 17 18), (0, u "coder"), (0, u "B"), (2, u "hash"), (0, u "I"), (2, u "hashIsZero"), (0, u "Z"), (11, .fieldref 10 39), (0, .nameAndType 40 26), (0, u "COMPACT_STRINGS"), (66, .class_ 109), (1, u "java/lang/StringLatin1"), (32, u "()Z"), (220, u "([BI)C"), (27, u "(II)V"), (35, u "(I)C"), (64, .methodref 10 493), (0, .nameAndType 494 142), (0, u "isLatin1"), (0, .methodref 107 496), (0, .nameAndType 497 363), (0, u "charAt"), (3, u "checkIndex"), (73, .class_ 576), (0, u "java/lang/CharSequence"), (22, u "CASE_INSENSITIVE_ORDER"), (0, u "Ljava/util/Comparator;"), (452, .fieldref 1054 1055), (0, .class_ 1056), (0, .nameAndType 1057 1058), (0, u "jdk/internal/util/Preconditions"), (0, u "SIOOBE_FORMATTER"), (0, u "Ljava/util/function/BiFunction;"), (0, .methodref 1054 1060), (0, .nameAndType 501 1061), (0, u "(IILjava/util/function/BiFunction;)I"), (39, u "serialPersistentFields"), (0, u "[Ljava/io/ObjectStreamField;"), (0, .class_ 1104), (0, u "java/lang/String$CaseInsensitiveComparator"), (1, .class_ 1107), (0, u "java/io/Serializable"), (0, .class_ 1109), (0, u "java/lang/Comparable"), (0, .class_ 1111), (0, u "java/lang/constant/Constable"), (0, .class_ 1113), (0, u "java/lang/constant/ConstantDesc"), (2, u "serialVersionUID"), (0, u "J"), (3, u "REPL"), (0, u "C"), (2, u "LATIN1"), (1, u "UTF16")] 323

def k7m0 : Method := { name := "<init>", desc := "()V", sig := { parameters := [], returnType := none }, accessFlags := 1, code := none }
def k7c1 : Code := { maxStack := 2, maxLocals := 2, code := jdk_42_method_56_code, exceptionTable := #[], attributes := #[] }
def k7m1 : Method := { name := "charAt", desc := "(I)C", sig := { parameters := [.int], returnType := some .char }, accessFlags := 1, code := some k7c1 }
def k7c2 : Code := { maxStack := 1, maxLocals := 1, code := jdk_42_method_154_code, exceptionTable := #[], attributes := #[] }
def k7m2 : Method := { name := "isLatin1", desc := "()Z", sig := { parameters := [], returnType := some .boolean }, accessFlags := 0, code := some k7c2 }
def k7c3 : Code := { maxStack := 3, maxLocals := 2, code := jdk_42_method_155_code, exceptionTable := #[], attributes := #[] }
def k7m3 : Method := { name := "checkIndex", desc := "(II)V", sig := { parameters := [.int, .int], returnType := none }, accessFlags := 8, code := some k7c3 }
/-- java/lang/String -/
def k7 : Class := { plain "java/lang/String" (some 0) with
  accessFlags := 49
  interfaces := #[2, 3, 4, 5, 6]
  cf := some (fileOf pool7 10 #[.nestMembers #[1103]] #[{ accessFlags := 1, nameIndex := 5, descriptorIndex := 6, attributes := #[] }, { accessFlags := 1, nameIndex := 497, descriptorIndex := 427, attributes := #[] }, { accessFlags := 0, nameIndex := 494, descriptorIndex := 142, attributes := #[] }, { accessFlags := 8, nameIndex := 501, descriptorIndex := 391, attributes := #[] }] 49 2 #[1106, 1108, 575, 1110, 1112] #[{ accessFlags := 18, nameIndex := 13, descriptorIndex := 14, attributes := #[] }, { accessFlags := 18, nameIndex := 17, descriptorIndex := 18, attributes := #[] }, { accessFlags := 2, nameIndex := 21, descriptorIndex := 22, attributes := #[] }, { accessFlags := 2, nameIndex := 25, descriptorIndex := 26, attributes := #[] }, { accessFlags := 26, nameIndex := 1116, descriptorIndex := 1117, attributes := #[] }, { accessFlags := 24, nameIndex := 40, descriptorIndex := 26, attributes := #[] }, { accessFlags := 26, nameIndex := 1101, descriptorIndex := 1102, attributes := #[] }, { accessFlags := 26, nameIndex := 1121, descriptorIndex := 1122, attributes := #[] }, { accessFlags := 25, nameIndex := 599, descriptorIndex := 600, attributes := #[] }, { accessFlags := 24, nameIndex := 1125, descriptorIndex := 18, attributes := #[] }, { accessFlags := 24, nameIndex := 1127, descriptorIndex := 18, attributes := #[] }])
  fields := #[{ name := "value", type := (.array .byte), accessFlags := 18, slot := 0, constantValue := 0 }, { name := "coder", type := .byte, accessFlags := 18, slot := 1, constantValue := 0 }, { name := "hash", type := .int, accessFlags := 2, slot := 2, constantValue := 0 }, { name := "hashIsZero", type := .boolean, accessFlags := 2, slot := 3, constantValue := 0 }, { name := "serialVersionUID", type := .long, accessFlags := 26, slot := 0, constantValue := 0 }, { name := "COMPACT_STRINGS", type := .boolean, accessFlags := 24, slot := 1, constantValue := 0 }, { name := "serialPersistentFields", type := (.array (.object "java/io/ObjectStreamField")), accessFlags := 26, slot := 2, constantValue := 0 }, { name := "REPL", type := .char, accessFlags := 26, slot := 3, constantValue := 0 }, { name := "CASE_INSENSITIVE_ORDER", type := (.object "java/util/Comparator"), accessFlags := 25, slot := 4, constantValue := 0 }, { name := "LATIN1", type := .byte, accessFlags := 24, slot := 5, constantValue := 0 }, { name := "UTF16", type := .byte, accessFlags := 24, slot := 6, constantValue := 0 }]
  methods := #[k7m0, k7m1, k7m2, k7m3]
  instanceTypes := #[(.array .byte), .byte, .int, .boolean]
  staticTypes := #[.long, .boolean, (.array (.object "java/io/ObjectStreamField")), .char, (.object "java/util/Comparator"), .byte, .byte]
  resolved := Array.replicate 1451 none
  statics := some 0 }

def pool8 : Array CpInfo := pool [(2, .class_ 4), (1, u "java/lang/Object"), (0, u "<init>"), (0, u "()V"), (11, .class_ 20), (1, u "com/example/tahan/tahan/HexDigits"), (0, u "value"), (0, u "(C)I")] 7

def k8m0 : Method := { name := "<init>", desc := "()V", sig := { parameters := [], returnType := none }, accessFlags := 2, code := none }
def k8c1 : Code := { maxStack := 2, maxLocals := 2, code := prog_25_method_2_code, exceptionTable := #[], attributes := #[] }
def k8m1 : Method := { name := "value", desc := "(C)I", sig := { parameters := [.char], returnType := some .int }, accessFlags := 8, code := some k8c1 }
/-- com/example/tahan/tahan/HexDigits -/
def k8 : Class := { plain "com/example/tahan/tahan/HexDigits" (some 0) with
  accessFlags := 48
  interfaces := #[]
  cf := some (fileOf pool8 18 #[] #[{ accessFlags := 2, nameIndex := 5, descriptorIndex := 6, attributes := #[] }, { accessFlags := 8, nameIndex := 21, descriptorIndex := 22, attributes := #[] }] 48 2 #[] #[])
  fields := #[]
  methods := #[k8m0, k8m1]
  instanceTypes := #[]
  staticTypes := #[]
  resolved := Array.replicate 30 none
  statics := none }

def pool9 : Array CpInfo := pool [(1, .class_ 2), (0, u "java/lang/String"), (1, .class_ 6), (1, u "java/lang/Object"), (0, u "<init>"), (0, u "()V"), (0, .methodref 1 10), (0, .nameAndType 11 12), (0, u "checkIndex"), (0, u "(II)V"), (1, .class_ 16), (1, u "java/lang/StringLatin1"), (36, u "([BI)C"), (67, u "$assertionsDisabled"), (0, u "Z"), (98, .class_ 223), (1, u "java/lang/StringLatin1$LinesSpliterator"), (28, u "charAt"), (137, .class_ 391), (0, u "java/lang/StringLatin1$CharsSpliterator")] 3

def k9m0 : Method := { name := "<init>", desc := "()V", sig := { parameters := [], returnType := none }, accessFlags := 0, code := none }
def k9c1 : Code := { maxStack := 2, maxLocals := 2, code := jdk_43_method_2_code, exceptionTable := #[], attributes := #[] }
def k9m1 : Method := { name := "charAt", desc := "([BI)C", sig := { parameters := [(.array .byte), .int], returnType := some .char }, accessFlags := 9, code := some k9c1 }
/-- java/lang/StringLatin1 -/
def k9 : Class := { plain "java/lang/StringLatin1" (some 0) with
  accessFlags := 48
  interfaces := #[]
  cf := some (fileOf pool9 14 #[.nestMembers #[390, 221]] #[{ accessFlags := 0, nameIndex := 7, descriptorIndex := 8, attributes := #[] }, { accessFlags := 9, nameIndex := 252, descriptorIndex := 53, attributes := #[] }] 48 4 #[] #[{ accessFlags := 4120, nameIndex := 121, descriptorIndex := 122, attributes := #[] }])
  fields := #[{ name := "$assertionsDisabled", type := .boolean, accessFlags := 4120, slot := 0, constantValue := 0 }]
  methods := #[k9m0, k9m1]
  instanceTypes := #[]
  staticTypes := #[.boolean]
  resolved := Array.replicate 395 none
  statics := none }

def pool10 : Array CpInfo := pool [(2, .class_ 4), (1, u "java/lang/Object"), (0, u "<init>"), (0, u "()V"), (17, .class_ 26), (1, u "jdk/internal/util/Preconditions"), (6, u "checkIndex"), (21, .class_ 56), (0, u "jdk/internal/util/Preconditions$4"), (57, .class_ 115), (0, u "jdk/internal/util/Preconditions$1"), (7, u "SIOOBE_FORMATTER"), (0, u "Ljava/util/function/BiFunction;"), (0, .class_ 126), (0, u "jdk/internal/util/Preconditions$2"), (3, u "AIOOBE_FORMATTER"), (0, .class_ 132), (0, u "jdk/internal/util/Preconditions$3"), (3, u "IOOBE_FORMATTER"), (41, u "(IILjava/util/function/BiFunction;)I")] 15

def k10m0 : Method := { name := "<init>", desc := "()V", sig := { parameters := [], returnType := none }, accessFlags := 1, code := none }
def k10c1 : Code := { maxStack := 3, maxLocals := 3, code := jdk_41_method_11_code, exceptionTable := #[], attributes := #[] }
def k10m1 : Method := { name := "checkIndex", desc := "(IILjava/util/function/BiFunction;)I", sig := { parameters := [.int, .int, (.object "java/util/function/BiFunction")], returnType := some .int }, accessFlags := 9, code := some k10c1 }
/-- jdk/internal/util/Preconditions -/
def k10 : Class := { plain "jdk/internal/util/Preconditions" (some 0) with
  accessFlags := 33
  interfaces := #[]
  cf := some (fileOf pool10 24 #[.nestMembers #[55, 131, 125, 114]] #[{ accessFlags := 1, nameIndex := 5, descriptorIndex := 6, attributes := #[] }, { accessFlags := 9, nameIndex := 33, descriptorIndex := 178, attributes := #[] }] 33 2 #[] #[{ accessFlags := 25, nameIndex := 123, descriptorIndex := 124, attributes := #[] }, { accessFlags := 25, nameIndex := 130, descriptorIndex := 124, attributes := #[] }, { accessFlags := 25, nameIndex := 136, descriptorIndex := 124, attributes := #[] }])
  fields := #[{ name := "SIOOBE_FORMATTER", type := (.object "java/util/function/BiFunction"), accessFlags := 25, slot := 0, constantValue := 0 }, { name := "AIOOBE_FORMATTER", type := (.object "java/util/function/BiFunction"), accessFlags := 25, slot := 1, constantValue := 0 }, { name := "IOOBE_FORMATTER", type := (.object "java/util/function/BiFunction"), accessFlags := 25, slot := 2, constantValue := 0 }]
  methods := #[k10m0, k10m1]
  instanceTypes := #[]
  staticTypes := #[(.object "java/util/function/BiFunction"), (.object "java/util/function/BiFunction"), (.object "java/util/function/BiFunction")]
  resolved := Array.replicate 194 none
  statics := some 1 }

def pool11 : Array CpInfo := pool [(9, u "<init>"), (6, .class_ 18), (1, u "java/lang/Object"), (0, u "()V"), (1, .class_ 23), (1, u "jdk/internal/util/ArraysSupport"), (0, u "LOG2_ARRAY_LONG_INDEX_SCALE"), (0, u "I"), (2, u "U"), (0, u "Ljdk/internal/misc/Unsafe;"), (8, u "BIG_ENDIAN"), (0, u "Z"), (8, u "LOG2_BYTE_BIT_SIZE"), (4, u "LOG2_ARRAY_INT_INDEX_SCALE"), (54, u "JLA"), (0, u "Ljdk/internal/access/JavaLangAccess;"), (11, u "LOG2_ARRAY_BOOLEAN_INDEX_SCALE"), (9, u "LOG2_ARRAY_BYTE_INDEX_SCALE"), (5, u "LOG2_ARRAY_CHAR_INDEX_SCALE"), (5, u "LOG2_ARRAY_SHORT_INDEX_SCALE"), (18, u "LOG2_ARRAY_FLOAT_INDEX_SCALE"), (24, u "LOG2_ARRAY_DOUBLE_INDEX_SCALE"), (89, u "T_BOOLEAN"), (2, u "T_CHAR"), (1, u "T_FLOAT"), (1, u "T_DOUBLE"), (1, u "T_BYTE"), (1, u "T_SHORT"), (1, u "T_INT"), (1, u "T_LONG"), (1, u "SOFT_MAX_ARRAY_LENGTH")] 83

def k11m0 : Method := { name := "<init>", desc := "()V", sig := { parameters := [], returnType := none }, accessFlags := 2, code := none }
/-- jdk/internal/util/ArraysSupport -/
def k11 : Class := { plain "jdk/internal/util/ArraysSupport" (some 0) with
  accessFlags := 33
  interfaces := #[]
  cf := some (fileOf pool11 21 #[] #[{ accessFlags := 2, nameIndex := 9, descriptorIndex := 19, attributes := #[] }] 33 16 #[] #[{ accessFlags := 24, nameIndex := 28, descriptorIndex := 29, attributes := #[] }, { accessFlags := 26, nameIndex := 38, descriptorIndex := 39, attributes := #[] }, { accessFlags := 25, nameIndex := 121, descriptorIndex := 25, attributes := #[] }, { accessFlags := 25, nameIndex := 131, descriptorIndex := 25, attributes := #[] }, { accessFlags := 25, nameIndex := 137, descriptorIndex := 25, attributes := #[] }, { accessFlags := 25, nameIndex := 143, descriptorIndex := 25, attributes := #[] }, { accessFlags := 25, nameIndex := 53, descriptorIndex := 25, attributes := #[] }, { accessFlags := 25, nameIndex := 24, descriptorIndex := 25, attributes := #[] }, { accessFlags := 25, nameIndex := 162, descriptorIndex := 25, attributes := #[] }, { accessFlags := 25, nameIndex := 187, descriptorIndex := 25, attributes := #[] }, { accessFlags := 26, nameIndex := 48, descriptorIndex := 25, attributes := #[] }, { accessFlags := 25, nameIndex := 277, descriptorIndex := 25, attributes := #[] }, { accessFlags := 25, nameIndex := 280, descriptorIndex := 25, attributes := #[] }, { accessFlags := 25, nameIndex := 282, descriptorIndex := 25, attributes := #[] }, { accessFlags := 25, nameIndex := 284, descriptorIndex := 25, attributes := #[] }, { accessFlags := 25, nameIndex := 286, descriptorIndex := 25, attributes := #[] }, { accessFlags := 25, nameIndex := 288, descriptorIndex := 25, attributes := #[] }, { accessFlags := 25, nameIndex := 290, descriptorIndex := 25, attributes := #[] }, { accessFlags := 25, nameIndex := 292, descriptorIndex := 25, attributes := #[] }, { accessFlags := 26, nameIndex := 108, descriptorIndex := 109, attributes := #[] }, { accessFlags := 25, nameIndex := 294, descriptorIndex := 25, attributes := #[] }])
  fields := #[{ name := "U", type := (.object "jdk/internal/misc/Unsafe"), accessFlags := 24, slot := 0, constantValue := 0 }, { name := "BIG_ENDIAN", type := .boolean, accessFlags := 26, slot := 1, constantValue := 0 }, { name := "LOG2_ARRAY_BOOLEAN_INDEX_SCALE", type := .int, accessFlags := 25, slot := 2, constantValue := 0 }, { name := "LOG2_ARRAY_BYTE_INDEX_SCALE", type := .int, accessFlags := 25, slot := 3, constantValue := 0 }, { name := "LOG2_ARRAY_CHAR_INDEX_SCALE", type := .int, accessFlags := 25, slot := 4, constantValue := 0 }, { name := "LOG2_ARRAY_SHORT_INDEX_SCALE", type := .int, accessFlags := 25, slot := 5, constantValue := 0 }, { name := "LOG2_ARRAY_INT_INDEX_SCALE", type := .int, accessFlags := 25, slot := 6, constantValue := 0 }, { name := "LOG2_ARRAY_LONG_INDEX_SCALE", type := .int, accessFlags := 25, slot := 7, constantValue := 0 }, { name := "LOG2_ARRAY_FLOAT_INDEX_SCALE", type := .int, accessFlags := 25, slot := 8, constantValue := 0 }, { name := "LOG2_ARRAY_DOUBLE_INDEX_SCALE", type := .int, accessFlags := 25, slot := 9, constantValue := 0 }, { name := "LOG2_BYTE_BIT_SIZE", type := .int, accessFlags := 26, slot := 10, constantValue := 0 }, { name := "T_BOOLEAN", type := .int, accessFlags := 25, slot := 11, constantValue := 0 }, { name := "T_CHAR", type := .int, accessFlags := 25, slot := 12, constantValue := 0 }, { name := "T_FLOAT", type := .int, accessFlags := 25, slot := 13, constantValue := 0 }, { name := "T_DOUBLE", type := .int, accessFlags := 25, slot := 14, constantValue := 0 }, { name := "T_BYTE", type := .int, accessFlags := 25, slot := 15, constantValue := 0 }, { name := "T_SHORT", type := .int, accessFlags := 25, slot := 16, constantValue := 0 }, { name := "T_INT", type := .int, accessFlags := 25, slot := 17, constantValue := 0 }, { name := "T_LONG", type := .int, accessFlags := 25, slot := 18, constantValue := 0 }, { name := "JLA", type := (.object "jdk/internal/access/JavaLangAccess"), accessFlags := 26, slot := 19, constantValue := 0 }, { name := "SOFT_MAX_ARRAY_LENGTH", type := .int, accessFlags := 25, slot := 20, constantValue := 0 }]
  methods := #[k11m0]
  instanceTypes := #[]
  staticTypes := #[(.object "jdk/internal/misc/Unsafe"), .boolean, .int, .int, .int, .int, .int, .int, .int, .int, .int, .int, .int, .int, .int, .int, .int, .int, .int, (.object "jdk/internal/access/JavaLangAccess"), .int]
  resolved := Array.replicate 378 none
  statics := none }

def pool12 : Array CpInfo := pool [(1, u "java/lang/Cloneable"), (0, .class_ 1), (0, u "java/lang/Object"), (0, .class_ 3)] 3

/-- java/lang/Cloneable -/
def k12 : Class := { plain "java/lang/Cloneable" (some 0) with
  accessFlags := 1537
  interfaces := #[]
  cf := some (fileOf pool12 2 #[] #[] 1537 4 #[] #[])
  fields := #[]
  methods := #[]
  instanceTypes := #[]
  staticTypes := #[]
  resolved := Array.replicate 8 none
  statics := none }

/-- the primitive byte -/
def k13 : Class := { plain "byte" none with kind := .primitive 'B', accessFlags := 0x411 }
/-- [B -/
def k14 : Class := { plain "[B" (some 0) with kind := .array 13 .byte, interfaces := #[12, 2], accessFlags := 1041 }

/-- the primitive int -/
def k15 : Class := { plain "int" none with kind := .primitive 'I', accessFlags := 0x411 }
/-- [I -/
def k16 : Class := { plain "[I" (some 0) with kind := .array 15 .int, interfaces := #[12, 2], accessFlags := 1041 }

def heap : Heap := #[{ cls := 7, slots := #[.long 0, .int 1, .null, .int 0, .null, .int 0, .int 0], vm := .statics 7 },
  { cls := 10, slots := #[.null, .null, .null], vm := .statics 10 }]
def classes : Array Class := #[k0, k1, k2, k3, k4, k5, k6, k7, k8, k9, k10, k11, k12, k13, k14, k15, k16]
def interned : List (Array UInt16 × Addr) := []
def slotsUsed : Nat := 10
def theMethod : MethodId := ⟨1, 1⟩
def args0 : Array Value := #[.int 5, .int 5]
def aboutOver (below : List Frame) : State where
  vm := { classes := classes, interned := interned.toArray }
  heap := heap
  slotsUsed := slotsUsed
  threads := #[{ frames := .invoking theMethod args0 :: below }]
def below0 : List Frame := [.native { method := ⟨0, 0⟩, args := #[] }]
def about1 : State := aboutOver below0
def p0 : Program := .bare "" "" ""
def e0 : Env := launch0.env 0 0 0
theorem w_frames : about1.frames = Frame.invoking theMethod args0 :: below0 := rfl
set_option maxRecDepth 65536 in
theorem w_args : argsFit about1.vm theMethod args0 = true := by decide +kernel
set_option maxRecDepth 65536 in
theorem w_heap : heapFits about1 = true := by decide +kernel
set_option maxRecDepth 65536 in
theorem w_runnable : about1.curStatus? = some .runnable := by decide +kernel
set_option maxRecDepth 65536 in
theorem w_alone : about1.alone = true := by decide +kernel
set_option maxRecDepth 65536 in
theorem w_named : about1.methodNamed? x = some theMethod := by decide +kernel
set_option maxRecDepth 65536 in
theorem w_hears : about1.hears theMethod below0 = true := by decide +kernel
set_option maxRecDepth 65536 in
theorem w_ripe : about1.ripe theMethod args0 below0 = true := by decide +kernel
theorem w_running : about1.status = .running := rfl
set_option maxRecDepth 65536 in
theorem w_room : about1.hasRoom e0.platform room_1 = true :=
  launch0.hasRoom_least _ room_1 (by decide +kernel) (by decide +kernel) (by decide +kernel) (by decide +kernel) (by decide +kernel) (by decide +kernel)
theorem allAtoms_all (ts : List Jvm.Cond) (a : Array Jvm.Value) (st : Jvm.State) : (allAtoms ts).before a st = ts.all (fun c => c.before a st) := by
  induction ts with
  | nil => rfl
  | cons c t ih =>
    show (Jvm.Cond.and c (allAtoms t)).before a st = _
    rw [Jvm.Cond.before_and, ih, List.all_cons]
def words1 : List Jvm.Cond := Jvm.Cond.code x code maxLocals ret :: tables_1
/-- a 'code' word, met by the world's own term for the bytes: nothing is compared byte by byte -/
theorem code_word {y : MethodName} {bytes : ByteArray} {mx : Nat} {rt : Option FieldType} {a : Array Value} {s : State} {m : MethodId} {meth : Method} {c : Code} (h1 : s.methodNamed? y = some m) (h2 : s.vm.method? m = some meth) (h3 : meth.code = some c) (h4 : c.code = bytes)
    (h5 : (c.maxLocals == mx && c.exceptionTable.isEmpty && decide (c.maxStack ≤ mostOperands) && decide (meth.sig.returnType = rt) && !meth.locks && decide (parseMethodDescriptor y.desc = some meth.sig)) = true) : (Jvm.Cond.code y bytes mx rt).before a s = true := by
  simp only [Bool.and_eq_true, beq_iff_eq, Bool.not_eq_true', decide_eq_true_eq] at h5
  obtain ⟨⟨⟨⟨⟨g1, g2⟩, g3⟩, g4⟩, g5⟩, g6⟩ := h5
  simp [Cond.before, Cond.holds, Cond.value, h1, h2, h3, h4, g1, g2, g3, g4, g5, g6]
def isCode : Jvm.Cond → Bool
  | .code _ _ _ _ => true
  | _ => false
theorem all_split {L : List Jvm.Cond} {P : Jvm.Cond → Bool} (h1 : L.all (fun c => isCode c || P c) = true) (h2 : ∀ c ∈ L.filter isCode, P c = true) : L.all P = true := by
  refine List.all_eq_true.mpr fun c hc => ?_
  have h := List.all_eq_true.mp h1 c hc
  rcases Bool.eq_false_or_eq_true (isCode c) with hi | hi
  · exact h2 c (List.mem_filter.mpr ⟨hc, hi⟩)
  · simpa [hi] using h
set_option maxRecDepth 65536 in
theorem w_c0 : (Jvm.Cond.code x code maxLocals ret).before args0 about1 = true := code_word (m := ⟨1, 1⟩) (meth := k1m1) (c := k1c1) (by decide +kernel) rfl rfl rfl (by decide +kernel)
set_option maxRecDepth 65536 in
theorem w_c1 : (Jvm.Cond.code ({ cls := "com/example/tahan/tahan/HexDigits", name := "value", desc := "(C)I" } : Jvm.MethodName) prog_25_method_2_code (2 : Nat) (Option.some Jvm.ClassFile.FieldType.int)).before args0 about1 = true := code_word (m := ⟨8, 1⟩) (meth := k8m1) (c := k8c1) (by decide +kernel) rfl rfl rfl (by decide +kernel)
set_option maxRecDepth 65536 in
theorem w_c2 : (Jvm.Cond.code ({ cls := "java/lang/String", name := "charAt", desc := "(I)C" } : Jvm.MethodName) jdk_42_method_56_code (2 : Nat) (Option.some Jvm.ClassFile.FieldType.char)).before args0 about1 = true := code_word (m := ⟨7, 1⟩) (meth := k7m1) (c := k7c1) (by decide +kernel) rfl rfl rfl (by decide +kernel)
set_option maxRecDepth 65536 in
theorem w_c3 : (Jvm.Cond.code ({ cls := "java/lang/String", name := "isLatin1", desc := "()Z" } : Jvm.MethodName) jdk_42_method_154_code (1 : Nat) (Option.some Jvm.ClassFile.FieldType.boolean)).before args0 about1 = true := code_word (m := ⟨7, 2⟩) (meth := k7m2) (c := k7c2) (by decide +kernel) rfl rfl rfl (by decide +kernel)
set_option maxRecDepth 65536 in
theorem w_c4 : (Jvm.Cond.code ({ cls := "java/lang/StringLatin1", name := "charAt", desc := "([BI)C" } : Jvm.MethodName) jdk_43_method_2_code (2 : Nat) (Option.some Jvm.ClassFile.FieldType.char)).before args0 about1 = true := code_word (m := ⟨9, 1⟩) (meth := k9m1) (c := k9c1) (by decide +kernel) rfl rfl rfl (by decide +kernel)
set_option maxRecDepth 65536 in
theorem w_c5 : (Jvm.Cond.code ({ cls := "java/lang/String", name := "checkIndex", desc := "(II)V" } : Jvm.MethodName) jdk_42_method_155_code (2 : Nat) (Option.none : Option Jvm.ClassFile.FieldType)).before args0 about1 = true := code_word (m := ⟨7, 3⟩) (meth := k7m3) (c := k7c3) (by decide +kernel) rfl rfl rfl (by decide +kernel)
set_option maxRecDepth 65536 in
theorem w_c6 : (Jvm.Cond.code ({ cls := "jdk/internal/util/Preconditions", name := "checkIndex", desc := "(IILjava/util/function/BiFunction;)I" } : Jvm.MethodName) jdk_41_method_11_code (3 : Nat) (Option.some Jvm.ClassFile.FieldType.int)).before args0 about1 = true := code_word (m := ⟨10, 1⟩) (meth := k10m1) (c := k10c1) (by decide +kernel) rfl rfl rfl (by decide +kernel)
def codes1 : List Jvm.Cond := [Jvm.Cond.code x code maxLocals ret, Jvm.Cond.code ({ cls := "com/example/tahan/tahan/HexDigits", name := "value", desc := "(C)I" } : Jvm.MethodName) prog_25_method_2_code (2 : Nat) (Option.some Jvm.ClassFile.FieldType.int), Jvm.Cond.code ({ cls := "java/lang/String", name := "charAt", desc := "(I)C" } : Jvm.MethodName) jdk_42_method_56_code (2 : Nat) (Option.some Jvm.ClassFile.FieldType.char), Jvm.Cond.code ({ cls := "java/lang/String", name := "isLatin1", desc := "()Z" } : Jvm.MethodName) jdk_42_method_154_code (1 : Nat) (Option.some Jvm.ClassFile.FieldType.boolean), Jvm.Cond.code ({ cls := "java/lang/StringLatin1", name := "charAt", desc := "([BI)C" } : Jvm.MethodName) jdk_43_method_2_code (2 : Nat) (Option.some Jvm.ClassFile.FieldType.char), Jvm.Cond.code ({ cls := "java/lang/String", name := "checkIndex", desc := "(II)V" } : Jvm.MethodName) jdk_42_method_155_code (2 : Nat) (Option.none : Option Jvm.ClassFile.FieldType), Jvm.Cond.code ({ cls := "jdk/internal/util/Preconditions", name := "checkIndex", desc := "(IILjava/util/function/BiFunction;)I" } : Jvm.MethodName) jdk_41_method_11_code (3 : Nat) (Option.some Jvm.ClassFile.FieldType.int)]
set_option maxRecDepth 65536 in
theorem codes_eq : words1.filter isCode = codes1 := rfl
theorem w_codes : ∀ c ∈ words1.filter isCode, c.before args0 about1 = true := by
  rw [codes_eq]
  intro c hc
  simp only [codes1, List.mem_cons, List.not_mem_nil, or_false] at hc
  rcases hc with rfl | rfl | rfl | rfl | rfl | rfl | rfl
  · exact w_c0
  · exact w_c1
  · exact w_c2
  · exact w_c3
  · exact w_c4
  · exact w_c5
  · exact w_c6
set_option maxRecDepth 65536 in
theorem w_t1 : (words1.take 24).all (fun c => isCode c || c.before args0 about1) = true := by decide +kernel
set_option maxRecDepth 65536 in
theorem w_t2 : (words1.drop 24).all (fun c => isCode c || c.before args0 about1) = true := by decide +kernel
theorem w_tables : (allAtoms (Jvm.Cond.code x code maxLocals ret :: tables_1)).before args0 about1 = true := by
  rw [allAtoms_all]
  show words1.all (fun c => c.before args0 about1) = true
  refine all_split ?_ w_codes
  rw [← List.take_append_drop 24 words1, List.all_append, w_t1, w_t2]
  rfl
set_option maxRecDepth 65536 in
theorem w_rest : rest_1_c.before args0 about1 = true := by decide +kernel
set_option maxRecDepth 65536 in
theorem w_case : (Jvm.Cond.and given_1 narrow_1).before args0 about1 = true := by decide +kernel
set_option maxRecDepth 65536 in
theorem w_consts : constsHeld consts_1 about1 := Jvm.Lit.constsHeldB_iff.mp (by decide +kernel)
theorem w_applies : (headSpec (Jvm.Cond.code x code maxLocals ret :: tables_1) room_1).applies x e0.platform about1 = true :=
  (Spec.applies_iff w_frames).mpr ⟨w_running, w_runnable, w_alone, w_named, w_hears, w_ripe, w_room, w_tables⟩
theorem atStart : AtStart classFile x code maxLocals ret World_1 tables_1 room_1 Calls_1 rest_1 Pre_1 launch0 p0 e0 about1 theMethod args0 below0 :=
  ⟨lists_1, trivial, launch0.admits_env _ _ _, launch0.least_env, fairChoices_fair.cas, fairChoices_fair.clock, w_frames, w_args, w_heap, w_applies, ⟨w_consts, trivial⟩, w_rest, w_case⟩
end start1
theorem witness_1 : WitnessClaimed_1 := ⟨start1.p0, start1.e0, start1.about1, start1.theMethod, start1.args0, start1.below0, start1.atStart⟩
end Jvm.Pilot.@@N@@
