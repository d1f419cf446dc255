import JvmDerived
import JvmDerived.Pilot.@@N@@Statement
import JvmDerived.Pilot.@@N@@Code
set_option linter.unusedVariables false
set_option linter.unusedSimpArgs false
namespace Jvm.Pilot.@@N@@
open Jvm Jvm.ClassFile Sem Op Lib Jvm.Free Jvm.Stand Jvm.LawKit Jvm.RoadKit Bundle Jvm.Pilot.@@N@@.Jvm.D
def own_G (p : Program) (e : Env) (below : List Frame) (s : State) (Q : Option Value → Heap → List Loc → Prop) (k n : Nat) (A : State) : Prop :=
  ∃ s₂ o, Steps p.tables e below A s₂ ∧ s₂.status = .running ∧ Ended s₂ below o ∧ ∃ v L, o = .returned v ∧ Q v s₂.heap L ∧ FrameEnd s o s₂ L k n
theorem own_st {p : Program} {e : Env} {below : List Frame} {s : State} {Q : Option Value → Heap → List Loc → Prop} {k n : Nat} {A B : State} (f : ∀ t, Steps p.tables e below B t → Steps p.tables e below A t) (h : own_G p e below s Q k n B) : own_G p e below s Q k n A := by
  obtain ⟨t, o, h1, h2⟩ := h; exact ⟨t, o, f t h1, h2⟩
theorem own_tr {p : Program} {e : Env} {below : List Frame} {s : State} {Q : Option Value → Heap → List Loc → Prop} {k n : Nat} {A B : State} (f : Steps p.tables e below A B) (h : own_G p e below s Q k n B) : own_G p e below s Q k n A := own_st (fun _ => f.trans) h
theorem own_cast {p : Program} {e : Env} {below : List Frame} {s T : State} {Q : Option Value → Heap → List Loc → Prop} {k n : Nat} {g g' : JFrame} (q : g = g') (h : own_G p e below s Q k n (T.setTop g')) : own_G p e below s Q k n (T.setTop g) := q ▸ h
section OwnSteps
variable {p : Program} {l : Launch} {e : Env} {R : Room} {s : State} {m : MethodId} {args : Array Value} {below : List Frame} {meth : Method} {c : Code} {T : State} {locs : List Loc} {cells slots : Nat} {Q : Option Value → Heap → List Loc → Prop} {k n : Nat} {code : ByteArray} {pc : Nat} {Ls : Array Slot} {st : List Value} {Z : State} {a0 : Array Value} {h : Heap}
theorem own_retI (X : Stand p l e R s m args below meth c T locs cells slots) (hx : p.tables.exec = Jvm.exec) (hby : c.code = code) (hlk : meth.locks = false) (hret : meth.sig.returnType = some .int) {z : Int32} (hd : decode code pc = .ok (.ireturn, 1)) (hk : cells ≤ k) (hn : slots ≤ n) (hQ : Q (some (.int z)) T.heap locs) : own_G p e below s Q k n (T.setTop (mkF m pc Ls (.int z :: st))) := by
  obtain ⟨fs, hr, hrun, hended, hW, hsame⟩ := X.leave (v := some (.int z)) (fun h => by rw [hret] at h; cases h) hlk
  exact ⟨_, _, retOut X hx (t := .int) hret rfl (Or.inl ⟨rfl, Or.inl rfl, z, rfl⟩) (hb hby hd) hr, hrun, hended, _, _, rfl, hQ, ⟨_, rfl⟩, hW, hsame.mono hk hn⟩
theorem own_retJ (X : Stand p l e R s m args below meth c T locs cells slots) (hx : p.tables.exec = Jvm.exec) (hby : c.code = code) (hlk : meth.locks = false) (hret : meth.sig.returnType = some .long) {z : Int64} (hd : decode code pc = .ok (.lreturn, 1)) (hk : cells ≤ k) (hn : slots ≤ n) (hQ : Q (some (.long z)) T.heap locs) : own_G p e below s Q k n (T.setTop (mkF m pc Ls (.long z :: st))) := by
  obtain ⟨fs, hr, hrun, hended, hW, hsame⟩ := X.leave (v := some (.long z)) (fun h => by rw [hret] at h; cases h) hlk
  exact ⟨_, _, retOut X hx (t := .long) hret rfl (Or.inr (Or.inl ⟨rfl, rfl, z, rfl⟩)) (hb hby hd) hr, hrun, hended, _, _, rfl, hQ, ⟨_, rfl⟩, hW, hsame.mono hk hn⟩
theorem own_retD (X : Stand p l e R s m args below meth c T locs cells slots) (hx : p.tables.exec = Jvm.exec) (hby : c.code = code) (hlk : meth.locks = false) (hret : meth.sig.returnType = some .double) {z : UInt64} (hd : decode code pc = .ok (.dreturn, 1)) (hk : cells ≤ k) (hn : slots ≤ n) (hQ : Q (some (.double z)) T.heap locs) : own_G p e below s Q k n (T.setTop (mkF m pc Ls (.double z :: st))) := by
  obtain ⟨fs, hr, hrun, hended, hW, hsame⟩ := X.leave (v := some (.double z)) (fun h => by rw [hret] at h; cases h) hlk
  exact ⟨_, _, retOut X hx (t := .double) hret rfl (Or.inr (Or.inr (Or.inl ⟨rfl, rfl, z, rfl⟩))) (hb hby hd) hr, hrun, hended, _, _, rfl, hQ, ⟨_, rfl⟩, hW, hsame.mono hk hn⟩
theorem own_retA (X : Stand p l e R s m args below meth c T locs cells slots) (hx : p.tables.exec = Jvm.exec) (hby : c.code = code) (hlk : meth.locks = false) {ty : FieldType} (hret : meth.sig.returnType = some ty) (hty : ty.isReference = true) {z : Value} (hz : z.isRef = true) (hnz : narrow ty z = z) (hd : decode code pc = .ok (.areturn, 1)) (hk : cells ≤ k) (hn : slots ≤ n) (hQ : Q (some z) T.heap locs) : own_G p e below s Q k n (T.setTop (mkF m pc Ls (z :: st))) := by
  obtain ⟨fs, hr, hrun, hended, hW, hsame⟩ := X.leave (v := some z) (fun h => by rw [hret] at h; cases h) hlk
  exact ⟨_, _, retOut X hx (t := ty) hret hnz (Or.inr (Or.inr (Or.inr (Or.inr ⟨rfl, hty, hz⟩)))) (hb hby hd) hr, hrun, hended, _, _, rfl, hQ, ⟨_, rfl⟩, hW, hsame.mono hk hn⟩
theorem own_retN (X : Stand p l e R s m args below meth c T locs cells slots) (hx : p.tables.exec = Jvm.exec) (hby : c.code = code) (hlk : meth.locks = false) {t : FieldType} (hret : meth.sig.returnType = some t) (ht : t = .boolean ∨ t = .byte ∨ t = .char ∨ t = .short) {z : Int32} (hd : decode code pc = .ok (.ireturn, 1)) (hk : cells ≤ k) (hn : slots ≤ n) (hQ : Q (some (.int (nar t z))) T.heap locs) : own_G p e below s Q k n (T.setTop (mkF m pc Ls (.int z :: st))) := by
  obtain ⟨fs, hr, hrun, hended, hW, hsame⟩ := X.leave (v := some (.int (nar t z))) (fun h => by rw [hret] at h; cases h) hlk
  exact ⟨_, _, retN X hx (t := t) hret ht (hb hby hd) hr, hrun, hended, _, _, rfl, hQ, ⟨_, rfl⟩, hW, hsame.mono hk hn⟩
theorem own_ret0 (X : Stand p l e R s m args below meth c T locs cells slots) (hx : p.tables.exec = Jvm.exec) (hby : c.code = code) (hlk : meth.locks = false) (hret : meth.sig.returnType = none) (hd : decode code pc = .ok (.return_, 1)) (hk : cells ≤ k) (hn : slots ≤ n) (hQ : Q none T.heap locs) : own_G p e below s Q k n (T.setTop (mkF m pc Ls [])) := by
  obtain ⟨fs, hr, hrun, hended, hW, hsame⟩ := X.leave (v := none) (fun _ => rfl) hlk
  exact ⟨_, _, X.returnOut hx hret (hb hby hd) hr, hrun, hended, _, _, rfl, hQ, ⟨_, rfl⟩, hW, hsame.mono hk hn⟩
theorem own_iloadN (X : Stand p l e R s m args below meth c T locs cells slots) (hx : p.tables.exec = Jvm.exec) (hby : c.code = code) {kk : Fin 4} {v : Int32} (hd : decode code pc = .ok (.iload_n kk, 1)) (hl : Ls[kk.val]? = some (.val (.int v))) (h : own_G p e below s Q k n (T.setTop (mkF m (pc + 1) Ls (.int v :: st)))) : own_G p e below s Q k n (T.setTop (mkF m pc Ls st)) := own_st (fun _ => XS.iloadN X.here hx rfl (hb hby hd) hl) h
theorem own_iload (X : Stand p l e R s m args below meth c T locs cells slots) (hx : p.tables.exec = Jvm.exec) (hby : c.code = code) {kk : Nat} {v : Int32} (hd : decode code pc = .ok (.iload kk, 2)) (hl : Ls[kk]? = some (.val (.int v))) (h : own_G p e below s Q k n (T.setTop (mkF m (pc + 2) Ls (.int v :: st)))) : own_G p e below s Q k n (T.setTop (mkF m pc Ls st)) := own_st (fun _ => XS.iload X.here hx rfl (hb hby hd) hl) h
theorem own_lloadN (X : Stand p l e R s m args below meth c T locs cells slots) (hx : p.tables.exec = Jvm.exec) (hby : c.code = code) {kk : Fin 4} {v : Int64} (hd : decode code pc = .ok (.lload_n kk, 1)) (hl : Ls[kk.val]? = some (.val (.long v))) (h : own_G p e below s Q k n (T.setTop (mkF m (pc + 1) Ls (.long v :: st)))) : own_G p e below s Q k n (T.setTop (mkF m pc Ls st)) := own_st (fun _ => XS.lloadN X.here hx rfl (hb hby hd) hl) h
theorem own_lload (X : Stand p l e R s m args below meth c T locs cells slots) (hx : p.tables.exec = Jvm.exec) (hby : c.code = code) {kk : Nat} {v : Int64} (hd : decode code pc = .ok (.lload kk, 2)) (hl : Ls[kk]? = some (.val (.long v))) (h : own_G p e below s Q k n (T.setTop (mkF m (pc + 2) Ls (.long v :: st)))) : own_G p e below s Q k n (T.setTop (mkF m pc Ls st)) := own_st (fun _ => XS.lload X.here hx rfl (hb hby hd) hl) h
theorem own_dloadN (X : Stand p l e R s m args below meth c T locs cells slots) (hx : p.tables.exec = Jvm.exec) (hby : c.code = code) {kk : Fin 4} {v : UInt64} (hd : decode code pc = .ok (.dload_n kk, 1)) (hl : Ls[kk.val]? = some (.val (.double v))) (h : own_G p e below s Q k n (T.setTop (mkF m (pc + 1) Ls (.double v :: st)))) : own_G p e below s Q k n (T.setTop (mkF m pc Ls st)) := own_st (fun _ => XS.dloadN X.here hx rfl (hb hby hd) hl) h
theorem own_dload (X : Stand p l e R s m args below meth c T locs cells slots) (hx : p.tables.exec = Jvm.exec) (hby : c.code = code) {kk : Nat} {v : UInt64} (hd : decode code pc = .ok (.dload kk, 2)) (hl : Ls[kk]? = some (.val (.double v))) (h : own_G p e below s Q k n (T.setTop (mkF m (pc + 2) Ls (.double v :: st)))) : own_G p e below s Q k n (T.setTop (mkF m pc Ls st)) := own_st (fun _ => XS.dload X.here hx rfl (hb hby hd) hl) h
theorem own_aloadN (X : Stand p l e R s m args below meth c T locs cells slots) (hx : p.tables.exec = Jvm.exec) (hby : c.code = code) {kk : Fin 4} {v : Value} (hd : decode code pc = .ok (.aload_n kk, 1)) (hl : Ls[kk.val]? = some (.val v)) (hv : v.isRef = true) (h : own_G p e below s Q k n (T.setTop (mkF m (pc + 1) Ls (v :: st)))) : own_G p e below s Q k n (T.setTop (mkF m pc Ls st)) := own_st (fun _ => XS.aloadN X.here hx rfl (hb hby hd) hl hv) h
theorem own_aload (X : Stand p l e R s m args below meth c T locs cells slots) (hx : p.tables.exec = Jvm.exec) (hby : c.code = code) {kk : Nat} {v : Value} (hd : decode code pc = .ok (.aload kk, 2)) (hl : Ls[kk]? = some (.val v)) (hv : v.isRef = true) (h : own_G p e below s Q k n (T.setTop (mkF m (pc + 2) Ls (v :: st)))) : own_G p e below s Q k n (T.setTop (mkF m pc Ls st)) := own_st (fun _ => XS.aload X.here hx rfl (hb hby hd) hl hv) h
theorem own_istoreN (X : Stand p l e R s m args below meth c T locs cells slots) (hx : p.tables.exec = Jvm.exec) (hby : c.code = code) {kk : Fin 4} {v : Int32} {l' : Array Slot} (hd : decode code pc = .ok (.istore_n kk, 1)) (hl : storeLocals Ls kk.val (.int v) = some l') (h : own_G p e below s Q k n (T.setTop (mkF m (pc + 1) l' st))) : own_G p e below s Q k n (T.setTop (mkF m pc Ls (.int v :: st))) := own_st (fun _ => XS.istoreN X.here hx rfl (hb hby hd) rfl hl) h
theorem own_istore (X : Stand p l e R s m args below meth c T locs cells slots) (hx : p.tables.exec = Jvm.exec) (hby : c.code = code) {kk : Nat} {v : Int32} {l' : Array Slot} (hd : decode code pc = .ok (.istore kk, 2)) (hl : storeLocals Ls kk (.int v) = some l') (h : own_G p e below s Q k n (T.setTop (mkF m (pc + 2) l' st))) : own_G p e below s Q k n (T.setTop (mkF m pc Ls (.int v :: st))) := own_st (fun _ => XS.istore X.here hx rfl (hb hby hd) rfl hl) h
theorem own_lstoreN (X : Stand p l e R s m args below meth c T locs cells slots) (hx : p.tables.exec = Jvm.exec) (hby : c.code = code) {kk : Fin 4} {v : Int64} {l' : Array Slot} (hd : decode code pc = .ok (.lstore_n kk, 1)) (hl : storeLocals Ls kk.val (.long v) = some l') (h : own_G p e below s Q k n (T.setTop (mkF m (pc + 1) l' st))) : own_G p e below s Q k n (T.setTop (mkF m pc Ls (.long v :: st))) := own_st (fun _ => XS.lstoreN X.here hx rfl (hb hby hd) rfl hl) h
theorem own_lstore (X : Stand p l e R s m args below meth c T locs cells slots) (hx : p.tables.exec = Jvm.exec) (hby : c.code = code) {kk : Nat} {v : Int64} {l' : Array Slot} (hd : decode code pc = .ok (.lstore kk, 2)) (hl : storeLocals Ls kk (.long v) = some l') (h : own_G p e below s Q k n (T.setTop (mkF m (pc + 2) l' st))) : own_G p e below s Q k n (T.setTop (mkF m pc Ls (.long v :: st))) := own_st (fun _ => XS.lstore X.here hx rfl (hb hby hd) rfl hl) h
theorem own_dstoreN (X : Stand p l e R s m args below meth c T locs cells slots) (hx : p.tables.exec = Jvm.exec) (hby : c.code = code) {kk : Fin 4} {v : UInt64} {l' : Array Slot} (hd : decode code pc = .ok (.dstore_n kk, 1)) (hl : storeLocals Ls kk.val (.double v) = some l') (h : own_G p e below s Q k n (T.setTop (mkF m (pc + 1) l' st))) : own_G p e below s Q k n (T.setTop (mkF m pc Ls (.double v :: st))) := own_st (fun _ => XS.dstoreN X.here hx rfl (hb hby hd) rfl hl) h
theorem own_dstore (X : Stand p l e R s m args below meth c T locs cells slots) (hx : p.tables.exec = Jvm.exec) (hby : c.code = code) {kk : Nat} {v : UInt64} {l' : Array Slot} (hd : decode code pc = .ok (.dstore kk, 2)) (hl : storeLocals Ls kk (.double v) = some l') (h : own_G p e below s Q k n (T.setTop (mkF m (pc + 2) l' st))) : own_G p e below s Q k n (T.setTop (mkF m pc Ls (.double v :: st))) := own_st (fun _ => XS.dstore X.here hx rfl (hb hby hd) rfl hl) h
theorem own_astoreN (X : Stand p l e R s m args below meth c T locs cells slots) (hx : p.tables.exec = Jvm.exec) (hby : c.code = code) {kk : Fin 4} {v : Value} {l' : Array Slot} (hd : decode code pc = .ok (.astore_n kk, 1)) (hv : v.isRef = true) (hl : storeLocals Ls kk.val v = some l') (h : own_G p e below s Q k n (T.setTop (mkF m (pc + 1) l' st))) : own_G p e below s Q k n (T.setTop (mkF m pc Ls (v :: st))) := own_st (fun _ => XS.astoreN X.here hx rfl (hb hby hd) rfl hv hl) h
theorem own_astore (X : Stand p l e R s m args below meth c T locs cells slots) (hx : p.tables.exec = Jvm.exec) (hby : c.code = code) {kk : Nat} {v : Value} {l' : Array Slot} (hd : decode code pc = .ok (.astore kk, 2)) (hv : v.isRef = true) (hl : storeLocals Ls kk v = some l') (h : own_G p e below s Q k n (T.setTop (mkF m (pc + 2) l' st))) : own_G p e below s Q k n (T.setTop (mkF m pc Ls (v :: st))) := own_st (fun _ => XS.astore X.here hx rfl (hb hby hd) rfl hv hl) h
theorem own_iconst (X : Stand p l e R s m args below meth c T locs cells slots) (hx : p.tables.exec = Jvm.exec) (hby : c.code = code) {i : Int} (hd : decode code pc = .ok (.iconst i, 1))  (h : own_G p e below s Q k n (T.setTop (mkF m (pc + 1) Ls (.int (Int32.ofInt i) :: st)))) : own_G p e below s Q k n (T.setTop (mkF m pc Ls st)) := own_st (fun _ => XS.iconst X.here hx rfl (hb hby hd)) h
theorem own_bipush (X : Stand p l e R s m args below meth c T locs cells slots) (hx : p.tables.exec = Jvm.exec) (hby : c.code = code) {i : Int} (hd : decode code pc = .ok (.bipush i, 2))  (h : own_G p e below s Q k n (T.setTop (mkF m (pc + 2) Ls (.int (Int8.ofInt i).toInt32 :: st)))) : own_G p e below s Q k n (T.setTop (mkF m pc Ls st)) := own_st (fun _ => XS.bipush X.here hx rfl (hb hby hd)) h
theorem own_sipush (X : Stand p l e R s m args below meth c T locs cells slots) (hx : p.tables.exec = Jvm.exec) (hby : c.code = code) {i : Int} (hd : decode code pc = .ok (.sipush i, 3))  (h : own_G p e below s Q k n (T.setTop (mkF m (pc + 3) Ls (.int (Int16.ofInt i).toInt32 :: st)))) : own_G p e below s Q k n (T.setTop (mkF m pc Ls st)) := own_st (fun _ => XS.sipush X.here hx rfl (hb hby hd)) h
theorem own_lconst (X : Stand p l e R s m args below meth c T locs cells slots) (hx : p.tables.exec = Jvm.exec) (hby : c.code = code) {i : Fin 2} (hd : decode code pc = .ok (.lconst i, 1))  (h : own_G p e below s Q k n (T.setTop (mkF m (pc + 1) Ls (.long (Int64.ofNat i) :: st)))) : own_G p e below s Q k n (T.setTop (mkF m pc Ls st)) := own_st (fun _ => XS.lconst X.here hx rfl (hb hby hd)) h
theorem own_aconst_null (X : Stand p l e R s m args below meth c T locs cells slots) (hx : p.tables.exec = Jvm.exec) (hby : c.code = code)  (hd : decode code pc = .ok (.aconst_null, 1))  (h : own_G p e below s Q k n (T.setTop (mkF m (pc + 1) Ls (.null :: st)))) : own_G p e below s Q k n (T.setTop (mkF m pc Ls st)) := own_st (fun _ => XS.aconstNull X.here hx rfl (hb hby hd)) h
theorem own_iadd (X : Stand p l e R s m args below meth c T locs cells slots) (hx : p.tables.exec = Jvm.exec) (hby : c.code = code) {x y : Int32} (hd : decode code pc = .ok (.iadd, 1))  (h : own_G p e below s Q k n (T.setTop (mkF m (pc + 1) Ls (.int (x + y) :: st)))) : own_G p e below s Q k n (T.setTop (mkF m pc Ls (.int y :: .int x :: st))) := own_st (fun _ => XS.iadd X.here hx rfl (hb hby hd) rfl) h
theorem own_isub (X : Stand p l e R s m args below meth c T locs cells slots) (hx : p.tables.exec = Jvm.exec) (hby : c.code = code) {x y : Int32} (hd : decode code pc = .ok (.isub, 1))  (h : own_G p e below s Q k n (T.setTop (mkF m (pc + 1) Ls (.int (x - y) :: st)))) : own_G p e below s Q k n (T.setTop (mkF m pc Ls (.int y :: .int x :: st))) := own_st (fun _ => XS.isub X.here hx rfl (hb hby hd) rfl) h
theorem own_imul (X : Stand p l e R s m args below meth c T locs cells slots) (hx : p.tables.exec = Jvm.exec) (hby : c.code = code) {x y : Int32} (hd : decode code pc = .ok (.imul, 1))  (h : own_G p e below s Q k n (T.setTop (mkF m (pc + 1) Ls (.int (x * y) :: st)))) : own_G p e below s Q k n (T.setTop (mkF m pc Ls (.int y :: .int x :: st))) := own_st (fun _ => XS.imul X.here hx rfl (hb hby hd) rfl) h
theorem own_iand (X : Stand p l e R s m args below meth c T locs cells slots) (hx : p.tables.exec = Jvm.exec) (hby : c.code = code) {x y : Int32} (hd : decode code pc = .ok (.iand, 1))  (h : own_G p e below s Q k n (T.setTop (mkF m (pc + 1) Ls (.int (x &&& y) :: st)))) : own_G p e below s Q k n (T.setTop (mkF m pc Ls (.int y :: .int x :: st))) := own_st (fun _ => XS.iand X.here hx rfl (hb hby hd) rfl) h
theorem own_ior (X : Stand p l e R s m args below meth c T locs cells slots) (hx : p.tables.exec = Jvm.exec) (hby : c.code = code) {x y : Int32} (hd : decode code pc = .ok (.ior, 1))  (h : own_G p e below s Q k n (T.setTop (mkF m (pc + 1) Ls (.int (x ||| y) :: st)))) : own_G p e below s Q k n (T.setTop (mkF m pc Ls (.int y :: .int x :: st))) := own_st (fun _ => XS.ior X.here hx rfl (hb hby hd) rfl) h
theorem own_ixor (X : Stand p l e R s m args below meth c T locs cells slots) (hx : p.tables.exec = Jvm.exec) (hby : c.code = code) {x y : Int32} (hd : decode code pc = .ok (.ixor, 1))  (h : own_G p e below s Q k n (T.setTop (mkF m (pc + 1) Ls (.int (x ^^^ y) :: st)))) : own_G p e below s Q k n (T.setTop (mkF m pc Ls (.int y :: .int x :: st))) := own_st (fun _ => XS.ixor X.here hx rfl (hb hby hd) rfl) h
theorem own_ishl (X : Stand p l e R s m args below meth c T locs cells slots) (hx : p.tables.exec = Jvm.exec) (hby : c.code = code) {x y : Int32} (hd : decode code pc = .ok (.ishl, 1))  (h : own_G p e below s Q k n (T.setTop (mkF m (pc + 1) Ls (.int (x <<< (y &&& 31)) :: st)))) : own_G p e below s Q k n (T.setTop (mkF m pc Ls (.int y :: .int x :: st))) := own_st (fun _ => XS.ishl X.here hx rfl (hb hby hd) rfl) h
theorem own_ishr (X : Stand p l e R s m args below meth c T locs cells slots) (hx : p.tables.exec = Jvm.exec) (hby : c.code = code) {x y : Int32} (hd : decode code pc = .ok (.ishr, 1))  (h : own_G p e below s Q k n (T.setTop (mkF m (pc + 1) Ls (.int (x >>> (y &&& 31)) :: st)))) : own_G p e below s Q k n (T.setTop (mkF m pc Ls (.int y :: .int x :: st))) := own_st (fun _ => XS.ishr X.here hx rfl (hb hby hd) rfl) h
theorem own_iushr (X : Stand p l e R s m args below meth c T locs cells slots) (hx : p.tables.exec = Jvm.exec) (hby : c.code = code) {x y : Int32} (hd : decode code pc = .ok (.iushr, 1))  (h : own_G p e below s Q k n (T.setTop (mkF m (pc + 1) Ls (.int ((x.toUInt32 >>> (y &&& 31).toUInt32).toInt32) :: st)))) : own_G p e below s Q k n (T.setTop (mkF m pc Ls (.int y :: .int x :: st))) := own_st (fun _ => XS.iushr X.here hx rfl (hb hby hd) rfl) h
theorem own_ladd (X : Stand p l e R s m args below meth c T locs cells slots) (hx : p.tables.exec = Jvm.exec) (hby : c.code = code) {x y : Int64} (hd : decode code pc = .ok (.ladd, 1))  (h : own_G p e below s Q k n (T.setTop (mkF m (pc + 1) Ls (.long (x + y) :: st)))) : own_G p e below s Q k n (T.setTop (mkF m pc Ls (.long y :: .long x :: st))) := own_st (fun _ => XS.ladd X.here hx rfl (hb hby hd) rfl) h
theorem own_lsub (X : Stand p l e R s m args below meth c T locs cells slots) (hx : p.tables.exec = Jvm.exec) (hby : c.code = code) {x y : Int64} (hd : decode code pc = .ok (.lsub, 1))  (h : own_G p e below s Q k n (T.setTop (mkF m (pc + 1) Ls (.long (x - y) :: st)))) : own_G p e below s Q k n (T.setTop (mkF m pc Ls (.long y :: .long x :: st))) := own_st (fun _ => XS.lsub X.here hx rfl (hb hby hd) rfl) h
theorem own_lmul (X : Stand p l e R s m args below meth c T locs cells slots) (hx : p.tables.exec = Jvm.exec) (hby : c.code = code) {x y : Int64} (hd : decode code pc = .ok (.lmul, 1))  (h : own_G p e below s Q k n (T.setTop (mkF m (pc + 1) Ls (.long (x * y) :: st)))) : own_G p e below s Q k n (T.setTop (mkF m pc Ls (.long y :: .long x :: st))) := own_st (fun _ => XS.lmul X.here hx rfl (hb hby hd) rfl) h
theorem own_land (X : Stand p l e R s m args below meth c T locs cells slots) (hx : p.tables.exec = Jvm.exec) (hby : c.code = code) {x y : Int64} (hd : decode code pc = .ok (.land, 1))  (h : own_G p e below s Q k n (T.setTop (mkF m (pc + 1) Ls (.long (x &&& y) :: st)))) : own_G p e below s Q k n (T.setTop (mkF m pc Ls (.long y :: .long x :: st))) := own_st (fun _ => XS.land X.here hx rfl (hb hby hd) rfl) h
theorem own_lor (X : Stand p l e R s m args below meth c T locs cells slots) (hx : p.tables.exec = Jvm.exec) (hby : c.code = code) {x y : Int64} (hd : decode code pc = .ok (.lor, 1))  (h : own_G p e below s Q k n (T.setTop (mkF m (pc + 1) Ls (.long (x ||| y) :: st)))) : own_G p e below s Q k n (T.setTop (mkF m pc Ls (.long y :: .long x :: st))) := own_st (fun _ => XS.lor X.here hx rfl (hb hby hd) rfl) h
theorem own_lxor (X : Stand p l e R s m args below meth c T locs cells slots) (hx : p.tables.exec = Jvm.exec) (hby : c.code = code) {x y : Int64} (hd : decode code pc = .ok (.lxor, 1))  (h : own_G p e below s Q k n (T.setTop (mkF m (pc + 1) Ls (.long (x ^^^ y) :: st)))) : own_G p e below s Q k n (T.setTop (mkF m pc Ls (.long y :: .long x :: st))) := own_st (fun _ => XS.lxor X.here hx rfl (hb hby hd) rfl) h
theorem own_lshl (X : Stand p l e R s m args below meth c T locs cells slots) (hx : p.tables.exec = Jvm.exec) (hby : c.code = code) {x : Int64} {y : Int32} (hd : decode code pc = .ok (.lshl, 1))  (h : own_G p e below s Q k n (T.setTop (mkF m (pc + 1) Ls (.long (x <<< (y &&& 0x3f).toInt64) :: st)))) : own_G p e below s Q k n (T.setTop (mkF m pc Ls (.int y :: .long x :: st))) := own_st (fun _ => XS.lshl X.here hx rfl (hb hby hd) rfl) h
theorem own_lshr (X : Stand p l e R s m args below meth c T locs cells slots) (hx : p.tables.exec = Jvm.exec) (hby : c.code = code) {x : Int64} {y : Int32} (hd : decode code pc = .ok (.lshr, 1))  (h : own_G p e below s Q k n (T.setTop (mkF m (pc + 1) Ls (.long (x >>> (y &&& 0x3f).toInt64) :: st)))) : own_G p e below s Q k n (T.setTop (mkF m pc Ls (.int y :: .long x :: st))) := own_st (fun _ => XS.lshr X.here hx rfl (hb hby hd) rfl) h
theorem own_lushr (X : Stand p l e R s m args below meth c T locs cells slots) (hx : p.tables.exec = Jvm.exec) (hby : c.code = code) {x : Int64} {y : Int32} (hd : decode code pc = .ok (.lushr, 1))  (h : own_G p e below s Q k n (T.setTop (mkF m (pc + 1) Ls (.long ((x.toUInt64 >>> (y &&& 0x3f).toInt64.toUInt64).toInt64) :: st)))) : own_G p e below s Q k n (T.setTop (mkF m pc Ls (.int y :: .long x :: st))) := own_st (fun _ => XS.lushr X.here hx rfl (hb hby hd) rfl) h
theorem own_idiv (X : Stand p l e R s m args below meth c T locs cells slots) (hx : p.tables.exec = Jvm.exec) (hby : c.code = code) {x y : Int32} (hd : decode code pc = .ok (.idiv, 1)) (hy : y ≠ 0) (h : own_G p e below s Q k n (T.setTop (mkF m (pc + 1) Ls (.int (x / y) :: st)))) : own_G p e below s Q k n (T.setTop (mkF m pc Ls (.int y :: .int x :: st))) := own_st (fun _ => XS.idiv X.here hx rfl (hb hby hd) rfl hy) h
theorem own_irem (X : Stand p l e R s m args below meth c T locs cells slots) (hx : p.tables.exec = Jvm.exec) (hby : c.code = code) {x y : Int32} (hd : decode code pc = .ok (.irem, 1)) (hy : y ≠ 0) (h : own_G p e below s Q k n (T.setTop (mkF m (pc + 1) Ls (.int (x % y) :: st)))) : own_G p e below s Q k n (T.setTop (mkF m pc Ls (.int y :: .int x :: st))) := own_st (fun _ => iremM X hx rfl (hb hby hd) rfl hy) h
theorem own_ldiv (X : Stand p l e R s m args below meth c T locs cells slots) (hx : p.tables.exec = Jvm.exec) (hby : c.code = code) {x y : Int64} (hd : decode code pc = .ok (.ldiv, 1)) (hy : y ≠ 0) (h : own_G p e below s Q k n (T.setTop (mkF m (pc + 1) Ls (.long (x / y) :: st)))) : own_G p e below s Q k n (T.setTop (mkF m pc Ls (.long y :: .long x :: st))) := own_st (fun _ => XS.ldiv X.here hx rfl (hb hby hd) rfl hy) h
theorem own_lrem (X : Stand p l e R s m args below meth c T locs cells slots) (hx : p.tables.exec = Jvm.exec) (hby : c.code = code) {x y : Int64} (hd : decode code pc = .ok (.lrem, 1)) (hy : y ≠ 0) (h : own_G p e below s Q k n (T.setTop (mkF m (pc + 1) Ls (.long (x % y) :: st)))) : own_G p e below s Q k n (T.setTop (mkF m pc Ls (.long y :: .long x :: st))) := own_st (fun _ hr => XS.lrem X.here hx rfl (hb hby hd) rfl hy (by rw [lrem_mod]; exact hr)) h
theorem own_ineg (X : Stand p l e R s m args below meth c T locs cells slots) (hx : p.tables.exec = Jvm.exec) (hby : c.code = code) {x : Int32} (hd : decode code pc = .ok (.ineg, 1))  (h : own_G p e below s Q k n (T.setTop (mkF m (pc + 1) Ls (.int (-x) :: st)))) : own_G p e below s Q k n (T.setTop (mkF m pc Ls (.int x :: st))) := own_st (fun _ => XS.ineg X.here hx rfl (hb hby hd) rfl) h
theorem own_lneg (X : Stand p l e R s m args below meth c T locs cells slots) (hx : p.tables.exec = Jvm.exec) (hby : c.code = code) {x : Int64} (hd : decode code pc = .ok (.lneg, 1))  (h : own_G p e below s Q k n (T.setTop (mkF m (pc + 1) Ls (.long (-x) :: st)))) : own_G p e below s Q k n (T.setTop (mkF m pc Ls (.long x :: st))) := own_st (fun _ => XS.lneg X.here hx rfl (hb hby hd) rfl) h
theorem own_i2l (X : Stand p l e R s m args below meth c T locs cells slots) (hx : p.tables.exec = Jvm.exec) (hby : c.code = code) {x : Int32} (hd : decode code pc = .ok (.i2l, 1))  (h : own_G p e below s Q k n (T.setTop (mkF m (pc + 1) Ls (.long (x.toInt64) :: st)))) : own_G p e below s Q k n (T.setTop (mkF m pc Ls (.int x :: st))) := own_st (fun _ => XS.i2l X.here hx rfl (hb hby hd) rfl) h
theorem own_l2i (X : Stand p l e R s m args below meth c T locs cells slots) (hx : p.tables.exec = Jvm.exec) (hby : c.code = code) {x : Int64} (hd : decode code pc = .ok (.l2i, 1))  (h : own_G p e below s Q k n (T.setTop (mkF m (pc + 1) Ls (.int (x.toInt32) :: st)))) : own_G p e below s Q k n (T.setTop (mkF m pc Ls (.long x :: st))) := own_st (fun _ => XS.l2i X.here hx rfl (hb hby hd) rfl) h
theorem own_i2b (X : Stand p l e R s m args below meth c T locs cells slots) (hx : p.tables.exec = Jvm.exec) (hby : c.code = code) {x : Int32} (hd : decode code pc = .ok (.i2b, 1))  (h : own_G p e below s Q k n (T.setTop (mkF m (pc + 1) Ls (.int (x.toInt8.toInt32) :: st)))) : own_G p e below s Q k n (T.setTop (mkF m pc Ls (.int x :: st))) := own_st (fun _ => XS.i2b X.here hx rfl (hb hby hd) rfl) h
theorem own_i2s (X : Stand p l e R s m args below meth c T locs cells slots) (hx : p.tables.exec = Jvm.exec) (hby : c.code = code) {x : Int32} (hd : decode code pc = .ok (.i2s, 1))  (h : own_G p e below s Q k n (T.setTop (mkF m (pc + 1) Ls (.int (x.toInt16.toInt32) :: st)))) : own_G p e below s Q k n (T.setTop (mkF m pc Ls (.int x :: st))) := own_st (fun _ => XS.i2s X.here hx rfl (hb hby hd) rfl) h
theorem own_i2c (X : Stand p l e R s m args below meth c T locs cells slots) (hx : p.tables.exec = Jvm.exec) (hby : c.code = code) {x : Int32} (hd : decode code pc = .ok (.i2c, 1))  (h : own_G p e below s Q k n (T.setTop (mkF m (pc + 1) Ls (.int (x.toUInt32.toUInt16.toUInt32.toInt32) :: st)))) : own_G p e below s Q k n (T.setTop (mkF m pc Ls (.int x :: st))) := own_st (fun _ => XS.i2c X.here hx rfl (hb hby hd) rfl) h
theorem own_dup (X : Stand p l e R s m args below meth c T locs cells slots) (hx : p.tables.exec = Jvm.exec) (hby : c.code = code) {v : Value} (hd : decode code pc = .ok (.dup, 1)) (hc : v.category = 1) (h : own_G p e below s Q k n (T.setTop (mkF m (pc + 1) Ls (v :: v :: st)))) : own_G p e below s Q k n (T.setTop (mkF m pc Ls (v :: st))) := own_st (fun _ => XS.dup X.here hx rfl (hb hby hd) rfl hc) h
theorem own_dup_x1 (X : Stand p l e R s m args below meth c T locs cells slots) (hx : p.tables.exec = Jvm.exec) (hby : c.code = code) {v w : Value} (hd : decode code pc = .ok (.dup_x1, 1)) (hc : v.category = 1) (hc' : w.category = 1) (h : own_G p e below s Q k n (T.setTop (mkF m (pc + 1) Ls (v :: w :: v :: st)))) : own_G p e below s Q k n (T.setTop (mkF m pc Ls (v :: w :: st))) := own_st (fun _ => XS.dupX1 X.here hx rfl (hb hby hd) rfl hc hc') h
theorem own_dup2 (X : Stand p l e R s m args below meth c T locs cells slots) (hx : p.tables.exec = Jvm.exec) (hby : c.code = code) {v w : Value} (hd : decode code pc = .ok (.dup2, 1)) (hc : v.category = 1) (hc' : w.category = 1) (h : own_G p e below s Q k n (T.setTop (mkF m (pc + 1) Ls (v :: w :: v :: w :: st)))) : own_G p e below s Q k n (T.setTop (mkF m pc Ls (v :: w :: st))) := own_st (fun _ => Jvm.Free.XT.dup2 X.here hx rfl (hb hby hd) rfl hc hc') h
theorem own_dup2L (X : Stand p l e R s m args below meth c T locs cells slots) (hx : p.tables.exec = Jvm.exec) (hby : c.code = code) {v : Int64} (hd : decode code pc = .ok (.dup2, 1))  (h : own_G p e below s Q k n (T.setTop (mkF m (pc + 1) Ls (.long v :: .long v :: st)))) : own_G p e below s Q k n (T.setTop (mkF m pc Ls (.long v :: st))) := own_st (fun _ => Jvm.Free.XT.dup2L X.here hx rfl (hb hby hd) rfl) h
theorem own_pop (X : Stand p l e R s m args below meth c T locs cells slots) (hx : p.tables.exec = Jvm.exec) (hby : c.code = code) {v : Value} (hd : decode code pc = .ok (.pop, 1)) (hc : v.category = 1) (h : own_G p e below s Q k n (T.setTop (mkF m (pc + 1) Ls st))) : own_G p e below s Q k n (T.setTop (mkF m pc Ls (v :: st))) := own_st (fun _ => XS.pop X.here hx rfl (hb hby hd) rfl hc) h
theorem own_iinc (X : Stand p l e R s m args below meth c T locs cells slots) (hx : p.tables.exec = Jvm.exec) (hby : c.code = code) {kk : Nat} {cst : Int} {x : Int32} {l' : Array Slot} (hd : decode code pc = .ok (.iinc kk cst, 3)) (hl : Ls[kk]? = some (.val (.int x))) (hl' : storeLocals Ls kk (.int (x + Int32.ofInt cst)) = some l') (h : own_G p e below s Q k n (T.setTop (mkF m (pc + 3) l' st))) : own_G p e below s Q k n (T.setTop (mkF m pc Ls st)) := own_st (fun _ => XS.iinc X.here hx rfl (hb hby hd) hl hl') h
theorem own_goto (X : Stand p l e R s m args below meth c T locs cells slots) (hx : p.tables.exec = Jvm.exec) (hby : c.code = code) {o : Int} {pc' : Nat} (hd : decode code pc = .ok (.goto o, 3)) (ho : 0 ≤ (pc : Int) + o) (hp : ((pc : Int) + o).toNat = pc') (h : own_G p e below s Q k n (T.setTop (mkF m pc' Ls st))) : own_G p e below s Q k n (T.setTop (mkF m pc Ls st)) := own_st (fun _ => XS.goto X.here hx rfl rfl (hb hby hd) ho hp) h
theorem own_icmp_eq (X : Stand p l e R s m args below meth c T locs cells slots) (hx : p.tables.exec = Jvm.exec) (hby : c.code = code) {x y : Int32} {o : Int} {pc' : Nat} (hd : decode code pc = .ok (.if_icmp .eq o, 3)) (ho : 0 ≤ (pc : Int) + o) (hp : ((pc : Int) + o).toNat = pc') (hY : x = y → own_G p e below s Q k n (T.setTop (mkF m pc' Ls st))) (hN : ¬ x = y → own_G p e below s Q k n (T.setTop (mkF m (pc + 3) Ls st))) : own_G p e below s Q k n (T.setTop (mkF m pc Ls (.int y :: .int x :: st))) := by
  by_cases q : x = y
  · exact own_st (fun _ => XS.icmpYes X.here hx rfl rfl (hb hby hd) rfl (teq q).1 ho hp) (hY q)
  · exact own_st (fun _ => XS.icmpNo X.here hx rfl (hb hby hd) rfl (feq q).1) (hN q)
theorem own_if_eq (X : Stand p l e R s m args below meth c T locs cells slots) (hx : p.tables.exec = Jvm.exec) (hby : c.code = code) {x : Int32} {o : Int} {pc' : Nat} (hd : decode code pc = .ok (.ifCond .eq o, 3)) (ho : 0 ≤ (pc : Int) + o) (hp : ((pc : Int) + o).toNat = pc') (hY : x = 0 → own_G p e below s Q k n (T.setTop (mkF m pc' Ls st))) (hN : ¬ x = 0 → own_G p e below s Q k n (T.setTop (mkF m (pc + 3) Ls st))) : own_G p e below s Q k n (T.setTop (mkF m pc Ls (.int x :: st))) := by
  by_cases q : x = 0
  · exact own_st (fun _ => XS.ifYes X.here hx rfl rfl (hb hby hd) rfl ((if0 _ _).trans (teq q).1) ho hp) (hY q)
  · exact own_st (fun _ => XS.ifNo X.here hx rfl (hb hby hd) rfl ((if0 _ _).trans (feq q).1)) (hN q)
theorem own_lcmp_eq (X : Stand p l e R s m args below meth c T locs cells slots) (hx : p.tables.exec = Jvm.exec) (hby : c.code = code) {x y : Int64} {o : Int} {pc' : Nat} (hd : decode code pc = .ok (.lcmp, 1)) (hd2 : decode code (pc + 1) = .ok (.ifCond .eq o, 3)) (ho : 0 ≤ ((pc + 1 : Nat) : Int) + o) (hp : (((pc + 1 : Nat) : Int) + o).toNat = pc') (hY : x = y → own_G p e below s Q k n (T.setTop (mkF m pc' Ls st))) (hN : ¬ x = y → own_G p e below s Q k n (T.setTop (mkF m (pc + 4) Ls st))) : own_G p e below s Q k n (T.setTop (mkF m pc Ls (.long y :: .long x :: st))) := by
  refine own_st (fun _ => XS.lcmp X.here hx rfl (hb hby hd) rfl) ?_
  exact own_if_eq (x := lcmpW x y) X hx hby hd2 ho hp (fun q => hY ((lw_eq x y).mp q)) (fun q => hN (fun z => q ((lw_eq x y).mpr z)))
theorem own_icmp_ne (X : Stand p l e R s m args below meth c T locs cells slots) (hx : p.tables.exec = Jvm.exec) (hby : c.code = code) {x y : Int32} {o : Int} {pc' : Nat} (hd : decode code pc = .ok (.if_icmp .ne o, 3)) (ho : 0 ≤ (pc : Int) + o) (hp : ((pc : Int) + o).toNat = pc') (hY : ¬ x = y → own_G p e below s Q k n (T.setTop (mkF m pc' Ls st))) (hN : x = y → own_G p e below s Q k n (T.setTop (mkF m (pc + 3) Ls st))) : own_G p e below s Q k n (T.setTop (mkF m pc Ls (.int y :: .int x :: st))) := by
  by_cases q : x = y
  · exact own_st (fun _ => XS.icmpNo X.here hx rfl (hb hby hd) rfl (teq q).2) (hN q)
  · exact own_st (fun _ => XS.icmpYes X.here hx rfl rfl (hb hby hd) rfl (feq q).2 ho hp) (hY q)
theorem own_if_ne (X : Stand p l e R s m args below meth c T locs cells slots) (hx : p.tables.exec = Jvm.exec) (hby : c.code = code) {x : Int32} {o : Int} {pc' : Nat} (hd : decode code pc = .ok (.ifCond .ne o, 3)) (ho : 0 ≤ (pc : Int) + o) (hp : ((pc : Int) + o).toNat = pc') (hY : ¬ x = 0 → own_G p e below s Q k n (T.setTop (mkF m pc' Ls st))) (hN : x = 0 → own_G p e below s Q k n (T.setTop (mkF m (pc + 3) Ls st))) : own_G p e below s Q k n (T.setTop (mkF m pc Ls (.int x :: st))) := by
  by_cases q : x = 0
  · exact own_st (fun _ => XS.ifNo X.here hx rfl (hb hby hd) rfl ((if0 _ _).trans (teq q).2)) (hN q)
  · exact own_st (fun _ => XS.ifYes X.here hx rfl rfl (hb hby hd) rfl ((if0 _ _).trans (feq q).2) ho hp) (hY q)
theorem own_lcmp_ne (X : Stand p l e R s m args below meth c T locs cells slots) (hx : p.tables.exec = Jvm.exec) (hby : c.code = code) {x y : Int64} {o : Int} {pc' : Nat} (hd : decode code pc = .ok (.lcmp, 1)) (hd2 : decode code (pc + 1) = .ok (.ifCond .ne o, 3)) (ho : 0 ≤ ((pc + 1 : Nat) : Int) + o) (hp : (((pc + 1 : Nat) : Int) + o).toNat = pc') (hY : ¬ x = y → own_G p e below s Q k n (T.setTop (mkF m pc' Ls st))) (hN : x = y → own_G p e below s Q k n (T.setTop (mkF m (pc + 4) Ls st))) : own_G p e below s Q k n (T.setTop (mkF m pc Ls (.long y :: .long x :: st))) := by
  refine own_st (fun _ => XS.lcmp X.here hx rfl (hb hby hd) rfl) ?_
  exact own_if_ne (x := lcmpW x y) X hx hby hd2 ho hp (fun q => hY (fun z => q ((lw_eq x y).mpr z))) (fun q => hN ((lw_eq x y).mp q))
theorem own_icmp_lt (X : Stand p l e R s m args below meth c T locs cells slots) (hx : p.tables.exec = Jvm.exec) (hby : c.code = code) {x y : Int32} {o : Int} {pc' : Nat} (hd : decode code pc = .ok (.if_icmp .lt o, 3)) (ho : 0 ≤ (pc : Int) + o) (hp : ((pc : Int) + o).toNat = pc') (hY : x < y → own_G p e below s Q k n (T.setTop (mkF m pc' Ls st))) (hN : ¬ x < y → own_G p e below s Q k n (T.setTop (mkF m (pc + 3) Ls st))) : own_G p e below s Q k n (T.setTop (mkF m pc Ls (.int y :: .int x :: st))) := by
  by_cases q : x < y
  · exact own_st (fun _ => XS.icmpYes X.here hx rfl rfl (hb hby hd) rfl (tlt q).1 ho hp) (hY q)
  · exact own_st (fun _ => XS.icmpNo X.here hx rfl (hb hby hd) rfl (flt q).1) (hN q)
theorem own_if_lt (X : Stand p l e R s m args below meth c T locs cells slots) (hx : p.tables.exec = Jvm.exec) (hby : c.code = code) {x : Int32} {o : Int} {pc' : Nat} (hd : decode code pc = .ok (.ifCond .lt o, 3)) (ho : 0 ≤ (pc : Int) + o) (hp : ((pc : Int) + o).toNat = pc') (hY : x < 0 → own_G p e below s Q k n (T.setTop (mkF m pc' Ls st))) (hN : ¬ x < 0 → own_G p e below s Q k n (T.setTop (mkF m (pc + 3) Ls st))) : own_G p e below s Q k n (T.setTop (mkF m pc Ls (.int x :: st))) := by
  by_cases q : x < 0
  · exact own_st (fun _ => XS.ifYes X.here hx rfl rfl (hb hby hd) rfl ((if0 _ _).trans (tlt q).1) ho hp) (hY q)
  · exact own_st (fun _ => XS.ifNo X.here hx rfl (hb hby hd) rfl ((if0 _ _).trans (flt q).1)) (hN q)
theorem own_lcmp_lt (X : Stand p l e R s m args below meth c T locs cells slots) (hx : p.tables.exec = Jvm.exec) (hby : c.code = code) {x y : Int64} {o : Int} {pc' : Nat} (hd : decode code pc = .ok (.lcmp, 1)) (hd2 : decode code (pc + 1) = .ok (.ifCond .lt o, 3)) (ho : 0 ≤ ((pc + 1 : Nat) : Int) + o) (hp : (((pc + 1 : Nat) : Int) + o).toNat = pc') (hY : x < y → own_G p e below s Q k n (T.setTop (mkF m pc' Ls st))) (hN : ¬ x < y → own_G p e below s Q k n (T.setTop (mkF m (pc + 4) Ls st))) : own_G p e below s Q k n (T.setTop (mkF m pc Ls (.long y :: .long x :: st))) := by
  refine own_st (fun _ => XS.lcmp X.here hx rfl (hb hby hd) rfl) ?_
  exact own_if_lt (x := lcmpW x y) X hx hby hd2 ho hp (fun q => hY ((lw_lt x y).mp q)) (fun q => hN (fun z => q ((lw_lt x y).mpr z)))
theorem own_icmp_ge (X : Stand p l e R s m args below meth c T locs cells slots) (hx : p.tables.exec = Jvm.exec) (hby : c.code = code) {x y : Int32} {o : Int} {pc' : Nat} (hd : decode code pc = .ok (.if_icmp .ge o, 3)) (ho : 0 ≤ (pc : Int) + o) (hp : ((pc : Int) + o).toNat = pc') (hY : ¬ x < y → own_G p e below s Q k n (T.setTop (mkF m pc' Ls st))) (hN : x < y → own_G p e below s Q k n (T.setTop (mkF m (pc + 3) Ls st))) : own_G p e below s Q k n (T.setTop (mkF m pc Ls (.int y :: .int x :: st))) := by
  by_cases q : x < y
  · exact own_st (fun _ => XS.icmpNo X.here hx rfl (hb hby hd) rfl (tlt q).2.1) (hN q)
  · exact own_st (fun _ => XS.icmpYes X.here hx rfl rfl (hb hby hd) rfl (flt q).2.1 ho hp) (hY q)
theorem own_if_ge (X : Stand p l e R s m args below meth c T locs cells slots) (hx : p.tables.exec = Jvm.exec) (hby : c.code = code) {x : Int32} {o : Int} {pc' : Nat} (hd : decode code pc = .ok (.ifCond .ge o, 3)) (ho : 0 ≤ (pc : Int) + o) (hp : ((pc : Int) + o).toNat = pc') (hY : ¬ x < 0 → own_G p e below s Q k n (T.setTop (mkF m pc' Ls st))) (hN : x < 0 → own_G p e below s Q k n (T.setTop (mkF m (pc + 3) Ls st))) : own_G p e below s Q k n (T.setTop (mkF m pc Ls (.int x :: st))) := by
  by_cases q : x < 0
  · exact own_st (fun _ => XS.ifNo X.here hx rfl (hb hby hd) rfl ((if0 _ _).trans (tlt q).2.1)) (hN q)
  · exact own_st (fun _ => XS.ifYes X.here hx rfl rfl (hb hby hd) rfl ((if0 _ _).trans (flt q).2.1) ho hp) (hY q)
theorem own_lcmp_ge (X : Stand p l e R s m args below meth c T locs cells slots) (hx : p.tables.exec = Jvm.exec) (hby : c.code = code) {x y : Int64} {o : Int} {pc' : Nat} (hd : decode code pc = .ok (.lcmp, 1)) (hd2 : decode code (pc + 1) = .ok (.ifCond .ge o, 3)) (ho : 0 ≤ ((pc + 1 : Nat) : Int) + o) (hp : (((pc + 1 : Nat) : Int) + o).toNat = pc') (hY : ¬ x < y → own_G p e below s Q k n (T.setTop (mkF m pc' Ls st))) (hN : x < y → own_G p e below s Q k n (T.setTop (mkF m (pc + 4) Ls st))) : own_G p e below s Q k n (T.setTop (mkF m pc Ls (.long y :: .long x :: st))) := by
  refine own_st (fun _ => XS.lcmp X.here hx rfl (hb hby hd) rfl) ?_
  exact own_if_ge (x := lcmpW x y) X hx hby hd2 ho hp (fun q => hY (fun z => q ((lw_lt x y).mpr z))) (fun q => hN ((lw_lt x y).mp q))
theorem own_icmp_gt (X : Stand p l e R s m args below meth c T locs cells slots) (hx : p.tables.exec = Jvm.exec) (hby : c.code = code) {x y : Int32} {o : Int} {pc' : Nat} (hd : decode code pc = .ok (.if_icmp .gt o, 3)) (ho : 0 ≤ (pc : Int) + o) (hp : ((pc : Int) + o).toNat = pc') (hY : y < x → own_G p e below s Q k n (T.setTop (mkF m pc' Ls st))) (hN : ¬ y < x → own_G p e below s Q k n (T.setTop (mkF m (pc + 3) Ls st))) : own_G p e below s Q k n (T.setTop (mkF m pc Ls (.int y :: .int x :: st))) := by
  by_cases q : y < x
  · exact own_st (fun _ => XS.icmpYes X.here hx rfl rfl (hb hby hd) rfl (tlt q).2.2.1 ho hp) (hY q)
  · exact own_st (fun _ => XS.icmpNo X.here hx rfl (hb hby hd) rfl (flt q).2.2.1) (hN q)
theorem own_if_gt (X : Stand p l e R s m args below meth c T locs cells slots) (hx : p.tables.exec = Jvm.exec) (hby : c.code = code) {x : Int32} {o : Int} {pc' : Nat} (hd : decode code pc = .ok (.ifCond .gt o, 3)) (ho : 0 ≤ (pc : Int) + o) (hp : ((pc : Int) + o).toNat = pc') (hY : 0 < x → own_G p e below s Q k n (T.setTop (mkF m pc' Ls st))) (hN : ¬ 0 < x → own_G p e below s Q k n (T.setTop (mkF m (pc + 3) Ls st))) : own_G p e below s Q k n (T.setTop (mkF m pc Ls (.int x :: st))) := by
  by_cases q : 0 < x
  · exact own_st (fun _ => XS.ifYes X.here hx rfl rfl (hb hby hd) rfl ((if0 _ _).trans (tlt q).2.2.1) ho hp) (hY q)
  · exact own_st (fun _ => XS.ifNo X.here hx rfl (hb hby hd) rfl ((if0 _ _).trans (flt q).2.2.1)) (hN q)
theorem own_lcmp_gt (X : Stand p l e R s m args below meth c T locs cells slots) (hx : p.tables.exec = Jvm.exec) (hby : c.code = code) {x y : Int64} {o : Int} {pc' : Nat} (hd : decode code pc = .ok (.lcmp, 1)) (hd2 : decode code (pc + 1) = .ok (.ifCond .gt o, 3)) (ho : 0 ≤ ((pc + 1 : Nat) : Int) + o) (hp : (((pc + 1 : Nat) : Int) + o).toNat = pc') (hY : y < x → own_G p e below s Q k n (T.setTop (mkF m pc' Ls st))) (hN : ¬ y < x → own_G p e below s Q k n (T.setTop (mkF m (pc + 4) Ls st))) : own_G p e below s Q k n (T.setTop (mkF m pc Ls (.long y :: .long x :: st))) := by
  refine own_st (fun _ => XS.lcmp X.here hx rfl (hb hby hd) rfl) ?_
  exact own_if_gt (x := lcmpW x y) X hx hby hd2 ho hp (fun q => hY ((lw_gt x y).mp q)) (fun q => hN (fun z => q ((lw_gt x y).mpr z)))
theorem own_icmp_le (X : Stand p l e R s m args below meth c T locs cells slots) (hx : p.tables.exec = Jvm.exec) (hby : c.code = code) {x y : Int32} {o : Int} {pc' : Nat} (hd : decode code pc = .ok (.if_icmp .le o, 3)) (ho : 0 ≤ (pc : Int) + o) (hp : ((pc : Int) + o).toNat = pc') (hY : ¬ y < x → own_G p e below s Q k n (T.setTop (mkF m pc' Ls st))) (hN : y < x → own_G p e below s Q k n (T.setTop (mkF m (pc + 3) Ls st))) : own_G p e below s Q k n (T.setTop (mkF m pc Ls (.int y :: .int x :: st))) := by
  by_cases q : y < x
  · exact own_st (fun _ => XS.icmpNo X.here hx rfl (hb hby hd) rfl (tlt q).2.2.2) (hN q)
  · exact own_st (fun _ => XS.icmpYes X.here hx rfl rfl (hb hby hd) rfl (flt q).2.2.2 ho hp) (hY q)
theorem own_if_le (X : Stand p l e R s m args below meth c T locs cells slots) (hx : p.tables.exec = Jvm.exec) (hby : c.code = code) {x : Int32} {o : Int} {pc' : Nat} (hd : decode code pc = .ok (.ifCond .le o, 3)) (ho : 0 ≤ (pc : Int) + o) (hp : ((pc : Int) + o).toNat = pc') (hY : ¬ 0 < x → own_G p e below s Q k n (T.setTop (mkF m pc' Ls st))) (hN : 0 < x → own_G p e below s Q k n (T.setTop (mkF m (pc + 3) Ls st))) : own_G p e below s Q k n (T.setTop (mkF m pc Ls (.int x :: st))) := by
  by_cases q : 0 < x
  · exact own_st (fun _ => XS.ifNo X.here hx rfl (hb hby hd) rfl ((if0 _ _).trans (tlt q).2.2.2)) (hN q)
  · exact own_st (fun _ => XS.ifYes X.here hx rfl rfl (hb hby hd) rfl ((if0 _ _).trans (flt q).2.2.2) ho hp) (hY q)
theorem own_lcmp_le (X : Stand p l e R s m args below meth c T locs cells slots) (hx : p.tables.exec = Jvm.exec) (hby : c.code = code) {x y : Int64} {o : Int} {pc' : Nat} (hd : decode code pc = .ok (.lcmp, 1)) (hd2 : decode code (pc + 1) = .ok (.ifCond .le o, 3)) (ho : 0 ≤ ((pc + 1 : Nat) : Int) + o) (hp : (((pc + 1 : Nat) : Int) + o).toNat = pc') (hY : ¬ y < x → own_G p e below s Q k n (T.setTop (mkF m pc' Ls st))) (hN : y < x → own_G p e below s Q k n (T.setTop (mkF m (pc + 4) Ls st))) : own_G p e below s Q k n (T.setTop (mkF m pc Ls (.long y :: .long x :: st))) := by
  refine own_st (fun _ => XS.lcmp X.here hx rfl (hb hby hd) rfl) ?_
  exact own_if_le (x := lcmpW x y) X hx hby hd2 ho hp (fun q => hY (fun z => q ((lw_gt x y).mpr z))) (fun q => hN ((lw_gt x y).mp q))
theorem own_acmp_eq (X : Stand p l e R s m args below meth c T locs cells slots) (hx : p.tables.exec = Jvm.exec) (hby : c.code = code) {x y : Value} {o : Int} {pc' : Nat} (hx1 : x.isRef = true) (hy1 : y.isRef = true) (hd : decode code pc = .ok (.if_acmp .eq o, 3)) (ho : 0 ≤ (pc : Int) + o) (hp : ((pc : Int) + o).toNat = pc') (hY : x = y → own_G p e below s Q k n (T.setTop (mkF m pc' Ls st))) (hN : ¬ x = y → own_G p e below s Q k n (T.setTop (mkF m (pc + 3) Ls st))) : own_G p e below s Q k n (T.setTop (mkF m pc Ls (y :: x :: st))) := by
  by_cases q : x = y
  · exact own_st (fun _ => Jvm.Free.XT.acmpYes X.here hx rfl rfl (hb hby hd) rfl hx1 hy1 (decide_eq_true q) ho hp) (hY q)
  · exact own_st (fun _ => Jvm.Free.XT.acmpNo X.here hx rfl (hb hby hd) rfl hx1 hy1 (decide_eq_false q)) (hN q)
theorem own_acmp_ne (X : Stand p l e R s m args below meth c T locs cells slots) (hx : p.tables.exec = Jvm.exec) (hby : c.code = code) {x y : Value} {o : Int} {pc' : Nat} (hx1 : x.isRef = true) (hy1 : y.isRef = true) (hd : decode code pc = .ok (.if_acmp .ne o, 3)) (ho : 0 ≤ (pc : Int) + o) (hp : ((pc : Int) + o).toNat = pc') (hY : ¬ x = y → own_G p e below s Q k n (T.setTop (mkF m pc' Ls st))) (hN : x = y → own_G p e below s Q k n (T.setTop (mkF m (pc + 3) Ls st))) : own_G p e below s Q k n (T.setTop (mkF m pc Ls (y :: x :: st))) := by
  by_cases q : x = y
  · exact own_st (fun _ => Jvm.Free.XT.acmpNo X.here hx rfl (hb hby hd) rfl hx1 hy1 (decide_eq_false (fun z => z q))) (hN q)
  · exact own_st (fun _ => Jvm.Free.XT.acmpYes X.here hx rfl rfl (hb hby hd) rfl hx1 hy1 (decide_eq_true q) ho hp) (hY q)
theorem own_ifnullY (X : Stand p l e R s m args below meth c T locs cells slots) (hx : p.tables.exec = Jvm.exec) (hby : c.code = code) {o : Int} {pc' : Nat} (hd : decode code pc = .ok (.ifnull o, 3)) (ho : 0 ≤ (pc : Int) + o) (hp : ((pc : Int) + o).toNat = pc') (h : own_G p e below s Q k n (T.setTop (mkF m pc' Ls st))) : own_G p e below s Q k n (T.setTop (mkF m pc Ls (.null :: st))) := own_st (fun _ => XS.ifnullYes X.here hx rfl rfl (hb hby hd) rfl ho hp) h
theorem own_ifnullN (X : Stand p l e R s m args below meth c T locs cells slots) (hx : p.tables.exec = Jvm.exec) (hby : c.code = code) {o : Int} {b : Addr} (hd : decode code pc = .ok (.ifnull o, 3)) (h : own_G p e below s Q k n (T.setTop (mkF m (pc + 3) Ls st))) : own_G p e below s Q k n (T.setTop (mkF m pc Ls (.ref b :: st))) := own_st (fun _ => XS.ifnullNo X.here hx rfl (hb hby hd) rfl) h
theorem own_ifnonnullY (X : Stand p l e R s m args below meth c T locs cells slots) (hx : p.tables.exec = Jvm.exec) (hby : c.code = code) {o : Int} {b : Addr} {pc' : Nat} (hd : decode code pc = .ok (.ifnonnull o, 3)) (ho : 0 ≤ (pc : Int) + o) (hp : ((pc : Int) + o).toNat = pc') (h : own_G p e below s Q k n (T.setTop (mkF m pc' Ls st))) : own_G p e below s Q k n (T.setTop (mkF m pc Ls (.ref b :: st))) := own_st (fun _ => XS.ifnonnullYes X.here hx rfl rfl (hb hby hd) rfl ho hp) h
theorem own_ifnonnullN (X : Stand p l e R s m args below meth c T locs cells slots) (hx : p.tables.exec = Jvm.exec) (hby : c.code = code) {o : Int} (hd : decode code pc = .ok (.ifnonnull o, 3)) (h : own_G p e below s Q k n (T.setTop (mkF m (pc + 3) Ls st))) : own_G p e below s Q k n (T.setTop (mkF m pc Ls (.null :: st))) := own_st (fun _ => XS.ifnonnullNo X.here hx rfl (hb hby hd) rfl) h
theorem own_tswIn (X : Stand p l e R s m args below meth c T locs cells slots) (hx : p.tables.exec = Jvm.exec) (hby : c.code = code) {dflt low high : Int} {offs : Array Int} {len : Nat} {o : Int} {pc' : Nat} {i : Int32} (hd : decode code pc = .ok (.tableswitch dflt low high offs, len)) (hin : ¬ (i.toInt < low ∨ i.toInt > high)) (hoff : offs[(i.toInt - low).toNat]? = some o) (ho : 0 ≤ (pc : Int) + o) (hp : ((pc : Int) + o).toNat = pc') (h : own_G p e below s Q k n (T.setTop (mkF m pc' Ls st))) : own_G p e below s Q k n (T.setTop (mkF m pc Ls (.int i :: st))) := own_st (fun _ => XS.tswIn (g := mkF m pc Ls (.int i :: st)) (pc0 := pc) X.here hx rfl rfl (hb hby hd) rfl hin hoff ho hp) h
theorem own_ldcI (X : Stand p l e R s m args below meth c T locs cells slots) (hx : p.tables.exec = Jvm.exec) (hby : c.code = code) (hZ : Z.Warmed39 s.vm) {own : String} {i : Nat} {v : Int32} (hown : s.vm.findClass own = some m.cls) (w : (Cond.constant own i v).before a0 Z = true) (hd : decode code pc = .ok (.ldc i, 2)) (h : own_G p e below s Q k n (T.setTop (mkF m (pc + 2) Ls (.int v :: st)))) : own_G p e below s Q k n (T.setTop (mkF m pc Ls st)) := own_st (X.ldcInt hx hown (mvT hZ w) rfl (hb hby hd)) h
theorem own_ldcJ (X : Stand p l e R s m args below meth c T locs cells slots) (hx : p.tables.exec = Jvm.exec) (hby : c.code = code) (hZ : Z.Warmed39 s.vm) {own : String} {i : Nat} {v : Int64} (hown : s.vm.findClass own = some m.cls) (w : (Cond.constantLong own i v).before a0 Z = true) (hd : decode code pc = .ok (.ldc2_w i, 3)) (h : own_G p e below s Q k n (T.setTop (mkF m (pc + 3) Ls (.long v :: st)))) : own_G p e below s Q k n (T.setTop (mkF m pc Ls st)) := own_st (X.ldc2Long hx hown (mvT hZ w) rfl (hb hby hd)) h
theorem own_instNull (X : Stand p l e R s m args below meth c T locs cells slots) (hx : p.tables.exec = Jvm.exec) (hby : c.code = code) {i : Nat} (hd : decode code pc = .ok (.instanceof i, 3)) (h : own_G p e below s Q k n (T.setTop (mkF m (pc + 3) Ls (.int 0 :: st)))) : own_G p e below s Q k n (T.setTop (mkF m pc Ls (.null :: st))) := own_st (X.instanceofNull hx rfl rfl (hb hby hd)) h
theorem own_castNull (X : Stand p l e R s m args below meth c T locs cells slots) (hx : p.tables.exec = Jvm.exec) (hby : c.code = code) {i : Nat} (hd : decode code pc = .ok (.checkcast i, 3)) (h : own_G p e below s Q k n (T.setTop (mkF m (pc + 3) Ls (.null :: st)))) : own_G p e below s Q k n (T.setTop (mkF m pc Ls (.null :: st))) := own_st (X.checkcastNull hx rfl rfl (hb hby hd)) h
def own_Ar (Z : State) (h : Heap) (a : Addr) (ty : FieldType) (n : Nat) (f : Nat → Value) : Prop := ∃ c : Cell, Arr Z h a c ty ∧ c.slots.size = n ∧ n < 2 ^ 31 ∧ ∀ j, j < n → c.slots[j]? = some (f j)
def own_set (f : Nat → Value) (j : Nat) (v : Value) : Nat → Value := fun i => if i = j then v else f i
theorem own_set_same (f : Nat → Value) (j : Nat) (v : Value) : own_set f j v j = v := if_pos rfl
theorem own_set_ne (f : Nat → Value) {i j : Nat} (v : Value) (q : i ≠ j) : own_set f j v i = f i := if_neg q
theorem own_Ar.lt {a : Addr} {ty : FieldType} {N : Nat} {f : Nat → Value} (F : own_Ar Z h a ty N f) : a < h.size := by obtain ⟨c, A, -⟩ := F; exact A.lt
theorem own_Ar.small {a : Addr} {ty : FieldType} {N : Nat} {f : Nat → Value} (F : own_Ar Z h a ty N f) : N < 2 ^ 31 := by obtain ⟨c, -, -, q, -⟩ := F; exact q
theorem own_Ar.ext {h' : Heap} {a : Addr} {ty : FieldType} {N : Nat} {f : Nat → Value} (F : own_Ar Z h a ty N f) (E : Ext h h') : own_Ar Z h' a ty N f := by obtain ⟨c, A, r⟩ := F; exact ⟨c, A.ext E, r⟩
theorem own_Ar.other {h' : Heap} {a b : Addr} {sl : Nat} {v : Value} {ty : FieldType} {N : Nat} {f : Nat → Value} (F : own_Ar Z h b ty N f) (W : Wr h h' a sl v) (q : b ≠ a) : own_Ar Z h' b ty N f := by obtain ⟨c, A, r⟩ := F; exact ⟨c, A.other W q, r⟩
theorem own_Ar.keep {h' : Heap} {a : Addr} {ws : List Addr} {ty : FieldType} {N : Nat} {f : Nat → Value} (F : own_Ar Z h a ty N f) (K : Keep h h' ws) (q : a ∉ ws) : own_Ar Z h' a ty N f := by obtain ⟨c, A, r⟩ := F; exact ⟨c, ⟨K.2.1 a c A.1 q, A.2⟩, r⟩
theorem own_Ar.fn {a : Addr} {ty : FieldType} {N : Nat} {f g : Nat → Value} (F : own_Ar Z h a ty N f) (q : ∀ j, j < N → f j = g j) : own_Ar Z h a ty N g := by obtain ⟨c, A, r1, r2, r3⟩ := F; exact ⟨c, A, r1, r2, fun j hj => by rw [r3 j hj, q j hj]⟩
theorem own_Ar.store {h' : Heap} {a : Addr} {c : Cell} {ty : FieldType} {N j : Nat} {f : Nat → Value} {v : Value} (A : Arr Z h a c ty) (r1 : c.slots.size = N) (r2 : N < 2 ^ 31) (r3 : ∀ j, j < N → c.slots[j]? = some (f j)) (W : Wr h h' a j v) : own_Ar Z h' a ty N (own_set f j v) := by
  refine ⟨_, A.same W, by rw [sz_set]; exact r1, r2, fun i hi => ?_⟩
  by_cases e : i = j
  · subst e; rw [own_set_same]; simp [Cell.setSlot, r1, hi]
  · rw [own_set_ne _ _ e, ← r3 i hi]; exact Array.getElem?_setIfInBounds_ne (fun q => e q.symm)
theorem own_Ar.new {a : Addr} {ty : FieldType} {kc : ClassId} {z : Int32} (A : Arr Z h a (newA kc ty z) ty) (q : ¬ z < 0) : own_Ar Z h a ty z.toNatClampNeg (fun _ => defaultValue ty) :=
  ⟨_, A, sz_new _ _ _, (back32 q).2, fun j hj => by simp [newA, hj]⟩
theorem own_inb {N : Nat} {j : Int32} {i : Nat} (hj : j.toInt = i) (hi : i < N) : ¬ (j < 0 ∨ N ≤ j.toNatClampNeg) ∧ j.toNatClampNeg = i := by
  have q : j.toNatClampNeg = i := by simp only [Int32.toNatClampNeg, hj]; omega
  refine ⟨?_, q⟩
  rw [q]; simp only [Int32.lt_iff_toInt_lt, hj, Int32.reduceToInt]; omega
def own_Ov (Z : State) (h : Heap) (a : Addr) (C : String) : Prop := ∃ cell : Cell, h[a]? = some cell ∧ Ovr Z cell.cls C
theorem own_Ov.ext {h' : Heap} {a : Addr} {C : String} (F : own_Ov Z h a C) (E : Ext h h') : own_Ov Z h' a C := by obtain ⟨c, h1, h2⟩ := F; exact ⟨c, E.2 _ _ h1, h2⟩
theorem own_Ov.wr {h' : Heap} {a b : Addr} {sl : Nat} {v : Value} {C : String} (F : own_Ov Z h a C) (W : Wr h h' b sl v) : own_Ov Z h' a C := by obtain ⟨c, h1, h2⟩ := F; obtain ⟨c', e1, e2, -⟩ := wr_at W h1; exact ⟨c', e1, by rw [e2]; exact h2⟩
theorem own_Ov.keep {h' : Heap} {a : Addr} {ws : List Addr} {C : String} (F : own_Ov Z h a C) (K : Keep h h' ws) : own_Ov Z h' a C := by obtain ⟨c, h1, h2⟩ := F; obtain ⟨c', e1, e2, -⟩ := K.2.2 _ _ h1; exact ⟨c', e1, by rw [e2]; exact h2⟩
theorem own_sto {a y : Addr} {ty : FieldType} {N : Nat} {f : Nat → Value} {C : String} (F : own_Ar Z h a ty N f) (V : own_Ov Z h a C) (I : Ins Z h y C true) : Sto Z h a (.ref y) := by
  obtain ⟨c, A, -⟩ := F; obtain ⟨c', h1, h2⟩ := V; cases A.1.symm.trans h1; exact Sto.of A h2 I
theorem own_alen (X : Stand p l e R s m args below meth c T locs cells slots) (hx : p.tables.exec = Jvm.exec) (hby : c.code = code) (hZ : Z.Warmed39 s.vm) (eT : T.heap = h) {a : Addr} {ty : FieldType} {N : Nat} {f : Nat → Value} (F : own_Ar Z h a ty N f) (hd : decode code pc = .ok (.arraylength, 1)) (h2 : own_G p e below s Q k n (T.setTop (mkF m (pc + 1) Ls (.int N.toInt32 :: st)))) : own_G p e below s Q k n (T.setTop (mkF m pc Ls (.ref a :: st))) := by
  obtain ⟨cl, A, r1, r2, r3⟩ := F
  refine own_st (fun _ => X.arraylength hx (by rw [eT]; exact A.1) (State.isArrayOf_alike hZ.alike A.2.1) (g := mkF m pc Ls (.ref a :: st)) rfl rfl (hb hby hd) _) ?_
  rw [r1]; exact h2
theorem own_iaload (X : Stand p l e R s m args below meth c T locs cells slots) (hx : p.tables.exec = Jvm.exec) (hby : c.code = code) (hZ : Z.Warmed39 s.vm) (eT : T.heap = h) {a : Addr} {N : Nat} {f : Nat → Value} (F : own_Ar Z h a .int N f) {j : Int32} {i : Nat} (hj : j.toInt = i) (hi : i < N) (hd : decode code pc = .ok (.iaload, 1)) (h2 : own_G p e below s Q k n (T.setTop (mkF m (pc + 1) Ls (f i :: st)))) : own_G p e below s Q k n (T.setTop (mkF m pc Ls (.int j :: .ref a :: st))) := by
  obtain ⟨cl, A, r1, r2, r3⟩ := F
  obtain ⟨q1, q2⟩ := own_inb hj hi
  exact own_st (fun _ => X.iaload hx (v := f i) (by rw [eT]; exact A.1) (State.isArrayOf_alike hZ.alike A.2.1) A.2.2 (j := j) (by rw [r1]; exact q1) (by rw [q2]; exact r3 i hi) (g := mkF m pc Ls (.int j :: .ref a :: st)) rfl rfl (hb hby hd) _) h2
theorem own_laload (X : Stand p l e R s m args below meth c T locs cells slots) (hx : p.tables.exec = Jvm.exec) (hby : c.code = code) (hZ : Z.Warmed39 s.vm) (eT : T.heap = h) {a : Addr} {N : Nat} {f : Nat → Value} (F : own_Ar Z h a .long N f) {j : Int32} {i : Nat} (hj : j.toInt = i) (hi : i < N) (hd : decode code pc = .ok (.laload, 1)) (h2 : own_G p e below s Q k n (T.setTop (mkF m (pc + 1) Ls (f i :: st)))) : own_G p e below s Q k n (T.setTop (mkF m pc Ls (.int j :: .ref a :: st))) := by
  obtain ⟨cl, A, r1, r2, r3⟩ := F
  obtain ⟨q1, q2⟩ := own_inb hj hi
  exact own_st (fun _ => X.laload hx (v := f i) (by rw [eT]; exact A.1) (State.isArrayOf_alike hZ.alike A.2.1) A.2.2 (j := j) (by rw [r1]; exact q1) (by rw [q2]; exact r3 i hi) (g := mkF m pc Ls (.int j :: .ref a :: st)) rfl rfl (hb hby hd) _) h2
theorem own_baload (X : Stand p l e R s m args below meth c T locs cells slots) (hx : p.tables.exec = Jvm.exec) (hby : c.code = code) (hZ : Z.Warmed39 s.vm) (eT : T.heap = h) {a : Addr} {N : Nat} {f : Nat → Value} (F : own_Ar Z h a .byte N f) {j : Int32} {i : Nat} (hj : j.toInt = i) (hi : i < N) (hd : decode code pc = .ok (.baload, 1)) (h2 : own_G p e below s Q k n (T.setTop (mkF m (pc + 1) Ls (f i :: st)))) : own_G p e below s Q k n (T.setTop (mkF m pc Ls (.int j :: .ref a :: st))) := by
  obtain ⟨cl, A, r1, r2, r3⟩ := F
  obtain ⟨q1, q2⟩ := own_inb hj hi
  exact own_st (fun _ => X.baloadBytes hx (v := f i) (by rw [eT]; exact A.1) (State.isArrayOf_alike hZ.alike A.2.1) A.2.2 (j := j) (by rw [r1]; exact q1) (by rw [q2]; exact r3 i hi) (g := mkF m pc Ls (.int j :: .ref a :: st)) rfl rfl (hb hby hd) _) h2
theorem own_caload (X : Stand p l e R s m args below meth c T locs cells slots) (hx : p.tables.exec = Jvm.exec) (hby : c.code = code) (hZ : Z.Warmed39 s.vm) (eT : T.heap = h) {a : Addr} {N : Nat} {f : Nat → Value} (F : own_Ar Z h a .char N f) {j : Int32} {i : Nat} (hj : j.toInt = i) (hi : i < N) (hd : decode code pc = .ok (.caload, 1)) (h2 : own_G p e below s Q k n (T.setTop (mkF m (pc + 1) Ls (f i :: st)))) : own_G p e below s Q k n (T.setTop (mkF m pc Ls (.int j :: .ref a :: st))) := by
  obtain ⟨cl, A, r1, r2, r3⟩ := F
  obtain ⟨q1, q2⟩ := own_inb hj hi
  exact own_st (fun _ => X.caload hx (v := f i) (by rw [eT]; exact A.1) (State.isArrayOf_alike hZ.alike A.2.1) A.2.2 (j := j) (by rw [r1]; exact q1) (by rw [q2]; exact r3 i hi) (g := mkF m pc Ls (.int j :: .ref a :: st)) rfl rfl (hb hby hd) _) h2
theorem own_aaload (X : Stand p l e R s m args below meth c T locs cells slots) (hx : p.tables.exec = Jvm.exec) (hby : c.code = code) (hZ : Z.Warmed39 s.vm) (eT : T.heap = h) {a : Addr} {ty : FieldType} {N : Nat} {f : Nat → Value} (F : own_Ar Z h a ty N f) (hty : ty.isReference = true) {j : Int32} {i : Nat} (hj : j.toInt = i) (hi : i < N) (hd : decode code pc = .ok (.aaload, 1)) (h2 : own_G p e below s Q k n (T.setTop (mkF m (pc + 1) Ls (f i :: st)))) : own_G p e below s Q k n (T.setTop (mkF m pc Ls (.int j :: .ref a :: st))) := by
  obtain ⟨cl, A, r1, r2, r3⟩ := F
  obtain ⟨q1, q2⟩ := own_inb hj hi
  exact own_st (fun _ => X.aaload hx (v := f i) (by rw [eT]; exact A.1) (State.isArrayOf_alike hZ.alike A.2.1) hty A.2.2 (j := j) (by rw [r1]; exact q1) (by rw [q2]; exact r3 i hi) (g := mkF m pc Ls (.int j :: .ref a :: st)) rfl rfl (hb hby hd) _) h2
theorem own_iastore (X : Stand p l e R s m args below meth c T locs cells slots) (hx : p.tables.exec = Jvm.exec) (hby : c.code = code) (hZ : Z.Warmed39 s.vm) (eT : T.heap = h) {a : Addr} {N : Nat} {f : Nat → Value} (F : own_Ar Z h a .int N f) {j : Int32} {i : Nat} (hj : j.toInt = i) (hi : i < N) {x : Int32} (hd : decode code pc = .ok (.iastore, 1)) : ∃ T' h', Stand p l e R s m args below meth c T' (locs ++ [⟨a, i⟩]) cells slots ∧ T'.heap = h' ∧ Wr h h' a i (.int x) ∧ own_Ar Z h' a .int N (own_set f i (.int x)) ∧ ∀ target, Steps p.tables e below (T'.setTop (mkF m (pc + 1) Ls st)) target → Steps p.tables e below (T.setTop (mkF m pc Ls (.int x :: .int j :: .ref a :: st))) target := by
  obtain ⟨cl, A, r1, r2, r3⟩ := F
  obtain ⟨q1, q2⟩ := own_inb hj hi
  obtain ⟨T', h', X', e', W, stp⟩ := stI X hx hZ eT A (j := j) (by rw [r1]; exact q1) (g := mkF m pc Ls (.int x :: .int j :: .ref a :: st)) rfl rfl (hb hby hd)
  rw [q2] at X' W
  exact ⟨T', h', X', e', W, own_Ar.store A r1 r2 r3 W, stp⟩
theorem own_lastore (X : Stand p l e R s m args below meth c T locs cells slots) (hx : p.tables.exec = Jvm.exec) (hby : c.code = code) (hZ : Z.Warmed39 s.vm) (eT : T.heap = h) {a : Addr} {N : Nat} {f : Nat → Value} (F : own_Ar Z h a .long N f) {j : Int32} {i : Nat} (hj : j.toInt = i) (hi : i < N) {x : Int64} (hd : decode code pc = .ok (.lastore, 1)) : ∃ T' h', Stand p l e R s m args below meth c T' (locs ++ [⟨a, i⟩]) cells slots ∧ T'.heap = h' ∧ Wr h h' a i (.long x) ∧ own_Ar Z h' a .long N (own_set f i (.long x)) ∧ ∀ target, Steps p.tables e below (T'.setTop (mkF m (pc + 1) Ls st)) target → Steps p.tables e below (T.setTop (mkF m pc Ls (.long x :: .int j :: .ref a :: st))) target := by
  obtain ⟨cl, A, r1, r2, r3⟩ := F
  obtain ⟨q1, q2⟩ := own_inb hj hi
  obtain ⟨T', h', X', e', W, stp⟩ := stJ X hx hZ eT A (j := j) (by rw [r1]; exact q1) (g := mkF m pc Ls (.long x :: .int j :: .ref a :: st)) rfl rfl (hb hby hd)
  rw [q2] at X' W
  exact ⟨T', h', X', e', W, own_Ar.store A r1 r2 r3 W, stp⟩
theorem own_bastore (X : Stand p l e R s m args below meth c T locs cells slots) (hx : p.tables.exec = Jvm.exec) (hby : c.code = code) (hZ : Z.Warmed39 s.vm) (eT : T.heap = h) {a : Addr} {N : Nat} {f : Nat → Value} (F : own_Ar Z h a .byte N f) {j : Int32} {i : Nat} (hj : j.toInt = i) (hi : i < N) {x : Int32} (hd : decode code pc = .ok (.bastore, 1)) : ∃ T' h', Stand p l e R s m args below meth c T' (locs ++ [⟨a, i⟩]) cells slots ∧ T'.heap = h' ∧ Wr h h' a i (.int (nar .byte x)) ∧ own_Ar Z h' a .byte N (own_set f i (.int (nar .byte x))) ∧ ∀ target, Steps p.tables e below (T'.setTop (mkF m (pc + 1) Ls st)) target → Steps p.tables e below (T.setTop (mkF m pc Ls (.int x :: .int j :: .ref a :: st))) target := by
  obtain ⟨cl, A, r1, r2, r3⟩ := F
  obtain ⟨q1, q2⟩ := own_inb hj hi
  obtain ⟨T', h', X', e', W, stp⟩ := stB X hx hZ eT A (j := j) (by rw [r1]; exact q1) (g := mkF m pc Ls (.int x :: .int j :: .ref a :: st)) rfl rfl (hb hby hd)
  rw [q2] at X' W
  exact ⟨T', h', X', e', W, own_Ar.store A r1 r2 r3 W, stp⟩
theorem own_castore (X : Stand p l e R s m args below meth c T locs cells slots) (hx : p.tables.exec = Jvm.exec) (hby : c.code = code) (hZ : Z.Warmed39 s.vm) (eT : T.heap = h) {a : Addr} {N : Nat} {f : Nat → Value} (F : own_Ar Z h a .char N f) {j : Int32} {i : Nat} (hj : j.toInt = i) (hi : i < N) {x : Int32} (hd : decode code pc = .ok (.castore, 1)) : ∃ T' h', Stand p l e R s m args below meth c T' (locs ++ [⟨a, i⟩]) cells slots ∧ T'.heap = h' ∧ Wr h h' a i (.int (nar .char x)) ∧ own_Ar Z h' a .char N (own_set f i (.int (nar .char x))) ∧ ∀ target, Steps p.tables e below (T'.setTop (mkF m (pc + 1) Ls st)) target → Steps p.tables e below (T.setTop (mkF m pc Ls (.int x :: .int j :: .ref a :: st))) target := by
  obtain ⟨cl, A, r1, r2, r3⟩ := F
  obtain ⟨q1, q2⟩ := own_inb hj hi
  obtain ⟨T', h', X', e', W, stp⟩ := stC X hx hZ eT A (j := j) (by rw [r1]; exact q1) (g := mkF m pc Ls (.int x :: .int j :: .ref a :: st)) rfl rfl (hb hby hd)
  rw [q2] at X' W
  exact ⟨T', h', X', e', W, own_Ar.store A r1 r2 r3 W, stp⟩
theorem own_dastore (X : Stand p l e R s m args below meth c T locs cells slots) (hx : p.tables.exec = Jvm.exec) (hby : c.code = code) (hZ : Z.Warmed39 s.vm) (eT : T.heap = h) {a : Addr} {N : Nat} {f : Nat → Value} (F : own_Ar Z h a .double N f) {j : Int32} {i : Nat} (hj : j.toInt = i) (hi : i < N) {x : UInt64} (hd : decode code pc = .ok (.dastore, 1)) : ∃ T' h', Stand p l e R s m args below meth c T' (locs ++ [⟨a, i⟩]) cells slots ∧ T'.heap = h' ∧ Wr h h' a i (.double x) ∧ own_Ar Z h' a .double N (own_set f i (.double x)) ∧ ∀ target, Steps p.tables e below (T'.setTop (mkF m (pc + 1) Ls st)) target → Steps p.tables e below (T.setTop (mkF m pc Ls (.double x :: .int j :: .ref a :: st))) target := by
  obtain ⟨cl, A, r1, r2, r3⟩ := F
  obtain ⟨q1, q2⟩ := own_inb hj hi
  obtain ⟨T', h', X', e', W, stp⟩ := stD X hx hZ eT A (j := j) (by rw [r1]; exact q1) (g := mkF m pc Ls (.double x :: .int j :: .ref a :: st)) rfl rfl (hb hby hd)
  rw [q2] at X' W
  exact ⟨T', h', X', e', W, own_Ar.store A r1 r2 r3 W, stp⟩
theorem own_aastore (X : Stand p l e R s m args below meth c T locs cells slots) (hx : p.tables.exec = Jvm.exec) (hby : c.code = code) (hZ : Z.Warmed39 s.vm) (eT : T.heap = h) {a : Addr} {ty : FieldType} {N : Nat} {f : Nat → Value} (F : own_Ar Z h a ty N f) (hty : ty.isReference = true) {j : Int32} {i : Nat} (hj : j.toInt = i) (hi : i < N) {v : Value} (S : Sto Z h a v) (hd : decode code pc = .ok (.aastore, 1)) : ∃ T' h', Stand p l e R s m args below meth c T' (locs ++ [⟨a, i⟩]) cells slots ∧ T'.heap = h' ∧ Wr h h' a i v ∧ own_Ar Z h' a ty N (own_set f i v) ∧ ∀ target, Steps p.tables e below (T'.setTop (mkF m (pc + 1) Ls st)) target → Steps p.tables e below (T.setTop (mkF m pc Ls (v :: .int j :: .ref a :: st))) target := by
  obtain ⟨cl, A, r1, r2, r3⟩ := F
  obtain ⟨q1, q2⟩ := own_inb hj hi
  obtain ⟨T', h', X', e', W, stp⟩ := stR X hx hZ eT A (j := j) (by rw [r1]; exact q1) hty S (g := mkF m pc Ls (v :: .int j :: .ref a :: st)) rfl rfl (hb hby hd)
  rw [q2] at X' W
  exact ⟨T', h', X', e', W, own_Ar.store A r1 r2 r3 W, stp⟩
end OwnSteps
theorem own_narR {C : String} {v : Value} (h : v.isRef = true) : narrow (.object C) v = v := by rcases ref_cases h with rfl | ⟨z, rfl⟩ <;> rfl
theorem own_fitR {C : String} {v : Value} (h : v.isRef = true) : fits (.object C) v = true := by rcases ref_cases h with rfl | ⟨z, rfl⟩ <;> rfl
theorem own_irr {x : Int32} : ¬ x < x := by rw [Int32.lt_iff_toInt_lt]; omega
theorem own_irrL {x : Int64} : ¬ x < x := by rw [Int64.lt_iff_toInt_lt]; omega
theorem own_w0 {Z : State} {a0 : Array Value} (hw : ∀ d ∈ tables_1, d.before a0 Z = true) : (Jvm.Cond.methodLink "com/example/gazetteer/gazetteer/partitions/OperatorBoundsBelowPinLaw" (29 : Nat) ({ cls := "com/example/gazetteer/gazetteer/partitions/OperatorBoundsBelowPinLaw", name := "pick", desc := "(I)Lcom/example/gazetteer/gazetteer/partitions/Condition$Operator;" } : Jvm.MethodName)).before a0 Z = true := hw _ (List.mem_of_getElem? (i := 0) rfl)
theorem own_w1 {Z : State} {a0 : Array Value} (hw : ∀ d ∈ tables_1, d.before a0 Z = true) : (Jvm.Cond.static ({ cls := "com/example/gazetteer/gazetteer/partitions/OperatorBoundsBelowPinLaw", name := "pick", desc := "(I)Lcom/example/gazetteer/gazetteer/partitions/Condition$Operator;" } : Jvm.MethodName)).before a0 Z = true := hw _ (List.mem_of_getElem? (i := 1) rfl)
theorem own_w2 {Z : State} {a0 : Array Value} (hw : ∀ d ∈ tables_1, d.before a0 Z = true) : (Jvm.Cond.initialized "com/example/gazetteer/gazetteer/partitions/OperatorBoundsBelowPinLaw").before a0 Z = true := hw _ (List.mem_of_getElem? (i := 2) rfl)
theorem own_w3 {Z : State} {a0 : Array Value} (hw : ∀ d ∈ tables_1, d.before a0 Z = true) : (Jvm.Cond.code ({ cls := "com/example/gazetteer/gazetteer/partitions/OperatorBoundsBelowPinLaw", name := "pick", desc := "(I)Lcom/example/gazetteer/gazetteer/partitions/Condition$Operator;" } : Jvm.MethodName) method_2_code (2 : Nat) (Option.some (Jvm.ClassFile.FieldType.object "com/example/gazetteer/gazetteer/partitions/Condition$Operator"))).before a0 Z = true := hw _ (List.mem_of_getElem? (i := 3) rfl)
theorem own_w4 {Z : State} {a0 : Array Value} (hw : ∀ d ∈ tables_1, d.before a0 Z = true) : (Jvm.Cond.constant "com/example/gazetteer/gazetteer/partitions/OperatorBoundsBelowPinLaw" (7 : Nat) (2147483647 : Int32)).before a0 Z = true := hw _ (List.mem_of_getElem? (i := 4) rfl)
theorem own_w5 {Z : State} {a0 : Array Value} (hw : ∀ d ∈ tables_1, d.before a0 Z = true) : (Jvm.Cond.fieldLink "com/example/gazetteer/gazetteer/partitions/OperatorBoundsBelowPinLaw" (8 : Nat) "com/example/gazetteer/gazetteer/partitions/Condition$Operator" "EQUAL" "Lcom/example/gazetteer/gazetteer/partitions/Condition$Operator;").before a0 Z = true := hw _ (List.mem_of_getElem? (i := 5) rfl)
theorem own_w6 {Z : State} {a0 : Array Value} (hw : ∀ d ∈ tables_1, d.before a0 Z = true) : (Jvm.Cond.initialized "com/example/gazetteer/gazetteer/partitions/Condition$Operator").before a0 Z = true := hw _ (List.mem_of_getElem? (i := 6) rfl)
theorem own_w7 {Z : State} {a0 : Array Value} (hw : ∀ d ∈ tables_1, d.before a0 Z = true) : (Jvm.Cond.laysStatic "com/example/gazetteer/gazetteer/partitions/Condition$Operator" "EQUAL" "Lcom/example/gazetteer/gazetteer/partitions/Condition$Operator;").before a0 Z = true := hw _ (List.mem_of_getElem? (i := 7) rfl)
theorem own_w8 {Z : State} {a0 : Array Value} (hw : ∀ d ∈ tables_1, d.before a0 Z = true) : (Jvm.Cond.constant "com/example/gazetteer/gazetteer/partitions/OperatorBoundsBelowPinLaw" (37 : Nat) (-2147483648 : Int32)).before a0 Z = true := hw _ (List.mem_of_getElem? (i := 8) rfl)
theorem own_w9 {Z : State} {a0 : Array Value} (hw : ∀ d ∈ tables_1, d.before a0 Z = true) : (Jvm.Cond.methodLink "com/example/gazetteer/gazetteer/partitions/OperatorBoundsBelowPinLaw" (38 : Nat) ({ cls := "com/example/gazetteer/gazetteer/partitions/Condition$Operator", name := "boundsBelow", desc := "()Z" } : Jvm.MethodName)).before a0 Z = true := hw _ (List.mem_of_getElem? (i := 9) rfl)
theorem own_w10 {Z : State} {a0 : Array Value} (hw : ∀ d ∈ tables_1, d.before a0 Z = true) : (Jvm.Cond.declares ({ cls := "com/example/gazetteer/gazetteer/partitions/Condition$Operator", name := "boundsBelow", desc := "()Z" } : Jvm.MethodName)).before a0 Z = true := hw _ (List.mem_of_getElem? (i := 10) rfl)
theorem own_w11 {Z : State} {a0 : Array Value} (hw : ∀ d ∈ tables_1, d.before a0 Z = true) : (Jvm.Cond.instanceMethod ({ cls := "com/example/gazetteer/gazetteer/partitions/Condition$Operator", name := "boundsBelow", desc := "()Z" } : Jvm.MethodName)).before a0 Z = true := hw _ (List.mem_of_getElem? (i := 11) rfl)
theorem own_w12 {Z : State} {a0 : Array Value} (hw : ∀ d ∈ tables_1, d.before a0 Z = true) : (Jvm.Cond.selects "com/example/gazetteer/gazetteer/partitions/Condition$Operator" ({ cls := "com/example/gazetteer/gazetteer/partitions/Condition$Operator", name := "boundsBelow", desc := "()Z" } : Jvm.MethodName) ({ cls := "com/example/gazetteer/gazetteer/partitions/Condition$Operator", name := "boundsBelow", desc := "()Z" } : Jvm.MethodName)).before a0 Z = true := hw _ (List.mem_of_getElem? (i := 12) rfl)
theorem own_w13 {Z : State} {a0 : Array Value} (hw : ∀ d ∈ tables_1, d.before a0 Z = true) : (Jvm.Cond.code ({ cls := "com/example/gazetteer/gazetteer/partitions/Condition$Operator", name := "boundsBelow", desc := "()Z" } : Jvm.MethodName) prog_69_method_5_code (1 : Nat) (Option.some Jvm.ClassFile.FieldType.boolean)).before a0 Z = true := hw _ (List.mem_of_getElem? (i := 13) rfl)
theorem own_w14 {Z : State} {a0 : Array Value} (hw : ∀ d ∈ tables_1, d.before a0 Z = true) : (Jvm.Cond.fieldLink "com/example/gazetteer/gazetteer/partitions/Condition$Operator" (3 : Nat) "com/example/gazetteer/gazetteer/partitions/Condition$Operator" "EQUAL" "Lcom/example/gazetteer/gazetteer/partitions/Condition$Operator;").before a0 Z = true := hw _ (List.mem_of_getElem? (i := 14) rfl)
theorem own_w15 {Z : State} {a0 : Array Value} (hw : ∀ d ∈ tables_1, d.before a0 Z = true) : (Jvm.Cond.methodLink "com/example/gazetteer/gazetteer/partitions/OperatorBoundsBelowPinLaw" (42 : Nat) ({ cls := "com/example/gazetteer/gazetteer/partitions/Condition$Operator", name := "holds", desc := "(I)Z" } : Jvm.MethodName)).before a0 Z = true := hw _ (List.mem_of_getElem? (i := 15) rfl)
theorem own_w16 {Z : State} {a0 : Array Value} (hw : ∀ d ∈ tables_1, d.before a0 Z = true) : (Jvm.Cond.declares ({ cls := "com/example/gazetteer/gazetteer/partitions/Condition$Operator", name := "holds", desc := "(I)Z" } : Jvm.MethodName)).before a0 Z = true := hw _ (List.mem_of_getElem? (i := 16) rfl)
theorem own_w17 {Z : State} {a0 : Array Value} (hw : ∀ d ∈ tables_1, d.before a0 Z = true) : (Jvm.Cond.instanceMethod ({ cls := "com/example/gazetteer/gazetteer/partitions/Condition$Operator", name := "holds", desc := "(I)Z" } : Jvm.MethodName)).before a0 Z = true := hw _ (List.mem_of_getElem? (i := 17) rfl)
theorem own_w18 {Z : State} {a0 : Array Value} (hw : ∀ d ∈ tables_1, d.before a0 Z = true) : (Jvm.Cond.selects "com/example/gazetteer/gazetteer/partitions/Condition$Operator" ({ cls := "com/example/gazetteer/gazetteer/partitions/Condition$Operator", name := "holds", desc := "(I)Z" } : Jvm.MethodName) ({ cls := "com/example/gazetteer/gazetteer/partitions/Condition$Operator", name := "holds", desc := "(I)Z" } : Jvm.MethodName)).before a0 Z = true := hw _ (List.mem_of_getElem? (i := 18) rfl)
theorem own_w19 {Z : State} {a0 : Array Value} (hw : ∀ d ∈ tables_1, d.before a0 Z = true) : (Jvm.Cond.code ({ cls := "com/example/gazetteer/gazetteer/partitions/Condition$Operator", name := "holds", desc := "(I)Z" } : Jvm.MethodName) prog_69_method_4_code (2 : Nat) (Option.some Jvm.ClassFile.FieldType.boolean)).before a0 Z = true := hw _ (List.mem_of_getElem? (i := 19) rfl)
theorem own_w20 {Z : State} {a0 : Array Value} (hw : ∀ d ∈ tables_1, d.before a0 Z = true) : (Jvm.Cond.methodLink "com/example/gazetteer/gazetteer/partitions/Condition$Operator" (41 : Nat) ({ cls := "com/example/gazetteer/gazetteer/partitions/Condition$Operator", name := "ordinal", desc := "()I" } : Jvm.MethodName)).before a0 Z = true := hw _ (List.mem_of_getElem? (i := 20) rfl)
theorem own_w21 {Z : State} {a0 : Array Value} (hw : ∀ d ∈ tables_1, d.before a0 Z = true) : (Jvm.Cond.sameMethod "com/example/gazetteer/gazetteer/partitions/Condition$Operator" "java/lang/Enum" "ordinal" "()I").before a0 Z = true := hw _ (List.mem_of_getElem? (i := 21) rfl)
theorem own_w22 {Z : State} {a0 : Array Value} (hw : ∀ d ∈ tables_1, d.before a0 Z = true) : (Jvm.Cond.declares ({ cls := "java/lang/Enum", name := "ordinal", desc := "()I" } : Jvm.MethodName)).before a0 Z = true := hw _ (List.mem_of_getElem? (i := 22) rfl)
theorem own_w23 {Z : State} {a0 : Array Value} (hw : ∀ d ∈ tables_1, d.before a0 Z = true) : (Jvm.Cond.instanceMethod ({ cls := "java/lang/Enum", name := "ordinal", desc := "()I" } : Jvm.MethodName)).before a0 Z = true := hw _ (List.mem_of_getElem? (i := 23) rfl)
theorem own_w24 {Z : State} {a0 : Array Value} (hw : ∀ d ∈ tables_1, d.before a0 Z = true) : (Jvm.Cond.selects "com/example/gazetteer/gazetteer/partitions/Condition$Operator" ({ cls := "com/example/gazetteer/gazetteer/partitions/Condition$Operator", name := "ordinal", desc := "()I" } : Jvm.MethodName) ({ cls := "java/lang/Enum", name := "ordinal", desc := "()I" } : Jvm.MethodName)).before a0 Z = true := hw _ (List.mem_of_getElem? (i := 24) rfl)
theorem own_w25 {Z : State} {a0 : Array Value} (hw : ∀ d ∈ tables_1, d.before a0 Z = true) : (Jvm.Cond.initialized "java/lang/Enum").before a0 Z = true := hw _ (List.mem_of_getElem? (i := 25) rfl)
theorem own_w26 {Z : State} {a0 : Array Value} (hw : ∀ d ∈ tables_1, d.before a0 Z = true) : (Jvm.Cond.code ({ cls := "java/lang/Enum", name := "ordinal", desc := "()I" } : Jvm.MethodName) jdk_37_method_2_code (1 : Nat) (Option.some Jvm.ClassFile.FieldType.int)).before a0 Z = true := hw _ (List.mem_of_getElem? (i := 26) rfl)
theorem own_w27 {Z : State} {a0 : Array Value} (hw : ∀ d ∈ tables_1, d.before a0 Z = true) : (Jvm.Cond.fieldLink "java/lang/Enum" (7 : Nat) "java/lang/Enum" "ordinal" "I").before a0 Z = true := hw _ (List.mem_of_getElem? (i := 27) rfl)
theorem own_w29 {Z : State} {a0 : Array Value} (hw : ∀ d ∈ tables_1, d.before a0 Z = true) : (Jvm.Cond.fieldLink "com/example/gazetteer/gazetteer/partitions/OperatorBoundsBelowPinLaw" (17 : Nat) "com/example/gazetteer/gazetteer/partitions/Condition$Operator" "LESS" "Lcom/example/gazetteer/gazetteer/partitions/Condition$Operator;").before a0 Z = true := hw _ (List.mem_of_getElem? (i := 29) rfl)
theorem own_w30 {Z : State} {a0 : Array Value} (hw : ∀ d ∈ tables_1, d.before a0 Z = true) : (Jvm.Cond.laysStatic "com/example/gazetteer/gazetteer/partitions/Condition$Operator" "LESS" "Lcom/example/gazetteer/gazetteer/partitions/Condition$Operator;").before a0 Z = true := hw _ (List.mem_of_getElem? (i := 30) rfl)
theorem own_w31 {Z : State} {a0 : Array Value} (hw : ∀ d ∈ tables_1, d.before a0 Z = true) : (Jvm.Cond.fieldLink "com/example/gazetteer/gazetteer/partitions/Condition$Operator" (16 : Nat) "com/example/gazetteer/gazetteer/partitions/Condition$Operator" "GREATER" "Lcom/example/gazetteer/gazetteer/partitions/Condition$Operator;").before a0 Z = true := hw _ (List.mem_of_getElem? (i := 31) rfl)
theorem own_w32 {Z : State} {a0 : Array Value} (hw : ∀ d ∈ tables_1, d.before a0 Z = true) : (Jvm.Cond.laysStatic "com/example/gazetteer/gazetteer/partitions/Condition$Operator" "GREATER" "Lcom/example/gazetteer/gazetteer/partitions/Condition$Operator;").before a0 Z = true := hw _ (List.mem_of_getElem? (i := 32) rfl)
theorem own_w33 {Z : State} {a0 : Array Value} (hw : ∀ d ∈ tables_1, d.before a0 Z = true) : (Jvm.Cond.fieldLink "com/example/gazetteer/gazetteer/partitions/Condition$Operator" (19 : Nat) "com/example/gazetteer/gazetteer/partitions/Condition$Operator" "GREATER_OR_EQUAL" "Lcom/example/gazetteer/gazetteer/partitions/Condition$Operator;").before a0 Z = true := hw _ (List.mem_of_getElem? (i := 33) rfl)
theorem own_w34 {Z : State} {a0 : Array Value} (hw : ∀ d ∈ tables_1, d.before a0 Z = true) : (Jvm.Cond.laysStatic "com/example/gazetteer/gazetteer/partitions/Condition$Operator" "GREATER_OR_EQUAL" "Lcom/example/gazetteer/gazetteer/partitions/Condition$Operator;").before a0 Z = true := hw _ (List.mem_of_getElem? (i := 34) rfl)
theorem own_w35 {Z : State} {a0 : Array Value} (hw : ∀ d ∈ tables_1, d.before a0 Z = true) : (Jvm.Cond.fieldLink "com/example/gazetteer/gazetteer/partitions/OperatorBoundsBelowPinLaw" (23 : Nat) "com/example/gazetteer/gazetteer/partitions/Condition$Operator" "GREATER" "Lcom/example/gazetteer/gazetteer/partitions/Condition$Operator;").before a0 Z = true := hw _ (List.mem_of_getElem? (i := 35) rfl)
theorem own_w36 {Z : State} {a0 : Array Value} (hw : ∀ d ∈ tables_1, d.before a0 Z = true) : (Jvm.Cond.fieldLink "com/example/gazetteer/gazetteer/partitions/OperatorBoundsBelowPinLaw" (14 : Nat) "com/example/gazetteer/gazetteer/partitions/Condition$Operator" "NOT_EQUAL" "Lcom/example/gazetteer/gazetteer/partitions/Condition$Operator;").before a0 Z = true := hw _ (List.mem_of_getElem? (i := 36) rfl)
theorem own_w37 {Z : State} {a0 : Array Value} (hw : ∀ d ∈ tables_1, d.before a0 Z = true) : (Jvm.Cond.laysStatic "com/example/gazetteer/gazetteer/partitions/Condition$Operator" "NOT_EQUAL" "Lcom/example/gazetteer/gazetteer/partitions/Condition$Operator;").before a0 Z = true := hw _ (List.mem_of_getElem? (i := 37) rfl)
theorem own_w38 {Z : State} {a0 : Array Value} (hw : ∀ d ∈ tables_1, d.before a0 Z = true) : (Jvm.Cond.fieldLink "com/example/gazetteer/gazetteer/partitions/OperatorBoundsBelowPinLaw" (26 : Nat) "com/example/gazetteer/gazetteer/partitions/Condition$Operator" "GREATER_OR_EQUAL" "Lcom/example/gazetteer/gazetteer/partitions/Condition$Operator;").before a0 Z = true := hw _ (List.mem_of_getElem? (i := 38) rfl)
theorem own_w39 {Z : State} {a0 : Array Value} (hw : ∀ d ∈ tables_1, d.before a0 Z = true) : (Jvm.Cond.fieldLink "com/example/gazetteer/gazetteer/partitions/OperatorBoundsBelowPinLaw" (20 : Nat) "com/example/gazetteer/gazetteer/partitions/Condition$Operator" "LESS_OR_EQUAL" "Lcom/example/gazetteer/gazetteer/partitions/Condition$Operator;").before a0 Z = true := hw _ (List.mem_of_getElem? (i := 39) rfl)
theorem own_w40 {Z : State} {a0 : Array Value} (hw : ∀ d ∈ tables_1, d.before a0 Z = true) : (Jvm.Cond.laysStatic "com/example/gazetteer/gazetteer/partitions/Condition$Operator" "LESS_OR_EQUAL" "Lcom/example/gazetteer/gazetteer/partitions/Condition$Operator;").before a0 Z = true := hw _ (List.mem_of_getElem? (i := 40) rfl)
theorem own_d1_0 : decode method_2_code 0 = .ok (.iload_n 0, 1) := by decide +kernel
theorem own_d1_1 : decode method_2_code 1 = .ok (.ldc 7, 2) := by decide +kernel
theorem own_d1_3 : decode method_2_code 3 = .ok (.iand, 1) := by decide +kernel
theorem own_d1_4 : decode method_2_code 4 = .ok (.bipush 6, 2) := by decide +kernel
theorem own_d1_6 : decode method_2_code 6 = .ok (.irem, 1) := by decide +kernel
theorem own_d1_7 : decode method_2_code 7 = .ok (.istore_n 1, 1) := by decide +kernel
theorem own_d1_8 : decode method_2_code 8 = .ok (.iload_n 1, 1) := by decide +kernel
theorem own_d1_9 : decode method_2_code 9 = .ok (.ifCond .ne 7, 3) := by decide +kernel
theorem own_d1_12 : decode method_2_code 12 = .ok (.getstatic 8, 3) := by decide +kernel
theorem own_d1_15 : decode method_2_code 15 = .ok (.areturn, 1) := by decide +kernel
theorem own_d1_16 : decode method_2_code 16 = .ok (.iload_n 1, 1) := by decide +kernel
theorem own_d1_17 : decode method_2_code 17 = .ok (.iconst 1, 1) := by decide +kernel
theorem own_d1_18 : decode method_2_code 18 = .ok (.if_icmp .ne 7, 3) := by decide +kernel
theorem own_d1_21 : decode method_2_code 21 = .ok (.getstatic 14, 3) := by decide +kernel
theorem own_d1_24 : decode method_2_code 24 = .ok (.areturn, 1) := by decide +kernel
theorem own_d1_25 : decode method_2_code 25 = .ok (.iload_n 1, 1) := by decide +kernel
theorem own_d1_26 : decode method_2_code 26 = .ok (.iconst 2, 1) := by decide +kernel
theorem own_d1_27 : decode method_2_code 27 = .ok (.if_icmp .ne 7, 3) := by decide +kernel
theorem own_d1_30 : decode method_2_code 30 = .ok (.getstatic 17, 3) := by decide +kernel
theorem own_d1_33 : decode method_2_code 33 = .ok (.areturn, 1) := by decide +kernel
theorem own_d1_34 : decode method_2_code 34 = .ok (.iload_n 1, 1) := by decide +kernel
theorem own_d1_35 : decode method_2_code 35 = .ok (.iconst 3, 1) := by decide +kernel
theorem own_d1_36 : decode method_2_code 36 = .ok (.if_icmp .ne 7, 3) := by decide +kernel
theorem own_d1_39 : decode method_2_code 39 = .ok (.getstatic 20, 3) := by decide +kernel
theorem own_d1_42 : decode method_2_code 42 = .ok (.areturn, 1) := by decide +kernel
theorem own_d1_43 : decode method_2_code 43 = .ok (.iload_n 1, 1) := by decide +kernel
theorem own_d1_44 : decode method_2_code 44 = .ok (.iconst 4, 1) := by decide +kernel
theorem own_d1_45 : decode method_2_code 45 = .ok (.if_icmp .ne 7, 3) := by decide +kernel
theorem own_d1_48 : decode method_2_code 48 = .ok (.getstatic 23, 3) := by decide +kernel
theorem own_d1_51 : decode method_2_code 51 = .ok (.areturn, 1) := by decide +kernel
theorem own_d1_52 : decode method_2_code 52 = .ok (.getstatic 26, 3) := by decide +kernel
theorem own_d1_55 : decode method_2_code 55 = .ok (.areturn, 1) := by decide +kernel
theorem own_d2_0 : decode prog_69_method_5_code 0 = .ok (.aload_n 0, 1) := by decide +kernel
theorem own_d2_1 : decode prog_69_method_5_code 1 = .ok (.getstatic 3, 3) := by decide +kernel
theorem own_d2_4 : decode prog_69_method_5_code 4 = .ok (.if_acmp .eq 17, 3) := by decide +kernel
theorem own_d2_7 : decode prog_69_method_5_code 7 = .ok (.aload_n 0, 1) := by decide +kernel
theorem own_d2_8 : decode prog_69_method_5_code 8 = .ok (.getstatic 16, 3) := by decide +kernel
theorem own_d2_11 : decode prog_69_method_5_code 11 = .ok (.if_acmp .eq 10, 3) := by decide +kernel
theorem own_d2_14 : decode prog_69_method_5_code 14 = .ok (.aload_n 0, 1) := by decide +kernel
theorem own_d2_15 : decode prog_69_method_5_code 15 = .ok (.getstatic 19, 3) := by decide +kernel
theorem own_d2_18 : decode prog_69_method_5_code 18 = .ok (.if_acmp .ne 7, 3) := by decide +kernel
theorem own_d2_21 : decode prog_69_method_5_code 21 = .ok (.iconst 1, 1) := by decide +kernel
theorem own_d2_22 : decode prog_69_method_5_code 22 = .ok (.goto 4, 3) := by decide +kernel
theorem own_d2_25 : decode prog_69_method_5_code 25 = .ok (.iconst 0, 1) := by decide +kernel
theorem own_d2_26 : decode prog_69_method_5_code 26 = .ok (.ireturn, 1) := by decide +kernel
theorem own_d3_0 : decode prog_69_method_4_code 0 = .ok (.aload_n 0, 1) := by decide +kernel
theorem own_d3_1 : decode prog_69_method_4_code 1 = .ok (.invokevirtual 41, 3) := by decide +kernel
theorem own_d3_4 : decode prog_69_method_4_code 4 = .ok (.tableswitch 40 0 5 #[50, 62, 74, 86, 98, 110], 40) := by decide +kernel
theorem own_d3_54 : decode prog_69_method_4_code 54 = .ok (.iload_n 1, 1) := by decide +kernel
theorem own_d3_55 : decode prog_69_method_4_code 55 = .ok (.ifCond .ne 7, 3) := by decide +kernel
theorem own_d3_58 : decode prog_69_method_4_code 58 = .ok (.iconst 1, 1) := by decide +kernel
theorem own_d3_59 : decode prog_69_method_4_code 59 = .ok (.goto 64, 3) := by decide +kernel
theorem own_d3_62 : decode prog_69_method_4_code 62 = .ok (.iconst 0, 1) := by decide +kernel
theorem own_d3_63 : decode prog_69_method_4_code 63 = .ok (.goto 60, 3) := by decide +kernel
theorem own_d3_66 : decode prog_69_method_4_code 66 = .ok (.iload_n 1, 1) := by decide +kernel
theorem own_d3_67 : decode prog_69_method_4_code 67 = .ok (.ifCond .eq 7, 3) := by decide +kernel
theorem own_d3_70 : decode prog_69_method_4_code 70 = .ok (.iconst 1, 1) := by decide +kernel
theorem own_d3_71 : decode prog_69_method_4_code 71 = .ok (.goto 52, 3) := by decide +kernel
theorem own_d3_74 : decode prog_69_method_4_code 74 = .ok (.iconst 0, 1) := by decide +kernel
theorem own_d3_75 : decode prog_69_method_4_code 75 = .ok (.goto 48, 3) := by decide +kernel
theorem own_d3_78 : decode prog_69_method_4_code 78 = .ok (.iload_n 1, 1) := by decide +kernel
theorem own_d3_79 : decode prog_69_method_4_code 79 = .ok (.ifCond .ge 7, 3) := by decide +kernel
theorem own_d3_82 : decode prog_69_method_4_code 82 = .ok (.iconst 1, 1) := by decide +kernel
theorem own_d3_83 : decode prog_69_method_4_code 83 = .ok (.goto 40, 3) := by decide +kernel
theorem own_d3_86 : decode prog_69_method_4_code 86 = .ok (.iconst 0, 1) := by decide +kernel
theorem own_d3_87 : decode prog_69_method_4_code 87 = .ok (.goto 36, 3) := by decide +kernel
theorem own_d3_90 : decode prog_69_method_4_code 90 = .ok (.iload_n 1, 1) := by decide +kernel
theorem own_d3_91 : decode prog_69_method_4_code 91 = .ok (.ifCond .gt 7, 3) := by decide +kernel
theorem own_d3_94 : decode prog_69_method_4_code 94 = .ok (.iconst 1, 1) := by decide +kernel
theorem own_d3_95 : decode prog_69_method_4_code 95 = .ok (.goto 28, 3) := by decide +kernel
theorem own_d3_98 : decode prog_69_method_4_code 98 = .ok (.iconst 0, 1) := by decide +kernel
theorem own_d3_99 : decode prog_69_method_4_code 99 = .ok (.goto 24, 3) := by decide +kernel
theorem own_d3_102 : decode prog_69_method_4_code 102 = .ok (.iload_n 1, 1) := by decide +kernel
theorem own_d3_103 : decode prog_69_method_4_code 103 = .ok (.ifCond .le 7, 3) := by decide +kernel
theorem own_d3_106 : decode prog_69_method_4_code 106 = .ok (.iconst 1, 1) := by decide +kernel
theorem own_d3_107 : decode prog_69_method_4_code 107 = .ok (.goto 16, 3) := by decide +kernel
theorem own_d3_110 : decode prog_69_method_4_code 110 = .ok (.iconst 0, 1) := by decide +kernel
theorem own_d3_111 : decode prog_69_method_4_code 111 = .ok (.goto 12, 3) := by decide +kernel
theorem own_d3_114 : decode prog_69_method_4_code 114 = .ok (.iload_n 1, 1) := by decide +kernel
theorem own_d3_115 : decode prog_69_method_4_code 115 = .ok (.ifCond .lt 7, 3) := by decide +kernel
theorem own_d3_118 : decode prog_69_method_4_code 118 = .ok (.iconst 1, 1) := by decide +kernel
theorem own_d3_119 : decode prog_69_method_4_code 119 = .ok (.goto 4, 3) := by decide +kernel
theorem own_d3_122 : decode prog_69_method_4_code 122 = .ok (.iconst 0, 1) := by decide +kernel
theorem own_d3_123 : decode prog_69_method_4_code 123 = .ok (.ireturn, 1) := by decide +kernel
theorem own_d4_0 : decode jdk_37_method_2_code 0 = .ok (.aload_n 0, 1) := by decide +kernel
theorem own_d4_1 : decode jdk_37_method_2_code 1 = .ok (.getfield 7, 3) := by decide +kernel
theorem own_d4_4 : decode jdk_37_method_2_code 4 = .ok (.ireturn, 1) := by decide +kernel
theorem own_pd0 : parseMethodDescriptor "()I" = some ⟨[], some .int⟩ := by decide +kernel
theorem own_pd1 : parseMethodDescriptor "(I)Lcom/example/gazetteer/gazetteer/partitions/Condition$Operator;" = some ⟨[.int], some (.object "com/example/gazetteer/gazetteer/partitions/Condition$Operator")⟩ := by decide +kernel
theorem own_pd2 : parseMethodDescriptor "()Z" = some ⟨[], some .boolean⟩ := by decide +kernel
theorem own_pd3 : parseMethodDescriptor "(I)Z" = some ⟨[.int], some .boolean⟩ := by decide +kernel
theorem own_pn0 : plainName "com/example/gazetteer/gazetteer/partitions/Condition$Operator" = true := by first | (simp [plainName, overriddenIn]; done) | decide +kernel
theorem own_pn1 : plainName "java/lang/Enum" = true := by first | (simp [plainName, overriddenIn]; done) | decide +kernel
theorem own_pn2 : plainName "com/example/gazetteer/gazetteer/partitions/OperatorBoundsBelowPinLaw" = true := by first | (simp [plainName, overriddenIn]; done) | decide +kernel
def own_En (Z : State) (C f d : String) (a : Addr) (k : Int32) : Prop := Sta Z Z.heap C f d (.ref a) ∧ Exa Z Z.heap a C ∧ Fld Z Z.heap a "java/lang/Enum" "ordinal" "I" (.int k)
theorem own_enum {args : Array Value} {s : State} {C f d : String} {k : Int32} (hx : (Cond.exactly (.static C f d) C).value args s none s [] = some true) (ho : (Cond.eq (.field (.static C f d) "java/lang/Enum" "ordinal" "I") (.int k)).value args s none s [] = some true) (hi : (Cond.initialized C).before args s = true) (hl : (Cond.laysStatic C f d).before args s = true) : ∃ a, own_En s C f d a k := by
  obtain ⟨a, ev⟩ := exa_v hx
  obtain ⟨x, y, e1, e2, k1, k2⟩ := cmp_v (Or.inl ho)
  cases (show some (Value.int k) = some y from e2)
  obtain ⟨z, rfl⟩ := k2
  have q : z = k := by simp only [Cond.value] at ho; rw [e1, e2] at ho; simpa using ho
  subst q
  exact ⟨a, Sta.start ev (Or.inr ⟨hi, hl⟩), Exa.start ev hx, Fld.start ((fld_at ev).symm.trans e1)⟩
def own_pick (i : Int32) (a_EQUAL a_NOT_EQUAL a_LESS a_LESS_OR_EQUAL a_GREATER a_GREATER_OR_EQUAL : Addr) : Addr := if i = (0 : Int32) then a_EQUAL else if i = (1 : Int32) then a_NOT_EQUAL else if i = (2 : Int32) then a_LESS else if i = (3 : Int32) then a_LESS_OR_EQUAL else if i = (4 : Int32) then a_GREATER else a_GREATER_OR_EQUAL
def own_inc (a b c d : Addr) : Int32 := if Value.ref a = Value.ref b then 1 else if Value.ref a = Value.ref c then 1 else if Value.ref a = Value.ref d then 1 else 0
theorem own_ne_ref {a b : Addr} (h : a ≠ b) : ¬ Value.ref a = Value.ref b := fun q => h (Value.ref.inj q)
def own_holds (o c : Int32) : Int32 := if o = (0 : Int32) then (if c = (0 : Int32) then 1 else 0) else if o = (1 : Int32) then (if c = (0 : Int32) then 0 else 1) else if o = (2 : Int32) then (if c < (0 : Int32) then 1 else 0) else if o = (3 : Int32) then (if (0 : Int32) < c then 0 else 1) else if o = (4 : Int32) then (if (0 : Int32) < c then 1 else 0) else (if c < (0 : Int32) then 0 else 1)
theorem own_holds_neg {c : Int32} (h : c < 0) : own_holds 0 c = 0 ∧ own_holds 1 c = 1 ∧ own_holds 2 c = 1 ∧ own_holds 3 c = 1 ∧ own_holds 4 c = 0 ∧ own_holds 5 c = 0 := by
  have h1 : ¬ c = 0 := fun q => by subst q; exact absurd h (by decide)
  have h2 : ¬ (0 : Int32) < c := fun q => by simp only [Int32.lt_iff_toInt_lt] at h q; omega
  simp [own_holds, h, h1, h2]
theorem own_holds_pos {c : Int32} (h : 0 < c) : own_holds 0 c = 0 ∧ own_holds 1 c = 1 ∧ own_holds 2 c = 0 ∧ own_holds 3 c = 0 ∧ own_holds 4 c = 1 ∧ own_holds 5 c = 1 := by
  have h1 : ¬ c = 0 := fun q => by subst q; exact absurd h (by decide)
  have h2 : ¬ c < (0 : Int32) := fun q => by simp only [Int32.lt_iff_toInt_lt] at h q; omega
  simp [own_holds, h, h1, h2]
theorem own_mod6 (x : Int32) : (x &&& (2147483647 : Int32)) % (6 : Int32) = 0 ∨ (x &&& (2147483647 : Int32)) % (6 : Int32) = 1 ∨ (x &&& (2147483647 : Int32)) % (6 : Int32) = 2 ∨ (x &&& (2147483647 : Int32)) % (6 : Int32) = 3 ∨ (x &&& (2147483647 : Int32)) % (6 : Int32) = 4 ∨ (x &&& (2147483647 : Int32)) % (6 : Int32) = 5 := by
  have h := c_and x (2147483647 : Int32) (by decide)
  have h2 := (c_irem (x &&& (2147483647 : Int32)) 6 6 (by decide)).1 h.1
  simp only [← Int32.toInt_inj, h2, Int32.reduceToInt]
  omega
theorem own_negOr (c : Int32) : (c ||| (-2147483648 : Int32)) < 0 := by
  rw [Int32.lt_iff_toInt_lt]; exact (c_orS c (-2147483648 : Int32)).2.2 (by decide)
theorem own_posAnd {x : Int32} (h : ¬ (x &&& (2147483647 : Int32)) = 0) : 0 < (x &&& (2147483647 : Int32)) := by
  have q := (c_and x (2147483647 : Int32) (by decide)).1
  have h' : ¬ (x &&& (2147483647 : Int32)).toInt = 0 := fun z => h (Int32.toInt_inj.mp z)
  rw [Int32.lt_iff_toInt_lt]; simp only [Int32.reduceToInt]; omega

def own_rm2_Q (Z : State) (a : Addr) (a_EQUAL a_NOT_EQUAL a_LESS a_LESS_OR_EQUAL a_GREATER a_GREATER_OR_EQUAL : Addr) (h0 : Heap) (n0 : Nat) : Option Value → Heap → List Loc → Prop := fun v h L => v = some (Value.int (own_inc a a_EQUAL a_GREATER a_GREATER_OR_EQUAL)) ∧ h = h0 ∧ Fr n0 L
theorem own_rm2_ef (m : MethodId) (a : Addr)  : entryFrame m #[(Value.ref a)] 1 = mkF m 0 #[.val (Value.ref a)] [] := by first | (simp [entryFrame, mkF, argsToLocals, Value.category]; done) | rfl
set_option maxRecDepth 65536 in
set_option maxHeartbeats 40000000 in
theorem own_rm2 (l : Launch) (Z : State) (a0 : Array Value) (hw : ∀ d ∈ tables_1, d.before a0 Z = true) (ws : List Jvm.Cond) (a : Addr) (a_EQUAL a_NOT_EQUAL a_LESS a_LESS_OR_EQUAL a_GREATER a_GREATER_OR_EQUAL : Addr) (h0 : Heap) (n0 : Nat) (O0 : Old Z n0 h0) (En_EQUAL : own_En Z "com/example/gazetteer/gazetteer/partitions/Condition$Operator" "EQUAL" "Lcom/example/gazetteer/gazetteer/partitions/Condition$Operator;" a_EQUAL 0) (En_NOT_EQUAL : own_En Z "com/example/gazetteer/gazetteer/partitions/Condition$Operator" "NOT_EQUAL" "Lcom/example/gazetteer/gazetteer/partitions/Condition$Operator;" a_NOT_EQUAL 1) (En_LESS : own_En Z "com/example/gazetteer/gazetteer/partitions/Condition$Operator" "LESS" "Lcom/example/gazetteer/gazetteer/partitions/Condition$Operator;" a_LESS 2) (En_LESS_OR_EQUAL : own_En Z "com/example/gazetteer/gazetteer/partitions/Condition$Operator" "LESS_OR_EQUAL" "Lcom/example/gazetteer/gazetteer/partitions/Condition$Operator;" a_LESS_OR_EQUAL 3) (En_GREATER : own_En Z "com/example/gazetteer/gazetteer/partitions/Condition$Operator" "GREATER" "Lcom/example/gazetteer/gazetteer/partitions/Condition$Operator;" a_GREATER 4) (En_GREATER_OR_EQUAL : own_En Z "com/example/gazetteer/gazetteer/partitions/Condition$Operator" "GREATER_OR_EQUAL" "Lcom/example/gazetteer/gazetteer/partitions/Condition$Operator;" a_GREATER_OR_EQUAL 5) :
    MetFree l (⟨"com/example/gazetteer/gazetteer/partitions/Condition$Operator", "boundsBelow", "()Z"⟩ : MethodName) (head1 (Jvm.Cond.code (⟨"com/example/gazetteer/gazetteer/partitions/Condition$Operator", "boundsBelow", "()Z"⟩ : MethodName) prog_69_method_5_code 1 (some .boolean) :: ws) ({ frames := 0, cells := 0, slots := 0, locals := 0 } : Room)) (fun aa_ U => aa_ = #[(Value.ref a)] ∧ Z.Warmed39 U.vm ∧ U.heap = h0) (fun _ _ _ _ _ => True) (fun _ UU_ oo_ UX_ => ∃ vv_ LL_, oo_ = .returned vv_ ∧ (own_rm2_Q Z a a_EQUAL a_NOT_EQUAL a_LESS a_LESS_OR_EQUAL a_GREATER a_GREATER_OR_EQUAL h0 n0) vv_ UX_.heap LL_ ∧ FrameEnd UU_ oo_ UX_ LL_ ({ frames := 0, cells := 0, slots := 0, locals := 0 } : Room).cells ({ frames := 0, cells := 0, slots := 0, locals := 0 } : Room).slots) := by
  refine MetFree.of_bodySF (plainFor_of_name own_pn0) hisR ?_
  intro p e s m args below meth c s₁ Bd hml0 hP hK
  obtain ⟨rfl, hZ, hh⟩ := hP
  have hx := Bd.exec
  have hby := Bd.bytes
  have hml : c.maxLocals = 1 := hml0
  have hown : s.vm.findClass "com/example/gazetteer/gazetteer/partitions/Condition$Operator" = some m.cls := findClass_of_methodNamed Bd.named
  have hnm := (name_of_methodNamed Bd.named Bd.method).1
  have hlk : meth.locks = false := BodyLoose.notSynchronized Bd
  have X0 : Stand p l e ({ frames := 0, cells := 0, slots := 0, locals := 0 } : Room) s m #[(Value.ref a)] below meth c s₁ [] 0 0 := Stand.of_body Bd
  have e0 : s₁.heap = h0 := by rw [← hh, Bd.state]; rfl
  have N0 := Fr.nil n0
  show own_G p e below s (own_rm2_Q Z a a_EQUAL a_NOT_EQUAL a_LESS a_LESS_OR_EQUAL a_GREATER a_GREATER_OR_EQUAL h0 n0) ({ frames := 0, cells := 0, slots := 0, locals := 0 } : Room).cells ({ frames := 0, cells := 0, slots := 0, locals := 0 } : Room).slots (s₁.setTop (entryFrame m #[(Value.ref a)] 1))
  refine own_cast (own_rm2_ef m a ) ?_
  show own_G p e below s _ _ _ (s₁.setTop (mkF m 0 #[.val (Value.ref a)] []))
  refine own_aloadN X0 hx hby own_d2_0 rfl rfl ?_
  show own_G p e below s _ _ _ (s₁.setTop (mkF m 1 #[.val (Value.ref a)] [(Value.ref a)]))
  obtain ⟨T1, X1, e1, st1⟩ := getS2 X0 hx hZ hown (host := "") (Or.inl (own_w14 hw)) Via.refl e0 (Sta.ext O0.2 En_EQUAL.1) (g := (mkF m 1 #[.val (Value.ref a)] [(Value.ref a)])) rfl (hb hby own_d2_1)
  refine own_st st1 ?_
  show own_G p e below s _ _ _ (T1.setTop (mkF m 4 #[.val (Value.ref a)] [(Value.ref a_EQUAL), (Value.ref a)]))
  refine own_acmp_eq X1 hx hby rfl rfl own_d2_4 (pc' := 21) (by decide) (by decide) (fun hb2 => ?_) (fun hb2 => ?_)
  · show own_G p e below s _ _ _ (T1.setTop (mkF m 21 #[.val (Value.ref a)] []))
    refine own_iconst X1 hx hby own_d2_21 ?_
    show own_G p e below s _ _ _ (T1.setTop (mkF m 22 #[.val (Value.ref a)] [(Value.int (1 : Int32))]))
    refine own_goto X1 hx hby own_d2_22 (pc' := 26) (by decide) (by decide) ?_
    show own_G p e below s _ _ _ (T1.setTop (mkF m 26 #[.val (Value.ref a)] [(Value.int (1 : Int32))]))
    refine own_retN X1 hx hby hlk (t := .boolean) Bd.returns (by simp) own_d2_26 (by decide) (by decide) ?_
    refine ⟨?_, e1, N0⟩
    show some (Value.int (1 : Int32)) = _
    simp only [own_inc, if_pos hb2]
  · show own_G p e below s _ _ _ (T1.setTop (mkF m 7 #[.val (Value.ref a)] []))
    refine own_aloadN X1 hx hby own_d2_7 rfl rfl ?_
    show own_G p e below s _ _ _ (T1.setTop (mkF m 8 #[.val (Value.ref a)] [(Value.ref a)]))
    obtain ⟨T3, X3, e3, st3⟩ := getS2 X1 hx hZ hown (host := "") (Or.inl (own_w31 hw)) Via.refl e1 (Sta.ext O0.2 En_GREATER.1) (g := (mkF m 8 #[.val (Value.ref a)] [(Value.ref a)])) rfl (hb hby own_d2_8)
    refine own_st st3 ?_
    show own_G p e below s _ _ _ (T3.setTop (mkF m 11 #[.val (Value.ref a)] [(Value.ref a_GREATER), (Value.ref a)]))
    refine own_acmp_eq X3 hx hby rfl rfl own_d2_11 (pc' := 21) (by decide) (by decide) (fun hb4 => ?_) (fun hb4 => ?_)
    · show own_G p e below s _ _ _ (T3.setTop (mkF m 21 #[.val (Value.ref a)] []))
      refine own_iconst X3 hx hby own_d2_21 ?_
      show own_G p e below s _ _ _ (T3.setTop (mkF m 22 #[.val (Value.ref a)] [(Value.int (1 : Int32))]))
      refine own_goto X3 hx hby own_d2_22 (pc' := 26) (by decide) (by decide) ?_
      show own_G p e below s _ _ _ (T3.setTop (mkF m 26 #[.val (Value.ref a)] [(Value.int (1 : Int32))]))
      refine own_retN X3 hx hby hlk (t := .boolean) Bd.returns (by simp) own_d2_26 (by decide) (by decide) ?_
      refine ⟨?_, e3, N0⟩
      show some (Value.int (1 : Int32)) = _
      simp only [own_inc, if_neg hb2, if_pos hb4]
    · show own_G p e below s _ _ _ (T3.setTop (mkF m 14 #[.val (Value.ref a)] []))
      refine own_aloadN X3 hx hby own_d2_14 rfl rfl ?_
      show own_G p e below s _ _ _ (T3.setTop (mkF m 15 #[.val (Value.ref a)] [(Value.ref a)]))
      obtain ⟨T5, X5, e5, st5⟩ := getS2 X3 hx hZ hown (host := "") (Or.inl (own_w33 hw)) Via.refl e3 (Sta.ext O0.2 En_GREATER_OR_EQUAL.1) (g := (mkF m 15 #[.val (Value.ref a)] [(Value.ref a)])) rfl (hb hby own_d2_15)
      refine own_st st5 ?_
      show own_G p e below s _ _ _ (T5.setTop (mkF m 18 #[.val (Value.ref a)] [(Value.ref a_GREATER_OR_EQUAL), (Value.ref a)]))
      refine own_acmp_ne X5 hx hby rfl rfl own_d2_18 (pc' := 25) (by decide) (by decide) (fun hb6 => ?_) (fun hb6 => ?_)
      · show own_G p e below s _ _ _ (T5.setTop (mkF m 25 #[.val (Value.ref a)] []))
        refine own_iconst X5 hx hby own_d2_25 ?_
        show own_G p e below s _ _ _ (T5.setTop (mkF m 26 #[.val (Value.ref a)] [(Value.int (0 : Int32))]))
        refine own_retN X5 hx hby hlk (t := .boolean) Bd.returns (by simp) own_d2_26 (by decide) (by decide) ?_
        refine ⟨?_, e5, N0⟩
        show some (Value.int (0 : Int32)) = _
        simp only [own_inc, if_neg hb2, if_neg hb4, if_neg hb6]
      · show own_G p e below s _ _ _ (T5.setTop (mkF m 21 #[.val (Value.ref a)] []))
        refine own_iconst X5 hx hby own_d2_21 ?_
        show own_G p e below s _ _ _ (T5.setTop (mkF m 22 #[.val (Value.ref a)] [(Value.int (1 : Int32))]))
        refine own_goto X5 hx hby own_d2_22 (pc' := 26) (by decide) (by decide) ?_
        show own_G p e below s _ _ _ (T5.setTop (mkF m 26 #[.val (Value.ref a)] [(Value.int (1 : Int32))]))
        refine own_retN X5 hx hby hlk (t := .boolean) Bd.returns (by simp) own_d2_26 (by decide) (by decide) ?_
        refine ⟨?_, e5, N0⟩
        show some (Value.int (1 : Int32)) = _
        simp only [own_inc, if_neg hb2, if_neg hb4, if_pos hb6]
def own_rm4_Q (Z : State) (a : Addr) (o : Int32) (h0 : Heap) (n0 : Nat) : Option Value → Heap → List Loc → Prop := fun v h L => v = some (Value.int o) ∧ h = h0 ∧ Fr n0 L
theorem own_rm4_ef (m : MethodId) (a : Addr)  : entryFrame m #[(Value.ref a)] 1 = mkF m 0 #[.val (Value.ref a)] [] := by first | (simp [entryFrame, mkF, argsToLocals, Value.category]; done) | rfl
set_option maxRecDepth 65536 in
set_option maxHeartbeats 40000000 in
theorem own_rm4 (l : Launch) (Z : State) (a0 : Array Value) (hw : ∀ d ∈ tables_1, d.before a0 Z = true) (ws : List Jvm.Cond) (a : Addr) (o : Int32) (h0 : Heap) (n0 : Nat) (O0 : Old Z n0 h0) (F_a_ordinal : Fld Z h0 a "java/lang/Enum" "ordinal" "I" (Value.int o))  :
    MetFree l (⟨"java/lang/Enum", "ordinal", "()I"⟩ : MethodName) (head1 (Jvm.Cond.code (⟨"java/lang/Enum", "ordinal", "()I"⟩ : MethodName) jdk_37_method_2_code 1 (some .int) :: ws) ({ frames := 0, cells := 0, slots := 0, locals := 0 } : Room)) (fun aa_ U => aa_ = #[(Value.ref a)] ∧ Z.Warmed39 U.vm ∧ U.heap = h0) (fun _ _ _ _ _ => True) (fun _ UU_ oo_ UX_ => ∃ vv_ LL_, oo_ = .returned vv_ ∧ (own_rm4_Q Z a o h0 n0) vv_ UX_.heap LL_ ∧ FrameEnd UU_ oo_ UX_ LL_ ({ frames := 0, cells := 0, slots := 0, locals := 0 } : Room).cells ({ frames := 0, cells := 0, slots := 0, locals := 0 } : Room).slots) := by
  refine MetFree.of_bodySF (plainFor_of_name own_pn1) hisR ?_
  intro p e s m args below meth c s₁ Bd hml0 hP hK
  obtain ⟨rfl, hZ, hh⟩ := hP
  have hx := Bd.exec
  have hby := Bd.bytes
  have hml : c.maxLocals = 1 := hml0
  have hown : s.vm.findClass "java/lang/Enum" = some m.cls := findClass_of_methodNamed Bd.named
  have hnm := (name_of_methodNamed Bd.named Bd.method).1
  have hlk : meth.locks = false := BodyLoose.notSynchronized Bd
  have X0 : Stand p l e ({ frames := 0, cells := 0, slots := 0, locals := 0 } : Room) s m #[(Value.ref a)] below meth c s₁ [] 0 0 := Stand.of_body Bd
  have e0 : s₁.heap = h0 := by rw [← hh, Bd.state]; rfl
  have N0 := Fr.nil n0
  show own_G p e below s (own_rm4_Q Z a o h0 n0) ({ frames := 0, cells := 0, slots := 0, locals := 0 } : Room).cells ({ frames := 0, cells := 0, slots := 0, locals := 0 } : Room).slots (s₁.setTop (entryFrame m #[(Value.ref a)] 1))
  refine own_cast (own_rm4_ef m a ) ?_
  show own_G p e below s _ _ _ (s₁.setTop (mkF m 0 #[.val (Value.ref a)] []))
  refine own_aloadN X0 hx hby own_d4_0 rfl rfl ?_
  show own_G p e below s _ _ _ (s₁.setTop (mkF m 1 #[.val (Value.ref a)] [(Value.ref a)]))
  obtain ⟨T1, X1, e1, st1⟩ := getF X0 hx hZ hown (host := "") (Or.inl (own_w27 hw)) Via.refl e0 F_a_ordinal (g := (mkF m 1 #[.val (Value.ref a)] [(Value.ref a)])) rfl rfl (hb hby own_d4_1)
  refine own_st st1 ?_
  show own_G p e below s _ _ _ (T1.setTop (mkF m 4 #[.val (Value.ref a)] [(Value.int o)]))
  refine own_retI X1 hx hby hlk Bd.returns own_d4_4 (by decide) (by decide) ?_
  refine ⟨?_, e1, N0⟩
  show some (Value.int o) = _
  rfl
def own_rm3_Q (Z : State) (a : Addr) (x1 : Int32) (o : Int32) (h0 : Heap) (n0 : Nat) : Option Value → Heap → List Loc → Prop := fun v h L => v = some (Value.int (own_holds o x1)) ∧ h = h0 ∧ Fr n0 L
theorem own_rm3_ef (m : MethodId) (a : Addr) (x1 : Int32)  : entryFrame m #[(Value.ref a), (Value.int x1)] 2 = mkF m 0 #[.val (Value.ref a), .val (Value.int x1)] [] := by first | (simp [entryFrame, mkF, argsToLocals, Value.category]; done) | rfl
set_option maxRecDepth 65536 in
set_option maxHeartbeats 40000000 in
theorem own_rm3 (l : Launch) (Z : State) (a0 : Array Value) (hw : ∀ d ∈ tables_1, d.before a0 Z = true) (ws : List Jvm.Cond) (a : Addr) (x1 : Int32) (o : Int32) (h0 : Heap) (n0 : Nat) (O0 : Old Z n0 h0) (E_a : Exa Z h0 a "com/example/gazetteer/gazetteer/partitions/Condition$Operator") (F_a_ordinal : Fld Z h0 a "java/lang/Enum" "ordinal" "I" (Value.int o)) (ho : o = 0 ∨ o = 1 ∨ o = 2 ∨ o = 3 ∨ o = 4 ∨ o = 5) :
    MetFree l (⟨"com/example/gazetteer/gazetteer/partitions/Condition$Operator", "holds", "(I)Z"⟩ : MethodName) (head1 (Jvm.Cond.code (⟨"com/example/gazetteer/gazetteer/partitions/Condition$Operator", "holds", "(I)Z"⟩ : MethodName) prog_69_method_4_code 2 (some .boolean) :: ws) ({ frames := 1, cells := 0, slots := 0, locals := 12 } : Room)) (fun aa_ U => aa_ = #[(Value.ref a), (Value.int x1)] ∧ Z.Warmed39 U.vm ∧ U.heap = h0) (fun _ _ _ _ _ => True) (fun _ UU_ oo_ UX_ => ∃ vv_ LL_, oo_ = .returned vv_ ∧ (own_rm3_Q Z a x1 o h0 n0) vv_ UX_.heap LL_ ∧ FrameEnd UU_ oo_ UX_ LL_ ({ frames := 1, cells := 0, slots := 0, locals := 12 } : Room).cells ({ frames := 1, cells := 0, slots := 0, locals := 12 } : Room).slots) := by
  refine MetFree.of_bodySF (plainFor_of_name own_pn0) hisR ?_
  intro p e s m args below meth c s₁ Bd hml0 hP hK
  obtain ⟨rfl, hZ, hh⟩ := hP
  have hx := Bd.exec
  have hby := Bd.bytes
  have hml : c.maxLocals = 2 := hml0
  have hown : s.vm.findClass "com/example/gazetteer/gazetteer/partitions/Condition$Operator" = some m.cls := findClass_of_methodNamed Bd.named
  have hnm := (name_of_methodNamed Bd.named Bd.method).1
  have hlk : meth.locks = false := BodyLoose.notSynchronized Bd
  have X0 : Stand p l e ({ frames := 1, cells := 0, slots := 0, locals := 12 } : Room) s m #[(Value.ref a), (Value.int x1)] below meth c s₁ [] 0 0 := Stand.of_body Bd
  have e0 : s₁.heap = h0 := by rw [← hh, Bd.state]; rfl
  have N0 := Fr.nil n0
  show own_G p e below s (own_rm3_Q Z a x1 o h0 n0) ({ frames := 1, cells := 0, slots := 0, locals := 12 } : Room).cells ({ frames := 1, cells := 0, slots := 0, locals := 12 } : Room).slots (s₁.setTop (entryFrame m #[(Value.ref a), (Value.int x1)] 2))
  refine own_cast (own_rm3_ef m a x1 ) ?_
  show own_G p e below s _ _ _ (s₁.setTop (mkF m 0 #[.val (Value.ref a), .val (Value.int x1)] []))
  refine own_aloadN X0 hx hby own_d3_0 rfl rfl ?_
  show own_G p e below s _ _ _ (s₁.setTop (mkF m 1 #[.val (Value.ref a), .val (Value.int x1)] [(Value.ref a)]))
  obtain ⟨cq1, kq1, q1a, q1b, q1c⟩ := isOf (T := s₁) hZ e0 E_a
  obtain ⟨_, _, ⟨T1, L1, k1, n1⟩, -, X1, ⟨Lc1, hQ1, l1, y1, z1⟩, st1⟩ := X0.virtualBackUp hx (x := (⟨"com/example/gazetteer/gazetteer/partitions/Condition$Operator", "ordinal", "()I"⟩ : MethodName)) (y := (⟨"java/lang/Enum", "ordinal", "()I"⟩ : MethodName)) (owner := "java/lang/Enum") hown (mvT hZ (own_w20 hw)) (mvT hZ (own_w21 hw)) (mvT hZ (own_w22 hw)) (by decide) (mvT hZ (own_w24 hw)) (mvT hZ (own_w23 hw)) (backOf (W := 0) (own_rm4 l Z a0 hw [] a o h0 n0 O0  F_a_ordinal) hZ (own_w26 hw) (own_w25 hw) (by decide) (by decide)) q1a q1c (g := (mkF m 1 #[.val (Value.ref a), .val (Value.int x1)] [(Value.ref a)])) rfl (by rw [hml]; rfl) (Steps.refl _) (argsL := []) (rest := []) (lenOf own_pd0 rfl) rfl (by show 2 * 0 + _ ≤ _; exact Nat.le_of_eq rfl) (hb hby own_d3_1) (fun _ _ => ⟨rfl, e0, (by decide : (0 : Nat) + 0 ≤ _), (by decide : (0 : Nat) + 0 ≤ _)⟩)
  dsimp only [Pt.U, Pt.locs, Pt.cells, Pt.slots] at X1 l1 y1 z1 st1 hQ1
  subst l1 y1 z1
  obtain ⟨rfl, e1, Nq1⟩ := hQ1
  have N1 := Fr.app N0 Nq1
  refine own_tr st1 ?_
  show own_G p e below s _ _ _ (T1.setTop (mkF m 4 #[.val (Value.ref a), .val (Value.int x1)] [(Value.int o)]))
  rcases ho with rfl | rfl | rfl | rfl | rfl | rfl
  · show own_G p e below s _ _ _ (T1.setTop (mkF m 4 #[.val (Value.ref a), .val (Value.int x1)] [(Value.int (0 : Int32))]))
    refine own_tswIn X1 hx hby own_d3_4 (o := 50) (pc' := 54) (by decide) (by decide) (by decide) (by decide) ?_
    show own_G p e below s _ _ _ (T1.setTop (mkF m 54 #[.val (Value.ref a), .val (Value.int x1)] []))
    refine own_iloadN X1 hx hby own_d3_54 rfl ?_
    show own_G p e below s _ _ _ (T1.setTop (mkF m 55 #[.val (Value.ref a), .val (Value.int x1)] [(Value.int x1)]))
    refine own_if_ne X1 hx hby own_d3_55 (pc' := 62) (by decide) (by decide) (fun hb2 => ?_) (fun hb2 => ?_)
    · show own_G p e below s _ _ _ (T1.setTop (mkF m 62 #[.val (Value.ref a), .val (Value.int x1)] []))
      refine own_iconst X1 hx hby own_d3_62 ?_
      show own_G p e below s _ _ _ (T1.setTop (mkF m 63 #[.val (Value.ref a), .val (Value.int x1)] [(Value.int (0 : Int32))]))
      refine own_goto X1 hx hby own_d3_63 (pc' := 123) (by decide) (by decide) ?_
      show own_G p e below s _ _ _ (T1.setTop (mkF m 123 #[.val (Value.ref a), .val (Value.int x1)] [(Value.int (0 : Int32))]))
      refine own_retN X1 hx hby hlk (t := .boolean) Bd.returns (by simp) own_d3_123 (by decide) (by decide) ?_
      refine ⟨?_, e1, N1⟩
      show some (Value.int (0 : Int32)) = _
      simp [own_holds, hb2]
    · show own_G p e below s _ _ _ (T1.setTop (mkF m 58 #[.val (Value.ref a), .val (Value.int x1)] []))
      refine own_iconst X1 hx hby own_d3_58 ?_
      show own_G p e below s _ _ _ (T1.setTop (mkF m 59 #[.val (Value.ref a), .val (Value.int x1)] [(Value.int (1 : Int32))]))
      refine own_goto X1 hx hby own_d3_59 (pc' := 123) (by decide) (by decide) ?_
      show own_G p e below s _ _ _ (T1.setTop (mkF m 123 #[.val (Value.ref a), .val (Value.int x1)] [(Value.int (1 : Int32))]))
      refine own_retN X1 hx hby hlk (t := .boolean) Bd.returns (by simp) own_d3_123 (by decide) (by decide) ?_
      refine ⟨?_, e1, N1⟩
      show some (Value.int (1 : Int32)) = _
      simp [own_holds, hb2]
  · show own_G p e below s _ _ _ (T1.setTop (mkF m 4 #[.val (Value.ref a), .val (Value.int x1)] [(Value.int (1 : Int32))]))
    refine own_tswIn X1 hx hby own_d3_4 (o := 62) (pc' := 66) (by decide) (by decide) (by decide) (by decide) ?_
    show own_G p e below s _ _ _ (T1.setTop (mkF m 66 #[.val (Value.ref a), .val (Value.int x1)] []))
    refine own_iloadN X1 hx hby own_d3_66 rfl ?_
    show own_G p e below s _ _ _ (T1.setTop (mkF m 67 #[.val (Value.ref a), .val (Value.int x1)] [(Value.int x1)]))
    refine own_if_eq X1 hx hby own_d3_67 (pc' := 74) (by decide) (by decide) (fun hb3 => ?_) (fun hb3 => ?_)
    · show own_G p e below s _ _ _ (T1.setTop (mkF m 74 #[.val (Value.ref a), .val (Value.int x1)] []))
      refine own_iconst X1 hx hby own_d3_74 ?_
      show own_G p e below s _ _ _ (T1.setTop (mkF m 75 #[.val (Value.ref a), .val (Value.int x1)] [(Value.int (0 : Int32))]))
      refine own_goto X1 hx hby own_d3_75 (pc' := 123) (by decide) (by decide) ?_
      show own_G p e below s _ _ _ (T1.setTop (mkF m 123 #[.val (Value.ref a), .val (Value.int x1)] [(Value.int (0 : Int32))]))
      refine own_retN X1 hx hby hlk (t := .boolean) Bd.returns (by simp) own_d3_123 (by decide) (by decide) ?_
      refine ⟨?_, e1, N1⟩
      show some (Value.int (0 : Int32)) = _
      simp [own_holds, hb3]
    · show own_G p e below s _ _ _ (T1.setTop (mkF m 70 #[.val (Value.ref a), .val (Value.int x1)] []))
      refine own_iconst X1 hx hby own_d3_70 ?_
      show own_G p e below s _ _ _ (T1.setTop (mkF m 71 #[.val (Value.ref a), .val (Value.int x1)] [(Value.int (1 : Int32))]))
      refine own_goto X1 hx hby own_d3_71 (pc' := 123) (by decide) (by decide) ?_
      show own_G p e below s _ _ _ (T1.setTop (mkF m 123 #[.val (Value.ref a), .val (Value.int x1)] [(Value.int (1 : Int32))]))
      refine own_retN X1 hx hby hlk (t := .boolean) Bd.returns (by simp) own_d3_123 (by decide) (by decide) ?_
      refine ⟨?_, e1, N1⟩
      show some (Value.int (1 : Int32)) = _
      simp [own_holds, hb3]
  · show own_G p e below s _ _ _ (T1.setTop (mkF m 4 #[.val (Value.ref a), .val (Value.int x1)] [(Value.int (2 : Int32))]))
    refine own_tswIn X1 hx hby own_d3_4 (o := 74) (pc' := 78) (by decide) (by decide) (by decide) (by decide) ?_
    show own_G p e below s _ _ _ (T1.setTop (mkF m 78 #[.val (Value.ref a), .val (Value.int x1)] []))
    refine own_iloadN X1 hx hby own_d3_78 rfl ?_
    show own_G p e below s _ _ _ (T1.setTop (mkF m 79 #[.val (Value.ref a), .val (Value.int x1)] [(Value.int x1)]))
    refine own_if_ge X1 hx hby own_d3_79 (pc' := 86) (by decide) (by decide) (fun hb4 => ?_) (fun hb4 => ?_)
    · show own_G p e below s _ _ _ (T1.setTop (mkF m 86 #[.val (Value.ref a), .val (Value.int x1)] []))
      refine own_iconst X1 hx hby own_d3_86 ?_
      show own_G p e below s _ _ _ (T1.setTop (mkF m 87 #[.val (Value.ref a), .val (Value.int x1)] [(Value.int (0 : Int32))]))
      refine own_goto X1 hx hby own_d3_87 (pc' := 123) (by decide) (by decide) ?_
      show own_G p e below s _ _ _ (T1.setTop (mkF m 123 #[.val (Value.ref a), .val (Value.int x1)] [(Value.int (0 : Int32))]))
      refine own_retN X1 hx hby hlk (t := .boolean) Bd.returns (by simp) own_d3_123 (by decide) (by decide) ?_
      refine ⟨?_, e1, N1⟩
      show some (Value.int (0 : Int32)) = _
      simp [own_holds, hb4]
    · show own_G p e below s _ _ _ (T1.setTop (mkF m 82 #[.val (Value.ref a), .val (Value.int x1)] []))
      refine own_iconst X1 hx hby own_d3_82 ?_
      show own_G p e below s _ _ _ (T1.setTop (mkF m 83 #[.val (Value.ref a), .val (Value.int x1)] [(Value.int (1 : Int32))]))
      refine own_goto X1 hx hby own_d3_83 (pc' := 123) (by decide) (by decide) ?_
      show own_G p e below s _ _ _ (T1.setTop (mkF m 123 #[.val (Value.ref a), .val (Value.int x1)] [(Value.int (1 : Int32))]))
      refine own_retN X1 hx hby hlk (t := .boolean) Bd.returns (by simp) own_d3_123 (by decide) (by decide) ?_
      refine ⟨?_, e1, N1⟩
      show some (Value.int (1 : Int32)) = _
      simp [own_holds, hb4]
  · show own_G p e below s _ _ _ (T1.setTop (mkF m 4 #[.val (Value.ref a), .val (Value.int x1)] [(Value.int (3 : Int32))]))
    refine own_tswIn X1 hx hby own_d3_4 (o := 86) (pc' := 90) (by decide) (by decide) (by decide) (by decide) ?_
    show own_G p e below s _ _ _ (T1.setTop (mkF m 90 #[.val (Value.ref a), .val (Value.int x1)] []))
    refine own_iloadN X1 hx hby own_d3_90 rfl ?_
    show own_G p e below s _ _ _ (T1.setTop (mkF m 91 #[.val (Value.ref a), .val (Value.int x1)] [(Value.int x1)]))
    refine own_if_gt X1 hx hby own_d3_91 (pc' := 98) (by decide) (by decide) (fun hb5 => ?_) (fun hb5 => ?_)
    · show own_G p e below s _ _ _ (T1.setTop (mkF m 98 #[.val (Value.ref a), .val (Value.int x1)] []))
      refine own_iconst X1 hx hby own_d3_98 ?_
      show own_G p e below s _ _ _ (T1.setTop (mkF m 99 #[.val (Value.ref a), .val (Value.int x1)] [(Value.int (0 : Int32))]))
      refine own_goto X1 hx hby own_d3_99 (pc' := 123) (by decide) (by decide) ?_
      show own_G p e below s _ _ _ (T1.setTop (mkF m 123 #[.val (Value.ref a), .val (Value.int x1)] [(Value.int (0 : Int32))]))
      refine own_retN X1 hx hby hlk (t := .boolean) Bd.returns (by simp) own_d3_123 (by decide) (by decide) ?_
      refine ⟨?_, e1, N1⟩
      show some (Value.int (0 : Int32)) = _
      simp [own_holds, hb5]
    · show own_G p e below s _ _ _ (T1.setTop (mkF m 94 #[.val (Value.ref a), .val (Value.int x1)] []))
      refine own_iconst X1 hx hby own_d3_94 ?_
      show own_G p e below s _ _ _ (T1.setTop (mkF m 95 #[.val (Value.ref a), .val (Value.int x1)] [(Value.int (1 : Int32))]))
      refine own_goto X1 hx hby own_d3_95 (pc' := 123) (by decide) (by decide) ?_
      show own_G p e below s _ _ _ (T1.setTop (mkF m 123 #[.val (Value.ref a), .val (Value.int x1)] [(Value.int (1 : Int32))]))
      refine own_retN X1 hx hby hlk (t := .boolean) Bd.returns (by simp) own_d3_123 (by decide) (by decide) ?_
      refine ⟨?_, e1, N1⟩
      show some (Value.int (1 : Int32)) = _
      simp [own_holds, hb5]
  · show own_G p e below s _ _ _ (T1.setTop (mkF m 4 #[.val (Value.ref a), .val (Value.int x1)] [(Value.int (4 : Int32))]))
    refine own_tswIn X1 hx hby own_d3_4 (o := 98) (pc' := 102) (by decide) (by decide) (by decide) (by decide) ?_
    show own_G p e below s _ _ _ (T1.setTop (mkF m 102 #[.val (Value.ref a), .val (Value.int x1)] []))
    refine own_iloadN X1 hx hby own_d3_102 rfl ?_
    show own_G p e below s _ _ _ (T1.setTop (mkF m 103 #[.val (Value.ref a), .val (Value.int x1)] [(Value.int x1)]))
    refine own_if_le X1 hx hby own_d3_103 (pc' := 110) (by decide) (by decide) (fun hb6 => ?_) (fun hb6 => ?_)
    · show own_G p e below s _ _ _ (T1.setTop (mkF m 110 #[.val (Value.ref a), .val (Value.int x1)] []))
      refine own_iconst X1 hx hby own_d3_110 ?_
      show own_G p e below s _ _ _ (T1.setTop (mkF m 111 #[.val (Value.ref a), .val (Value.int x1)] [(Value.int (0 : Int32))]))
      refine own_goto X1 hx hby own_d3_111 (pc' := 123) (by decide) (by decide) ?_
      show own_G p e below s _ _ _ (T1.setTop (mkF m 123 #[.val (Value.ref a), .val (Value.int x1)] [(Value.int (0 : Int32))]))
      refine own_retN X1 hx hby hlk (t := .boolean) Bd.returns (by simp) own_d3_123 (by decide) (by decide) ?_
      refine ⟨?_, e1, N1⟩
      show some (Value.int (0 : Int32)) = _
      simp [own_holds, hb6]
    · show own_G p e below s _ _ _ (T1.setTop (mkF m 106 #[.val (Value.ref a), .val (Value.int x1)] []))
      refine own_iconst X1 hx hby own_d3_106 ?_
      show own_G p e below s _ _ _ (T1.setTop (mkF m 107 #[.val (Value.ref a), .val (Value.int x1)] [(Value.int (1 : Int32))]))
      refine own_goto X1 hx hby own_d3_107 (pc' := 123) (by decide) (by decide) ?_
      show own_G p e below s _ _ _ (T1.setTop (mkF m 123 #[.val (Value.ref a), .val (Value.int x1)] [(Value.int (1 : Int32))]))
      refine own_retN X1 hx hby hlk (t := .boolean) Bd.returns (by simp) own_d3_123 (by decide) (by decide) ?_
      refine ⟨?_, e1, N1⟩
      show some (Value.int (1 : Int32)) = _
      simp [own_holds, hb6]
  · show own_G p e below s _ _ _ (T1.setTop (mkF m 4 #[.val (Value.ref a), .val (Value.int x1)] [(Value.int (5 : Int32))]))
    refine own_tswIn X1 hx hby own_d3_4 (o := 110) (pc' := 114) (by decide) (by decide) (by decide) (by decide) ?_
    show own_G p e below s _ _ _ (T1.setTop (mkF m 114 #[.val (Value.ref a), .val (Value.int x1)] []))
    refine own_iloadN X1 hx hby own_d3_114 rfl ?_
    show own_G p e below s _ _ _ (T1.setTop (mkF m 115 #[.val (Value.ref a), .val (Value.int x1)] [(Value.int x1)]))
    refine own_if_lt X1 hx hby own_d3_115 (pc' := 122) (by decide) (by decide) (fun hb7 => ?_) (fun hb7 => ?_)
    · show own_G p e below s _ _ _ (T1.setTop (mkF m 122 #[.val (Value.ref a), .val (Value.int x1)] []))
      refine own_iconst X1 hx hby own_d3_122 ?_
      show own_G p e below s _ _ _ (T1.setTop (mkF m 123 #[.val (Value.ref a), .val (Value.int x1)] [(Value.int (0 : Int32))]))
      refine own_retN X1 hx hby hlk (t := .boolean) Bd.returns (by simp) own_d3_123 (by decide) (by decide) ?_
      refine ⟨?_, e1, N1⟩
      show some (Value.int (0 : Int32)) = _
      simp [own_holds, hb7]
    · show own_G p e below s _ _ _ (T1.setTop (mkF m 118 #[.val (Value.ref a), .val (Value.int x1)] []))
      refine own_iconst X1 hx hby own_d3_118 ?_
      show own_G p e below s _ _ _ (T1.setTop (mkF m 119 #[.val (Value.ref a), .val (Value.int x1)] [(Value.int (1 : Int32))]))
      refine own_goto X1 hx hby own_d3_119 (pc' := 123) (by decide) (by decide) ?_
      show own_G p e below s _ _ _ (T1.setTop (mkF m 123 #[.val (Value.ref a), .val (Value.int x1)] [(Value.int (1 : Int32))]))
      refine own_retN X1 hx hby hlk (t := .boolean) Bd.returns (by simp) own_d3_123 (by decide) (by decide) ?_
      refine ⟨?_, e1, N1⟩
      show some (Value.int (1 : Int32)) = _
      simp [own_holds, hb7]
def own_rm1_Q (Z : State) (x0 : Int32) (a_EQUAL a_NOT_EQUAL a_LESS a_LESS_OR_EQUAL a_GREATER a_GREATER_OR_EQUAL : Addr) (h0 : Heap) (n0 : Nat) : Option Value → Heap → List Loc → Prop := fun v h L => v = some (Value.ref (own_pick ((x0 &&& (2147483647 : Int32)) % (6 : Int32)) a_EQUAL a_NOT_EQUAL a_LESS a_LESS_OR_EQUAL a_GREATER a_GREATER_OR_EQUAL)) ∧ h = h0 ∧ Fr n0 L
theorem own_rm1_ef (m : MethodId) (x0 : Int32)  : entryFrame m #[(Value.int x0)] 2 = mkF m 0 #[.val (Value.int x0), .unset] [] := by first | (simp [entryFrame, mkF, argsToLocals, Value.category]; done) | rfl
set_option maxRecDepth 65536 in
set_option maxHeartbeats 40000000 in
theorem own_rm1 (l : Launch) (Z : State) (a0 : Array Value) (hw : ∀ d ∈ tables_1, d.before a0 Z = true) (ws : List Jvm.Cond) (x0 : Int32) (a_EQUAL a_NOT_EQUAL a_LESS a_LESS_OR_EQUAL a_GREATER a_GREATER_OR_EQUAL : Addr) (h0 : Heap) (n0 : Nat) (O0 : Old Z n0 h0) (En_EQUAL : own_En Z "com/example/gazetteer/gazetteer/partitions/Condition$Operator" "EQUAL" "Lcom/example/gazetteer/gazetteer/partitions/Condition$Operator;" a_EQUAL 0) (En_NOT_EQUAL : own_En Z "com/example/gazetteer/gazetteer/partitions/Condition$Operator" "NOT_EQUAL" "Lcom/example/gazetteer/gazetteer/partitions/Condition$Operator;" a_NOT_EQUAL 1) (En_LESS : own_En Z "com/example/gazetteer/gazetteer/partitions/Condition$Operator" "LESS" "Lcom/example/gazetteer/gazetteer/partitions/Condition$Operator;" a_LESS 2) (En_LESS_OR_EQUAL : own_En Z "com/example/gazetteer/gazetteer/partitions/Condition$Operator" "LESS_OR_EQUAL" "Lcom/example/gazetteer/gazetteer/partitions/Condition$Operator;" a_LESS_OR_EQUAL 3) (En_GREATER : own_En Z "com/example/gazetteer/gazetteer/partitions/Condition$Operator" "GREATER" "Lcom/example/gazetteer/gazetteer/partitions/Condition$Operator;" a_GREATER 4) (En_GREATER_OR_EQUAL : own_En Z "com/example/gazetteer/gazetteer/partitions/Condition$Operator" "GREATER_OR_EQUAL" "Lcom/example/gazetteer/gazetteer/partitions/Condition$Operator;" a_GREATER_OR_EQUAL 5) :
    MetFree l (⟨"com/example/gazetteer/gazetteer/partitions/OperatorBoundsBelowPinLaw", "pick", "(I)Lcom/example/gazetteer/gazetteer/partitions/Condition$Operator;"⟩ : MethodName) (head1 (Jvm.Cond.code (⟨"com/example/gazetteer/gazetteer/partitions/OperatorBoundsBelowPinLaw", "pick", "(I)Lcom/example/gazetteer/gazetteer/partitions/Condition$Operator;"⟩ : MethodName) method_2_code 2 (some (.object "com/example/gazetteer/gazetteer/partitions/Condition$Operator")) :: ws) ({ frames := 0, cells := 0, slots := 0, locals := 0 } : Room)) (fun aa_ U => aa_ = #[(Value.int x0)] ∧ Z.Warmed39 U.vm ∧ U.heap = h0) (fun _ _ _ _ _ => True) (fun _ UU_ oo_ UX_ => ∃ vv_ LL_, oo_ = .returned vv_ ∧ (own_rm1_Q Z x0 a_EQUAL a_NOT_EQUAL a_LESS a_LESS_OR_EQUAL a_GREATER a_GREATER_OR_EQUAL h0 n0) vv_ UX_.heap LL_ ∧ FrameEnd UU_ oo_ UX_ LL_ ({ frames := 0, cells := 0, slots := 0, locals := 0 } : Room).cells ({ frames := 0, cells := 0, slots := 0, locals := 0 } : Room).slots) := by
  refine MetFree.of_bodySF (plainFor_of_name own_pn2) hisR ?_
  intro p e s m args below meth c s₁ Bd hml0 hP hK
  obtain ⟨rfl, hZ, hh⟩ := hP
  have hx := Bd.exec
  have hby := Bd.bytes
  have hml : c.maxLocals = 2 := hml0
  have hown : s.vm.findClass "com/example/gazetteer/gazetteer/partitions/OperatorBoundsBelowPinLaw" = some m.cls := findClass_of_methodNamed Bd.named
  have hnm := (name_of_methodNamed Bd.named Bd.method).1
  have hlk : meth.locks = false := BodyLoose.notSynchronized Bd
  have X0 : Stand p l e ({ frames := 0, cells := 0, slots := 0, locals := 0 } : Room) s m #[(Value.int x0)] below meth c s₁ [] 0 0 := Stand.of_body Bd
  have e0 : s₁.heap = h0 := by rw [← hh, Bd.state]; rfl
  have N0 := Fr.nil n0
  show own_G p e below s (own_rm1_Q Z x0 a_EQUAL a_NOT_EQUAL a_LESS a_LESS_OR_EQUAL a_GREATER a_GREATER_OR_EQUAL h0 n0) ({ frames := 0, cells := 0, slots := 0, locals := 0 } : Room).cells ({ frames := 0, cells := 0, slots := 0, locals := 0 } : Room).slots (s₁.setTop (entryFrame m #[(Value.int x0)] 2))
  refine own_cast (own_rm1_ef m x0 ) ?_
  show own_G p e below s _ _ _ (s₁.setTop (mkF m 0 #[.val (Value.int x0), .unset] []))
  refine own_iloadN X0 hx hby own_d1_0 rfl ?_
  show own_G p e below s _ _ _ (s₁.setTop (mkF m 1 #[.val (Value.int x0), .unset] [(Value.int x0)]))
  refine own_ldcI X0 hx hby hZ hown (own_w4 hw) own_d1_1 ?_
  show own_G p e below s _ _ _ (s₁.setTop (mkF m 3 #[.val (Value.int x0), .unset] [(Value.int (2147483647 : Int32)), (Value.int x0)]))
  refine own_iand X0 hx hby own_d1_3 ?_
  show own_G p e below s _ _ _ (s₁.setTop (mkF m 4 #[.val (Value.int x0), .unset] [(Value.int (x0 &&& (2147483647 : Int32)))]))
  refine own_bipush X0 hx hby own_d1_4 ?_
  show own_G p e below s _ _ _ (s₁.setTop (mkF m 6 #[.val (Value.int x0), .unset] [(Value.int (6 : Int32)), (Value.int (x0 &&& (2147483647 : Int32)))]))
  refine own_irem X0 hx hby own_d1_6 (by decide) ?_
  show own_G p e below s _ _ _ (s₁.setTop (mkF m 7 #[.val (Value.int x0), .unset] [(Value.int ((x0 &&& (2147483647 : Int32)) % (6 : Int32)))]))
  refine own_istoreN X0 hx hby own_d1_7 (l' := #[.val (Value.int x0), .val (Value.int ((x0 &&& (2147483647 : Int32)) % (6 : Int32)))]) rfl ?_
  show own_G p e below s _ _ _ (s₁.setTop (mkF m 8 #[.val (Value.int x0), .val (Value.int ((x0 &&& (2147483647 : Int32)) % (6 : Int32)))] []))
  refine own_iloadN X0 hx hby own_d1_8 rfl ?_
  show own_G p e below s _ _ _ (s₁.setTop (mkF m 9 #[.val (Value.int x0), .val (Value.int ((x0 &&& (2147483647 : Int32)) % (6 : Int32)))] [(Value.int ((x0 &&& (2147483647 : Int32)) % (6 : Int32)))]))
  refine own_if_ne X0 hx hby own_d1_9 (pc' := 16) (by decide) (by decide) (fun hb1 => ?_) (fun hb1 => ?_)
  · show own_G p e below s _ _ _ (s₁.setTop (mkF m 16 #[.val (Value.int x0), .val (Value.int ((x0 &&& (2147483647 : Int32)) % (6 : Int32)))] []))
    refine own_iloadN X0 hx hby own_d1_16 rfl ?_
    show own_G p e below s _ _ _ (s₁.setTop (mkF m 17 #[.val (Value.int x0), .val (Value.int ((x0 &&& (2147483647 : Int32)) % (6 : Int32)))] [(Value.int ((x0 &&& (2147483647 : Int32)) % (6 : Int32)))]))
    refine own_iconst X0 hx hby own_d1_17 ?_
    show own_G p e below s _ _ _ (s₁.setTop (mkF m 18 #[.val (Value.int x0), .val (Value.int ((x0 &&& (2147483647 : Int32)) % (6 : Int32)))] [(Value.int (1 : Int32)), (Value.int ((x0 &&& (2147483647 : Int32)) % (6 : Int32)))]))
    refine own_icmp_ne X0 hx hby own_d1_18 (pc' := 25) (by decide) (by decide) (fun hb2 => ?_) (fun hb2 => ?_)
    · show own_G p e below s _ _ _ (s₁.setTop (mkF m 25 #[.val (Value.int x0), .val (Value.int ((x0 &&& (2147483647 : Int32)) % (6 : Int32)))] []))
      refine own_iloadN X0 hx hby own_d1_25 rfl ?_
      show own_G p e below s _ _ _ (s₁.setTop (mkF m 26 #[.val (Value.int x0), .val (Value.int ((x0 &&& (2147483647 : Int32)) % (6 : Int32)))] [(Value.int ((x0 &&& (2147483647 : Int32)) % (6 : Int32)))]))
      refine own_iconst X0 hx hby own_d1_26 ?_
      show own_G p e below s _ _ _ (s₁.setTop (mkF m 27 #[.val (Value.int x0), .val (Value.int ((x0 &&& (2147483647 : Int32)) % (6 : Int32)))] [(Value.int (2 : Int32)), (Value.int ((x0 &&& (2147483647 : Int32)) % (6 : Int32)))]))
      refine own_icmp_ne X0 hx hby own_d1_27 (pc' := 34) (by decide) (by decide) (fun hb3 => ?_) (fun hb3 => ?_)
      · show own_G p e below s _ _ _ (s₁.setTop (mkF m 34 #[.val (Value.int x0), .val (Value.int ((x0 &&& (2147483647 : Int32)) % (6 : Int32)))] []))
        refine own_iloadN X0 hx hby own_d1_34 rfl ?_
        show own_G p e below s _ _ _ (s₁.setTop (mkF m 35 #[.val (Value.int x0), .val (Value.int ((x0 &&& (2147483647 : Int32)) % (6 : Int32)))] [(Value.int ((x0 &&& (2147483647 : Int32)) % (6 : Int32)))]))
        refine own_iconst X0 hx hby own_d1_35 ?_
        show own_G p e below s _ _ _ (s₁.setTop (mkF m 36 #[.val (Value.int x0), .val (Value.int ((x0 &&& (2147483647 : Int32)) % (6 : Int32)))] [(Value.int (3 : Int32)), (Value.int ((x0 &&& (2147483647 : Int32)) % (6 : Int32)))]))
        refine own_icmp_ne X0 hx hby own_d1_36 (pc' := 43) (by decide) (by decide) (fun hb4 => ?_) (fun hb4 => ?_)
        · show own_G p e below s _ _ _ (s₁.setTop (mkF m 43 #[.val (Value.int x0), .val (Value.int ((x0 &&& (2147483647 : Int32)) % (6 : Int32)))] []))
          refine own_iloadN X0 hx hby own_d1_43 rfl ?_
          show own_G p e below s _ _ _ (s₁.setTop (mkF m 44 #[.val (Value.int x0), .val (Value.int ((x0 &&& (2147483647 : Int32)) % (6 : Int32)))] [(Value.int ((x0 &&& (2147483647 : Int32)) % (6 : Int32)))]))
          refine own_iconst X0 hx hby own_d1_44 ?_
          show own_G p e below s _ _ _ (s₁.setTop (mkF m 45 #[.val (Value.int x0), .val (Value.int ((x0 &&& (2147483647 : Int32)) % (6 : Int32)))] [(Value.int (4 : Int32)), (Value.int ((x0 &&& (2147483647 : Int32)) % (6 : Int32)))]))
          refine own_icmp_ne X0 hx hby own_d1_45 (pc' := 52) (by decide) (by decide) (fun hb5 => ?_) (fun hb5 => ?_)
          · show own_G p e below s _ _ _ (s₁.setTop (mkF m 52 #[.val (Value.int x0), .val (Value.int ((x0 &&& (2147483647 : Int32)) % (6 : Int32)))] []))
            obtain ⟨T6, X6, e6, st6⟩ := getS2 X0 hx hZ hown (host := "") (Or.inl (own_w38 hw)) Via.refl e0 (Sta.ext O0.2 En_GREATER_OR_EQUAL.1) (g := (mkF m 52 #[.val (Value.int x0), .val (Value.int ((x0 &&& (2147483647 : Int32)) % (6 : Int32)))] [])) rfl (hb hby own_d1_52)
            refine own_st st6 ?_
            show own_G p e below s _ _ _ (T6.setTop (mkF m 55 #[.val (Value.int x0), .val (Value.int ((x0 &&& (2147483647 : Int32)) % (6 : Int32)))] [(Value.ref a_GREATER_OR_EQUAL)]))
            refine own_retA X6 hx hby hlk Bd.returns rfl rfl rfl own_d1_55 (by decide) (by decide) ?_
            refine ⟨?_, e6, N0⟩
            show some (Value.ref a_GREATER_OR_EQUAL) = _
            simp only [own_pick, if_neg hb1, if_neg hb2, if_neg hb3, if_neg hb4, if_neg hb5]
          · show own_G p e below s _ _ _ (s₁.setTop (mkF m 48 #[.val (Value.int x0), .val (Value.int ((x0 &&& (2147483647 : Int32)) % (6 : Int32)))] []))
            obtain ⟨T7, X7, e7, st7⟩ := getS2 X0 hx hZ hown (host := "") (Or.inl (own_w35 hw)) Via.refl e0 (Sta.ext O0.2 En_GREATER.1) (g := (mkF m 48 #[.val (Value.int x0), .val (Value.int ((x0 &&& (2147483647 : Int32)) % (6 : Int32)))] [])) rfl (hb hby own_d1_48)
            refine own_st st7 ?_
            show own_G p e below s _ _ _ (T7.setTop (mkF m 51 #[.val (Value.int x0), .val (Value.int ((x0 &&& (2147483647 : Int32)) % (6 : Int32)))] [(Value.ref a_GREATER)]))
            refine own_retA X7 hx hby hlk Bd.returns rfl rfl rfl own_d1_51 (by decide) (by decide) ?_
            refine ⟨?_, e7, N0⟩
            show some (Value.ref a_GREATER) = _
            simp only [own_pick, if_neg hb1, if_neg hb2, if_neg hb3, if_neg hb4, if_pos hb5]
        · show own_G p e below s _ _ _ (s₁.setTop (mkF m 39 #[.val (Value.int x0), .val (Value.int ((x0 &&& (2147483647 : Int32)) % (6 : Int32)))] []))
          obtain ⟨T8, X8, e8, st8⟩ := getS2 X0 hx hZ hown (host := "") (Or.inl (own_w39 hw)) Via.refl e0 (Sta.ext O0.2 En_LESS_OR_EQUAL.1) (g := (mkF m 39 #[.val (Value.int x0), .val (Value.int ((x0 &&& (2147483647 : Int32)) % (6 : Int32)))] [])) rfl (hb hby own_d1_39)
          refine own_st st8 ?_
          show own_G p e below s _ _ _ (T8.setTop (mkF m 42 #[.val (Value.int x0), .val (Value.int ((x0 &&& (2147483647 : Int32)) % (6 : Int32)))] [(Value.ref a_LESS_OR_EQUAL)]))
          refine own_retA X8 hx hby hlk Bd.returns rfl rfl rfl own_d1_42 (by decide) (by decide) ?_
          refine ⟨?_, e8, N0⟩
          show some (Value.ref a_LESS_OR_EQUAL) = _
          simp only [own_pick, if_neg hb1, if_neg hb2, if_neg hb3, if_pos hb4]
      · show own_G p e below s _ _ _ (s₁.setTop (mkF m 30 #[.val (Value.int x0), .val (Value.int ((x0 &&& (2147483647 : Int32)) % (6 : Int32)))] []))
        obtain ⟨T9, X9, e9, st9⟩ := getS2 X0 hx hZ hown (host := "") (Or.inl (own_w29 hw)) Via.refl e0 (Sta.ext O0.2 En_LESS.1) (g := (mkF m 30 #[.val (Value.int x0), .val (Value.int ((x0 &&& (2147483647 : Int32)) % (6 : Int32)))] [])) rfl (hb hby own_d1_30)
        refine own_st st9 ?_
        show own_G p e below s _ _ _ (T9.setTop (mkF m 33 #[.val (Value.int x0), .val (Value.int ((x0 &&& (2147483647 : Int32)) % (6 : Int32)))] [(Value.ref a_LESS)]))
        refine own_retA X9 hx hby hlk Bd.returns rfl rfl rfl own_d1_33 (by decide) (by decide) ?_
        refine ⟨?_, e9, N0⟩
        show some (Value.ref a_LESS) = _
        simp only [own_pick, if_neg hb1, if_neg hb2, if_pos hb3]
    · show own_G p e below s _ _ _ (s₁.setTop (mkF m 21 #[.val (Value.int x0), .val (Value.int ((x0 &&& (2147483647 : Int32)) % (6 : Int32)))] []))
      obtain ⟨T10, X10, e10, st10⟩ := getS2 X0 hx hZ hown (host := "") (Or.inl (own_w36 hw)) Via.refl e0 (Sta.ext O0.2 En_NOT_EQUAL.1) (g := (mkF m 21 #[.val (Value.int x0), .val (Value.int ((x0 &&& (2147483647 : Int32)) % (6 : Int32)))] [])) rfl (hb hby own_d1_21)
      refine own_st st10 ?_
      show own_G p e below s _ _ _ (T10.setTop (mkF m 24 #[.val (Value.int x0), .val (Value.int ((x0 &&& (2147483647 : Int32)) % (6 : Int32)))] [(Value.ref a_NOT_EQUAL)]))
      refine own_retA X10 hx hby hlk Bd.returns rfl rfl rfl own_d1_24 (by decide) (by decide) ?_
      refine ⟨?_, e10, N0⟩
      show some (Value.ref a_NOT_EQUAL) = _
      simp only [own_pick, if_neg hb1, if_pos hb2]
  · show own_G p e below s _ _ _ (s₁.setTop (mkF m 12 #[.val (Value.int x0), .val (Value.int ((x0 &&& (2147483647 : Int32)) % (6 : Int32)))] []))
    obtain ⟨T11, X11, e11, st11⟩ := getS2 X0 hx hZ hown (host := "") (Or.inl (own_w5 hw)) Via.refl e0 (Sta.ext O0.2 En_EQUAL.1) (g := (mkF m 12 #[.val (Value.int x0), .val (Value.int ((x0 &&& (2147483647 : Int32)) % (6 : Int32)))] [])) rfl (hb hby own_d1_12)
    refine own_st st11 ?_
    show own_G p e below s _ _ _ (T11.setTop (mkF m 15 #[.val (Value.int x0), .val (Value.int ((x0 &&& (2147483647 : Int32)) % (6 : Int32)))] [(Value.ref a_EQUAL)]))
    refine own_retA X11 hx hby hlk Bd.returns rfl rfl rfl own_d1_15 (by decide) (by decide) ?_
    refine ⟨?_, e11, N0⟩
    show some (Value.ref a_EQUAL) = _
    simp only [own_pick, if_pos hb1]
def own_rm0_Q (Z : State) (x0 : Int32) (x1 : Int32) (a_EQUAL a_NOT_EQUAL a_LESS a_LESS_OR_EQUAL a_GREATER a_GREATER_OR_EQUAL : Addr) (h0 : Heap) (n0 : Nat) : Option Value → Heap → List Loc → Prop := fun v h L => v = some (.int 1) ∧ Fr n0 L
theorem own_rm0_ef (m : MethodId) (x0 : Int32) (x1 : Int32)  : entryFrame m #[(Value.int x0), (Value.int x1)] maxLocals = mkF m 0 #[.val (Value.int x0), .val (Value.int x1), .unset, .unset, .unset] [] := by first | (simp [entryFrame, mkF, argsToLocals, Value.category, maxLocals]; done) | rfl
set_option maxRecDepth 65536 in
set_option maxHeartbeats 40000000 in
theorem own_rm0 (l : Launch) (Z : State) (a0 : Array Value) (hw : ∀ d ∈ tables_1, d.before a0 Z = true) (ws : List Jvm.Cond) (x0 : Int32) (x1 : Int32) (a_EQUAL a_NOT_EQUAL a_LESS a_LESS_OR_EQUAL a_GREATER a_GREATER_OR_EQUAL : Addr) (h0 : Heap) (n0 : Nat) (O0 : Old Z n0 h0) (En_EQUAL : own_En Z "com/example/gazetteer/gazetteer/partitions/Condition$Operator" "EQUAL" "Lcom/example/gazetteer/gazetteer/partitions/Condition$Operator;" a_EQUAL 0) (En_NOT_EQUAL : own_En Z "com/example/gazetteer/gazetteer/partitions/Condition$Operator" "NOT_EQUAL" "Lcom/example/gazetteer/gazetteer/partitions/Condition$Operator;" a_NOT_EQUAL 1) (En_LESS : own_En Z "com/example/gazetteer/gazetteer/partitions/Condition$Operator" "LESS" "Lcom/example/gazetteer/gazetteer/partitions/Condition$Operator;" a_LESS 2) (En_LESS_OR_EQUAL : own_En Z "com/example/gazetteer/gazetteer/partitions/Condition$Operator" "LESS_OR_EQUAL" "Lcom/example/gazetteer/gazetteer/partitions/Condition$Operator;" a_LESS_OR_EQUAL 3) (En_GREATER : own_En Z "com/example/gazetteer/gazetteer/partitions/Condition$Operator" "GREATER" "Lcom/example/gazetteer/gazetteer/partitions/Condition$Operator;" a_GREATER 4) (En_GREATER_OR_EQUAL : own_En Z "com/example/gazetteer/gazetteer/partitions/Condition$Operator" "GREATER_OR_EQUAL" "Lcom/example/gazetteer/gazetteer/partitions/Condition$Operator;" a_GREATER_OR_EQUAL 5) :
    MetFree l x (head1 (Jvm.Cond.code x code maxLocals ret :: ws) room_1) (fun aa_ U => aa_ = #[(Value.int x0), (Value.int x1)] ∧ Z.Warmed39 U.vm ∧ U.heap = h0) (fun _ _ _ _ _ => True) (fun _ UU_ oo_ UX_ => ∃ vv_ LL_, oo_ = .returned vv_ ∧ (own_rm0_Q Z x0 x1 a_EQUAL a_NOT_EQUAL a_LESS a_LESS_OR_EQUAL a_GREATER a_GREATER_OR_EQUAL h0 n0) vv_ UX_.heap LL_ ∧ FrameEnd UU_ oo_ UX_ LL_ 0 0) := by
  refine MetFree.of_bodySF (plainFor_of_name own_pn2) hisR ?_
  intro p e s m args below meth c s₁ Bd hml0 hP hK
  obtain ⟨rfl, hZ, hh⟩ := hP
  have hx := Bd.exec
  have hby := Bd.bytes
  have hml : c.maxLocals = 5 := hml0
  have hown : s.vm.findClass "com/example/gazetteer/gazetteer/partitions/OperatorBoundsBelowPinLaw" = some m.cls := findClass_of_methodNamed Bd.named
  have hnm := (name_of_methodNamed Bd.named Bd.method).1
  have hlk : meth.locks = false := BodyLoose.notSynchronized Bd
  have X0 : Stand p l e room_1 s m #[(Value.int x0), (Value.int x1)] below meth c s₁ [] 0 0 := Stand.of_body Bd
  have e0 : s₁.heap = h0 := by rw [← hh, Bd.state]; rfl
  have N0 := Fr.nil n0
  show own_G p e below s (own_rm0_Q Z x0 x1 a_EQUAL a_NOT_EQUAL a_LESS a_LESS_OR_EQUAL a_GREATER a_GREATER_OR_EQUAL h0 n0) 0 0 (s₁.setTop (entryFrame m #[(Value.int x0), (Value.int x1)] maxLocals))
  refine own_cast (own_rm0_ef m x0 x1 ) ?_
  show own_G p e below s _ _ _ (s₁.setTop (mkF m 0 #[.val (Value.int x0), .val (Value.int x1), .unset, .unset, .unset] []))
  refine own_iloadN X0 hx hby at_0 rfl ?_
  show own_G p e below s _ _ _ (s₁.setTop (mkF m 1 #[.val (Value.int x0), .val (Value.int x1), .unset, .unset, .unset] [(Value.int x0)]))
  obtain ⟨_, _, ⟨T1, L1, k1, n1⟩, -, X1, ⟨Lc1, hQ1, l1, y1, z1⟩, st1⟩ := Jvm.LawKit.callS X0 hx (y := (⟨"com/example/gazetteer/gazetteer/partitions/OperatorBoundsBelowPinLaw", "pick", "(I)Lcom/example/gazetteer/gazetteer/partitions/Condition$Operator;"⟩ : MethodName)) hown (mvT hZ (own_w0 hw)) (mvT hZ (own_w1 hw)) (mvT hZ (own_w2 hw)) (mvT hZ (own_w3 hw)) (by decide) (backOf (W := 0) (own_rm1 l Z a0 hw [] x0 a_EQUAL a_NOT_EQUAL a_LESS a_LESS_OR_EQUAL a_GREATER a_GREATER_OR_EQUAL h0 n0 O0  En_EQUAL En_NOT_EQUAL En_LESS En_LESS_OR_EQUAL En_GREATER En_GREATER_OR_EQUAL) hZ (own_w3 hw) (own_w2 hw) (by decide) (by decide)) (g := (mkF m 1 #[.val (Value.int x0), .val (Value.int x1), .unset, .unset, .unset] [(Value.int x0)])) rfl (by rw [hml]; rfl) (argsL := [(Value.int x0)]) (rest := []) (lenOf own_pd1 rfl) rfl (by show 2 * 0 + _ ≤ _; exact Nat.le_of_eq rfl) (hb hby at_1) (fun _ _ => ⟨rfl, e0, (by decide : (0 : Nat) + 0 ≤ _), (by decide : (0 : Nat) + 0 ≤ _)⟩)
  dsimp only [Pt.U, Pt.locs, Pt.cells, Pt.slots] at X1 l1 y1 z1 st1 hQ1
  subst l1 y1 z1
  obtain ⟨rfl, e1, Nq1⟩ := hQ1
  have N1 := Fr.app N0 Nq1
  refine own_st st1 ?_
  show own_G p e below s _ _ _ (T1.setTop (mkF m 4 #[.val (Value.int x0), .val (Value.int x1), .unset, .unset, .unset] [(Value.ref (own_pick ((x0 &&& (2147483647 : Int32)) % (6 : Int32)) a_EQUAL a_NOT_EQUAL a_LESS a_LESS_OR_EQUAL a_GREATER a_GREATER_OR_EQUAL))]))
  rcases own_mod6 x0 with hk | hk | hk | hk | hk | hk
  · rw [show (own_pick ((x0 &&& (2147483647 : Int32)) % (6 : Int32)) a_EQUAL a_NOT_EQUAL a_LESS a_LESS_OR_EQUAL a_GREATER a_GREATER_OR_EQUAL) = a_EQUAL from by simp [own_pick, hk]]
    show own_G p e below s _ _ _ (T1.setTop (mkF m 4 #[.val (Value.int x0), .val (Value.int x1), .unset, .unset, .unset] [(Value.ref a_EQUAL)]))
    refine own_astoreN X1 hx hby at_4 rfl (l' := #[.val (Value.int x0), .val (Value.int x1), .val (Value.ref a_EQUAL), .unset, .unset]) rfl ?_
    show own_G p e below s _ _ _ (T1.setTop (mkF m 5 #[.val (Value.int x0), .val (Value.int x1), .val (Value.ref a_EQUAL), .unset, .unset] []))
    refine own_iloadN X1 hx hby at_5 rfl ?_
    show own_G p e below s _ _ _ (T1.setTop (mkF m 6 #[.val (Value.int x0), .val (Value.int x1), .val (Value.ref a_EQUAL), .unset, .unset] [(Value.int x1)]))
    refine own_ldcI X1 hx hby hZ hown (own_w8 hw) at_6 ?_
    show own_G p e below s _ _ _ (T1.setTop (mkF m 8 #[.val (Value.int x0), .val (Value.int x1), .val (Value.ref a_EQUAL), .unset, .unset] [(Value.int (-2147483648 : Int32)), (Value.int x1)]))
    refine own_ior X1 hx hby at_8 ?_
    show own_G p e below s _ _ _ (T1.setTop (mkF m 9 #[.val (Value.int x0), .val (Value.int x1), .val (Value.ref a_EQUAL), .unset, .unset] [(Value.int (x1 ||| (-2147483648 : Int32)))]))
    refine own_istoreN X1 hx hby at_9 (l' := #[.val (Value.int x0), .val (Value.int x1), .val (Value.ref a_EQUAL), .val (Value.int (x1 ||| (-2147483648 : Int32))), .unset]) rfl ?_
    show own_G p e below s _ _ _ (T1.setTop (mkF m 10 #[.val (Value.int x0), .val (Value.int x1), .val (Value.ref a_EQUAL), .val (Value.int (x1 ||| (-2147483648 : Int32))), .unset] []))
    refine own_aloadN X1 hx hby at_10 rfl rfl ?_
    show own_G p e below s _ _ _ (T1.setTop (mkF m 11 #[.val (Value.int x0), .val (Value.int x1), .val (Value.ref a_EQUAL), .val (Value.int (x1 ||| (-2147483648 : Int32))), .unset] [(Value.ref a_EQUAL)]))
    obtain ⟨cq2, kq2, q2a, q2b, q2c⟩ := isOf (T := T1) hZ e1 (Exa.ext O0.2 En_EQUAL.2.1)
    obtain ⟨_, _, ⟨T2, L2, k2, n2⟩, -, X2, ⟨Lc2, hQ2, l2, y2, z2⟩, st2⟩ := X1.virtualBack hx (y := (⟨"com/example/gazetteer/gazetteer/partitions/Condition$Operator", "boundsBelow", "()Z"⟩ : MethodName)) (z := (⟨"com/example/gazetteer/gazetteer/partitions/Condition$Operator", "boundsBelow", "()Z"⟩ : MethodName)) hown (mvT hZ (own_w9 hw)) (mvT hZ (own_w10 hw)) (notFace_of_selects (args := #[]) (mvT hZ (own_w12 hw))) (mvT hZ (own_w12 hw)) (mvT hZ (own_w11 hw)) (by decide) (backOf (W := 0) (own_rm2 l Z a0 hw [] a_EQUAL a_EQUAL a_NOT_EQUAL a_LESS a_LESS_OR_EQUAL a_GREATER a_GREATER_OR_EQUAL h0 n0 O0  En_EQUAL En_NOT_EQUAL En_LESS En_LESS_OR_EQUAL En_GREATER En_GREATER_OR_EQUAL) hZ (own_w13 hw) (own_w6 hw) (by decide) (by decide)) q2a q2c (g := (mkF m 11 #[.val (Value.int x0), .val (Value.int x1), .val (Value.ref a_EQUAL), .val (Value.int (x1 ||| (-2147483648 : Int32))), .unset] [(Value.ref a_EQUAL)])) rfl (by rw [hml]; rfl) (Steps.refl _) (argsL := []) (rest := []) (lenOf own_pd2 rfl) rfl (by show 2 * 0 + _ ≤ _; exact Nat.le_of_eq rfl) (hb hby at_11) (fun _ _ => ⟨rfl, e1, (by decide : (0 : Nat) + 0 ≤ _), (by decide : (0 : Nat) + 0 ≤ _)⟩)
    dsimp only [Pt.U, Pt.locs, Pt.cells, Pt.slots] at X2 l2 y2 z2 st2 hQ2
    subst l2 y2 z2
    obtain ⟨rfl, e2, Nq2⟩ := hQ2
    have N2 := Fr.app N1 Nq2
    refine own_tr st2 ?_
    show own_G p e below s _ _ _ (T2.setTop (mkF m 14 #[.val (Value.int x0), .val (Value.int x1), .val (Value.ref a_EQUAL), .val (Value.int (x1 ||| (-2147483648 : Int32))), .unset] [(Value.int (own_inc a_EQUAL a_EQUAL a_GREATER a_GREATER_OR_EQUAL))]))
    rw [show ((own_inc a_EQUAL a_EQUAL a_GREATER a_GREATER_OR_EQUAL) : Int32) = (1 : Int32) from by simp [own_inc, own_ne_ref (Fld.ne En_EQUAL.2.2 En_GREATER.2.2 (by decide)), own_ne_ref (Fld.ne En_EQUAL.2.2 En_GREATER_OR_EQUAL.2.2 (by decide))]]
    refine own_istore X2 hx hby at_14 (l' := #[.val (Value.int x0), .val (Value.int x1), .val (Value.ref a_EQUAL), .val (Value.int (x1 ||| (-2147483648 : Int32))), .val (Value.int (1 : Int32))]) rfl ?_
    show own_G p e below s _ _ _ (T2.setTop (mkF m 16 #[.val (Value.int x0), .val (Value.int x1), .val (Value.ref a_EQUAL), .val (Value.int (x1 ||| (-2147483648 : Int32))), .val (Value.int (1 : Int32))] []))
    refine own_iload X2 hx hby at_16 rfl ?_
    show own_G p e below s _ _ _ (T2.setTop (mkF m 18 #[.val (Value.int x0), .val (Value.int x1), .val (Value.ref a_EQUAL), .val (Value.int (x1 ||| (-2147483648 : Int32))), .val (Value.int (1 : Int32))] [(Value.int (1 : Int32))]))
    refine own_if_eq X2 hx hby at_18 (pc' := 47) (by decide) (by decide) (fun hb3 => by exfalso; revert hb3; decide) (fun hb3 => ?_)
    show own_G p e below s _ _ _ (T2.setTop (mkF m 21 #[.val (Value.int x0), .val (Value.int x1), .val (Value.ref a_EQUAL), .val (Value.int (x1 ||| (-2147483648 : Int32))), .val (Value.int (1 : Int32))] []))
    refine own_aloadN X2 hx hby at_21 rfl rfl ?_
    show own_G p e below s _ _ _ (T2.setTop (mkF m 22 #[.val (Value.int x0), .val (Value.int x1), .val (Value.ref a_EQUAL), .val (Value.int (x1 ||| (-2147483648 : Int32))), .val (Value.int (1 : Int32))] [(Value.ref a_EQUAL)]))
    refine own_iloadN X2 hx hby at_22 rfl ?_
    show own_G p e below s _ _ _ (T2.setTop (mkF m 23 #[.val (Value.int x0), .val (Value.int x1), .val (Value.ref a_EQUAL), .val (Value.int (x1 ||| (-2147483648 : Int32))), .val (Value.int (1 : Int32))] [(Value.int x1), (Value.ref a_EQUAL)]))
    obtain ⟨cq4, kq4, q4a, q4b, q4c⟩ := isOf (T := T2) hZ e2 (Exa.ext O0.2 En_EQUAL.2.1)
    obtain ⟨_, _, ⟨T4, L4, k4, n4⟩, -, X4, ⟨Lc4, hQ4, l4, y4, z4⟩, st4⟩ := X2.virtualBack hx (y := (⟨"com/example/gazetteer/gazetteer/partitions/Condition$Operator", "holds", "(I)Z"⟩ : MethodName)) (z := (⟨"com/example/gazetteer/gazetteer/partitions/Condition$Operator", "holds", "(I)Z"⟩ : MethodName)) hown (mvT hZ (own_w15 hw)) (mvT hZ (own_w16 hw)) (notFace_of_selects (args := #[]) (mvT hZ (own_w18 hw))) (mvT hZ (own_w18 hw)) (mvT hZ (own_w17 hw)) (by decide) (backOf (W := 0) (own_rm3 l Z a0 hw [] a_EQUAL x1 (0 : Int32) h0 n0 O0  (Exa.ext O0.2 En_EQUAL.2.1) (Fld.ext O0.2 En_EQUAL.2.2) (by decide)) hZ (own_w19 hw) (own_w6 hw) (by decide) (by decide)) q4a q4c (g := (mkF m 23 #[.val (Value.int x0), .val (Value.int x1), .val (Value.ref a_EQUAL), .val (Value.int (x1 ||| (-2147483648 : Int32))), .val (Value.int (1 : Int32))] [(Value.int x1), (Value.ref a_EQUAL)])) rfl (by rw [hml]; rfl) (Steps.refl _) (argsL := [(Value.int x1)]) (rest := []) (lenOf own_pd3 rfl) rfl (by show 2 * 0 + _ ≤ _; exact Nat.le_of_eq rfl) (hb hby at_23) (fun _ _ => ⟨rfl, e2, (by decide : (0 : Nat) + 0 ≤ _), (by decide : (0 : Nat) + 0 ≤ _)⟩)
    dsimp only [Pt.U, Pt.locs, Pt.cells, Pt.slots] at X4 l4 y4 z4 st4 hQ4
    subst l4 y4 z4
    obtain ⟨rfl, e4, Nq4⟩ := hQ4
    have N4 := Fr.app N2 Nq4
    refine own_tr st4 ?_
    show own_G p e below s _ _ _ (T4.setTop (mkF m 26 #[.val (Value.int x0), .val (Value.int x1), .val (Value.ref a_EQUAL), .val (Value.int (x1 ||| (-2147483648 : Int32))), .val (Value.int (1 : Int32))] [(Value.int (own_holds (0 : Int32) x1))]))
    by_cases hc : x1 < (0 : Int32)
    · rw [show ((own_holds (0 : Int32) x1) : Int32) = (0 : Int32) from (own_holds_neg hc).1]
      show own_G p e below s _ _ _ (T4.setTop (mkF m 26 #[.val (Value.int x0), .val (Value.int x1), .val (Value.ref a_EQUAL), .val (Value.int (x1 ||| (-2147483648 : Int32))), .val (Value.int (1 : Int32))] [(Value.int (0 : Int32))]))
      refine own_if_eq X4 hx hby at_26 (pc' := 33) (by decide) (by decide) (fun hb5 => ?_) (fun hb5 => by exfalso; revert hb5; decide)
      show own_G p e below s _ _ _ (T4.setTop (mkF m 33 #[.val (Value.int x0), .val (Value.int x1), .val (Value.ref a_EQUAL), .val (Value.int (x1 ||| (-2147483648 : Int32))), .val (Value.int (1 : Int32))] []))
      refine own_aloadN X4 hx hby at_33 rfl rfl ?_
      show own_G p e below s _ _ _ (T4.setTop (mkF m 34 #[.val (Value.int x0), .val (Value.int x1), .val (Value.ref a_EQUAL), .val (Value.int (x1 ||| (-2147483648 : Int32))), .val (Value.int (1 : Int32))] [(Value.ref a_EQUAL)]))
      refine own_iloadN X4 hx hby at_34 rfl ?_
      show own_G p e below s _ _ _ (T4.setTop (mkF m 35 #[.val (Value.int x0), .val (Value.int x1), .val (Value.ref a_EQUAL), .val (Value.int (x1 ||| (-2147483648 : Int32))), .val (Value.int (1 : Int32))] [(Value.int (x1 ||| (-2147483648 : Int32))), (Value.ref a_EQUAL)]))
      obtain ⟨cq6, kq6, q6a, q6b, q6c⟩ := isOf (T := T4) hZ e4 (Exa.ext O0.2 En_EQUAL.2.1)
      obtain ⟨_, _, ⟨T6, L6, k6, n6⟩, -, X6, ⟨Lc6, hQ6, l6, y6, z6⟩, st6⟩ := X4.virtualBack hx (y := (⟨"com/example/gazetteer/gazetteer/partitions/Condition$Operator", "holds", "(I)Z"⟩ : MethodName)) (z := (⟨"com/example/gazetteer/gazetteer/partitions/Condition$Operator", "holds", "(I)Z"⟩ : MethodName)) hown (mvT hZ (own_w15 hw)) (mvT hZ (own_w16 hw)) (notFace_of_selects (args := #[]) (mvT hZ (own_w18 hw))) (mvT hZ (own_w18 hw)) (mvT hZ (own_w17 hw)) (by decide) (backOf (W := 0) (own_rm3 l Z a0 hw [] a_EQUAL (x1 ||| (-2147483648 : Int32)) (0 : Int32) h0 n0 O0  (Exa.ext O0.2 En_EQUAL.2.1) (Fld.ext O0.2 En_EQUAL.2.2) (by decide)) hZ (own_w19 hw) (own_w6 hw) (by decide) (by decide)) q6a q6c (g := (mkF m 35 #[.val (Value.int x0), .val (Value.int x1), .val (Value.ref a_EQUAL), .val (Value.int (x1 ||| (-2147483648 : Int32))), .val (Value.int (1 : Int32))] [(Value.int (x1 ||| (-2147483648 : Int32))), (Value.ref a_EQUAL)])) rfl (by rw [hml]; rfl) (Steps.refl _) (argsL := [(Value.int (x1 ||| (-2147483648 : Int32)))]) (rest := []) (lenOf own_pd3 rfl) rfl (by show 2 * 0 + _ ≤ _; exact Nat.le_of_eq rfl) (hb hby at_35) (fun _ _ => ⟨rfl, e4, (by decide : (0 : Nat) + 0 ≤ _), (by decide : (0 : Nat) + 0 ≤ _)⟩)
      dsimp only [Pt.U, Pt.locs, Pt.cells, Pt.slots] at X6 l6 y6 z6 st6 hQ6
      subst l6 y6 z6
      obtain ⟨rfl, e6, Nq6⟩ := hQ6
      have N6 := Fr.app N4 Nq6
      refine own_tr st6 ?_
      show own_G p e below s _ _ _ (T6.setTop (mkF m 38 #[.val (Value.int x0), .val (Value.int x1), .val (Value.ref a_EQUAL), .val (Value.int (x1 ||| (-2147483648 : Int32))), .val (Value.int (1 : Int32))] [(Value.int (own_holds (0 : Int32) (x1 ||| (-2147483648 : Int32))))]))
      rw [show ((own_holds (0 : Int32) (x1 ||| (-2147483648 : Int32))) : Int32) = (0 : Int32) from (own_holds_neg (own_negOr x1)).1]
      refine own_if_ne X6 hx hby at_38 (pc' := 45) (by decide) (by decide) (fun hb7 => by exfalso; revert hb7; decide) (fun hb7 => ?_)
      show own_G p e below s _ _ _ (T6.setTop (mkF m 41 #[.val (Value.int x0), .val (Value.int x1), .val (Value.ref a_EQUAL), .val (Value.int (x1 ||| (-2147483648 : Int32))), .val (Value.int (1 : Int32))] []))
      refine own_iconst X6 hx hby at_41 ?_
      show own_G p e below s _ _ _ (T6.setTop (mkF m 42 #[.val (Value.int x0), .val (Value.int x1), .val (Value.ref a_EQUAL), .val (Value.int (x1 ||| (-2147483648 : Int32))), .val (Value.int (1 : Int32))] [(Value.int (1 : Int32))]))
      refine own_goto X6 hx hby at_42 (pc' := 46) (by decide) (by decide) ?_
      show own_G p e below s _ _ _ (T6.setTop (mkF m 46 #[.val (Value.int x0), .val (Value.int x1), .val (Value.ref a_EQUAL), .val (Value.int (x1 ||| (-2147483648 : Int32))), .val (Value.int (1 : Int32))] [(Value.int (1 : Int32))]))
      refine own_retN X6 hx hby hlk (t := .boolean) Bd.returns (by simp) at_46 (by decide) (by decide) ?_
      exact ⟨rfl, N6⟩
    · skip
      show own_G p e below s _ _ _ (T4.setTop (mkF m 26 #[.val (Value.int x0), .val (Value.int x1), .val (Value.ref a_EQUAL), .val (Value.int (x1 ||| (-2147483648 : Int32))), .val (Value.int (1 : Int32))] [(Value.int (own_holds (0 : Int32) x1))]))
      refine own_if_eq X4 hx hby at_26 (pc' := 33) (by decide) (by decide) (fun hb8 => ?_) (fun hb8 => ?_)
      · show own_G p e below s _ _ _ (T4.setTop (mkF m 33 #[.val (Value.int x0), .val (Value.int x1), .val (Value.ref a_EQUAL), .val (Value.int (x1 ||| (-2147483648 : Int32))), .val (Value.int (1 : Int32))] []))
        refine own_aloadN X4 hx hby at_33 rfl rfl ?_
        show own_G p e below s _ _ _ (T4.setTop (mkF m 34 #[.val (Value.int x0), .val (Value.int x1), .val (Value.ref a_EQUAL), .val (Value.int (x1 ||| (-2147483648 : Int32))), .val (Value.int (1 : Int32))] [(Value.ref a_EQUAL)]))
        refine own_iloadN X4 hx hby at_34 rfl ?_
        show own_G p e below s _ _ _ (T4.setTop (mkF m 35 #[.val (Value.int x0), .val (Value.int x1), .val (Value.ref a_EQUAL), .val (Value.int (x1 ||| (-2147483648 : Int32))), .val (Value.int (1 : Int32))] [(Value.int (x1 ||| (-2147483648 : Int32))), (Value.ref a_EQUAL)]))
        obtain ⟨cq9, kq9, q9a, q9b, q9c⟩ := isOf (T := T4) hZ e4 (Exa.ext O0.2 En_EQUAL.2.1)
        obtain ⟨_, _, ⟨T9, L9, k9, n9⟩, -, X9, ⟨Lc9, hQ9, l9, y9, z9⟩, st9⟩ := X4.virtualBack hx (y := (⟨"com/example/gazetteer/gazetteer/partitions/Condition$Operator", "holds", "(I)Z"⟩ : MethodName)) (z := (⟨"com/example/gazetteer/gazetteer/partitions/Condition$Operator", "holds", "(I)Z"⟩ : MethodName)) hown (mvT hZ (own_w15 hw)) (mvT hZ (own_w16 hw)) (notFace_of_selects (args := #[]) (mvT hZ (own_w18 hw))) (mvT hZ (own_w18 hw)) (mvT hZ (own_w17 hw)) (by decide) (backOf (W := 0) (own_rm3 l Z a0 hw [] a_EQUAL (x1 ||| (-2147483648 : Int32)) (0 : Int32) h0 n0 O0  (Exa.ext O0.2 En_EQUAL.2.1) (Fld.ext O0.2 En_EQUAL.2.2) (by decide)) hZ (own_w19 hw) (own_w6 hw) (by decide) (by decide)) q9a q9c (g := (mkF m 35 #[.val (Value.int x0), .val (Value.int x1), .val (Value.ref a_EQUAL), .val (Value.int (x1 ||| (-2147483648 : Int32))), .val (Value.int (1 : Int32))] [(Value.int (x1 ||| (-2147483648 : Int32))), (Value.ref a_EQUAL)])) rfl (by rw [hml]; rfl) (Steps.refl _) (argsL := [(Value.int (x1 ||| (-2147483648 : Int32)))]) (rest := []) (lenOf own_pd3 rfl) rfl (by show 2 * 0 + _ ≤ _; exact Nat.le_of_eq rfl) (hb hby at_35) (fun _ _ => ⟨rfl, e4, (by decide : (0 : Nat) + 0 ≤ _), (by decide : (0 : Nat) + 0 ≤ _)⟩)
        dsimp only [Pt.U, Pt.locs, Pt.cells, Pt.slots] at X9 l9 y9 z9 st9 hQ9
        subst l9 y9 z9
        obtain ⟨rfl, e9, Nq9⟩ := hQ9
        have N9 := Fr.app N4 Nq9
        refine own_tr st9 ?_
        show own_G p e below s _ _ _ (T9.setTop (mkF m 38 #[.val (Value.int x0), .val (Value.int x1), .val (Value.ref a_EQUAL), .val (Value.int (x1 ||| (-2147483648 : Int32))), .val (Value.int (1 : Int32))] [(Value.int (own_holds (0 : Int32) (x1 ||| (-2147483648 : Int32))))]))
        rw [show ((own_holds (0 : Int32) (x1 ||| (-2147483648 : Int32))) : Int32) = (0 : Int32) from (own_holds_neg (own_negOr x1)).1]
        refine own_if_ne X9 hx hby at_38 (pc' := 45) (by decide) (by decide) (fun hb10 => by exfalso; revert hb10; decide) (fun hb10 => ?_)
        show own_G p e below s _ _ _ (T9.setTop (mkF m 41 #[.val (Value.int x0), .val (Value.int x1), .val (Value.ref a_EQUAL), .val (Value.int (x1 ||| (-2147483648 : Int32))), .val (Value.int (1 : Int32))] []))
        refine own_iconst X9 hx hby at_41 ?_
        show own_G p e below s _ _ _ (T9.setTop (mkF m 42 #[.val (Value.int x0), .val (Value.int x1), .val (Value.ref a_EQUAL), .val (Value.int (x1 ||| (-2147483648 : Int32))), .val (Value.int (1 : Int32))] [(Value.int (1 : Int32))]))
        refine own_goto X9 hx hby at_42 (pc' := 46) (by decide) (by decide) ?_
        show own_G p e below s _ _ _ (T9.setTop (mkF m 46 #[.val (Value.int x0), .val (Value.int x1), .val (Value.ref a_EQUAL), .val (Value.int (x1 ||| (-2147483648 : Int32))), .val (Value.int (1 : Int32))] [(Value.int (1 : Int32))]))
        refine own_retN X9 hx hby hlk (t := .boolean) Bd.returns (by simp) at_46 (by decide) (by decide) ?_
        exact ⟨rfl, N9⟩
      · show own_G p e below s _ _ _ (T4.setTop (mkF m 29 #[.val (Value.int x0), .val (Value.int x1), .val (Value.ref a_EQUAL), .val (Value.int (x1 ||| (-2147483648 : Int32))), .val (Value.int (1 : Int32))] []))
        refine own_iloadN X4 hx hby at_29 rfl ?_
        show own_G p e below s _ _ _ (T4.setTop (mkF m 30 #[.val (Value.int x0), .val (Value.int x1), .val (Value.ref a_EQUAL), .val (Value.int (x1 ||| (-2147483648 : Int32))), .val (Value.int (1 : Int32))] [(Value.int x1)]))
        refine own_if_lt X4 hx hby at_30 (pc' := 45) (by decide) (by decide) (fun hb11 => by exfalso; exact hc hb11) (fun hb11 => ?_)
        show own_G p e below s _ _ _ (T4.setTop (mkF m 33 #[.val (Value.int x0), .val (Value.int x1), .val (Value.ref a_EQUAL), .val (Value.int (x1 ||| (-2147483648 : Int32))), .val (Value.int (1 : Int32))] []))
        refine own_aloadN X4 hx hby at_33 rfl rfl ?_
        show own_G p e below s _ _ _ (T4.setTop (mkF m 34 #[.val (Value.int x0), .val (Value.int x1), .val (Value.ref a_EQUAL), .val (Value.int (x1 ||| (-2147483648 : Int32))), .val (Value.int (1 : Int32))] [(Value.ref a_EQUAL)]))
        refine own_iloadN X4 hx hby at_34 rfl ?_
        show own_G p e below s _ _ _ (T4.setTop (mkF m 35 #[.val (Value.int x0), .val (Value.int x1), .val (Value.ref a_EQUAL), .val (Value.int (x1 ||| (-2147483648 : Int32))), .val (Value.int (1 : Int32))] [(Value.int (x1 ||| (-2147483648 : Int32))), (Value.ref a_EQUAL)]))
        obtain ⟨cq12, kq12, q12a, q12b, q12c⟩ := isOf (T := T4) hZ e4 (Exa.ext O0.2 En_EQUAL.2.1)
        obtain ⟨_, _, ⟨T12, L12, k12, n12⟩, -, X12, ⟨Lc12, hQ12, l12, y12, z12⟩, st12⟩ := X4.virtualBack hx (y := (⟨"com/example/gazetteer/gazetteer/partitions/Condition$Operator", "holds", "(I)Z"⟩ : MethodName)) (z := (⟨"com/example/gazetteer/gazetteer/partitions/Condition$Operator", "holds", "(I)Z"⟩ : MethodName)) hown (mvT hZ (own_w15 hw)) (mvT hZ (own_w16 hw)) (notFace_of_selects (args := #[]) (mvT hZ (own_w18 hw))) (mvT hZ (own_w18 hw)) (mvT hZ (own_w17 hw)) (by decide) (backOf (W := 0) (own_rm3 l Z a0 hw [] a_EQUAL (x1 ||| (-2147483648 : Int32)) (0 : Int32) h0 n0 O0  (Exa.ext O0.2 En_EQUAL.2.1) (Fld.ext O0.2 En_EQUAL.2.2) (by decide)) hZ (own_w19 hw) (own_w6 hw) (by decide) (by decide)) q12a q12c (g := (mkF m 35 #[.val (Value.int x0), .val (Value.int x1), .val (Value.ref a_EQUAL), .val (Value.int (x1 ||| (-2147483648 : Int32))), .val (Value.int (1 : Int32))] [(Value.int (x1 ||| (-2147483648 : Int32))), (Value.ref a_EQUAL)])) rfl (by rw [hml]; rfl) (Steps.refl _) (argsL := [(Value.int (x1 ||| (-2147483648 : Int32)))]) (rest := []) (lenOf own_pd3 rfl) rfl (by show 2 * 0 + _ ≤ _; exact Nat.le_of_eq rfl) (hb hby at_35) (fun _ _ => ⟨rfl, e4, (by decide : (0 : Nat) + 0 ≤ _), (by decide : (0 : Nat) + 0 ≤ _)⟩)
        dsimp only [Pt.U, Pt.locs, Pt.cells, Pt.slots] at X12 l12 y12 z12 st12 hQ12
        subst l12 y12 z12
        obtain ⟨rfl, e12, Nq12⟩ := hQ12
        have N12 := Fr.app N4 Nq12
        refine own_tr st12 ?_
        show own_G p e below s _ _ _ (T12.setTop (mkF m 38 #[.val (Value.int x0), .val (Value.int x1), .val (Value.ref a_EQUAL), .val (Value.int (x1 ||| (-2147483648 : Int32))), .val (Value.int (1 : Int32))] [(Value.int (own_holds (0 : Int32) (x1 ||| (-2147483648 : Int32))))]))
        rw [show ((own_holds (0 : Int32) (x1 ||| (-2147483648 : Int32))) : Int32) = (0 : Int32) from (own_holds_neg (own_negOr x1)).1]
        refine own_if_ne X12 hx hby at_38 (pc' := 45) (by decide) (by decide) (fun hb13 => by exfalso; revert hb13; decide) (fun hb13 => ?_)
        show own_G p e below s _ _ _ (T12.setTop (mkF m 41 #[.val (Value.int x0), .val (Value.int x1), .val (Value.ref a_EQUAL), .val (Value.int (x1 ||| (-2147483648 : Int32))), .val (Value.int (1 : Int32))] []))
        refine own_iconst X12 hx hby at_41 ?_
        show own_G p e below s _ _ _ (T12.setTop (mkF m 42 #[.val (Value.int x0), .val (Value.int x1), .val (Value.ref a_EQUAL), .val (Value.int (x1 ||| (-2147483648 : Int32))), .val (Value.int (1 : Int32))] [(Value.int (1 : Int32))]))
        refine own_goto X12 hx hby at_42 (pc' := 46) (by decide) (by decide) ?_
        show own_G p e below s _ _ _ (T12.setTop (mkF m 46 #[.val (Value.int x0), .val (Value.int x1), .val (Value.ref a_EQUAL), .val (Value.int (x1 ||| (-2147483648 : Int32))), .val (Value.int (1 : Int32))] [(Value.int (1 : Int32))]))
        refine own_retN X12 hx hby hlk (t := .boolean) Bd.returns (by simp) at_46 (by decide) (by decide) ?_
        exact ⟨rfl, N12⟩
  · rw [show (own_pick ((x0 &&& (2147483647 : Int32)) % (6 : Int32)) a_EQUAL a_NOT_EQUAL a_LESS a_LESS_OR_EQUAL a_GREATER a_GREATER_OR_EQUAL) = a_NOT_EQUAL from by simp [own_pick, hk]]
    show own_G p e below s _ _ _ (T1.setTop (mkF m 4 #[.val (Value.int x0), .val (Value.int x1), .unset, .unset, .unset] [(Value.ref a_NOT_EQUAL)]))
    refine own_astoreN X1 hx hby at_4 rfl (l' := #[.val (Value.int x0), .val (Value.int x1), .val (Value.ref a_NOT_EQUAL), .unset, .unset]) rfl ?_
    show own_G p e below s _ _ _ (T1.setTop (mkF m 5 #[.val (Value.int x0), .val (Value.int x1), .val (Value.ref a_NOT_EQUAL), .unset, .unset] []))
    refine own_iloadN X1 hx hby at_5 rfl ?_
    show own_G p e below s _ _ _ (T1.setTop (mkF m 6 #[.val (Value.int x0), .val (Value.int x1), .val (Value.ref a_NOT_EQUAL), .unset, .unset] [(Value.int x1)]))
    refine own_ldcI X1 hx hby hZ hown (own_w8 hw) at_6 ?_
    show own_G p e below s _ _ _ (T1.setTop (mkF m 8 #[.val (Value.int x0), .val (Value.int x1), .val (Value.ref a_NOT_EQUAL), .unset, .unset] [(Value.int (-2147483648 : Int32)), (Value.int x1)]))
    refine own_ior X1 hx hby at_8 ?_
    show own_G p e below s _ _ _ (T1.setTop (mkF m 9 #[.val (Value.int x0), .val (Value.int x1), .val (Value.ref a_NOT_EQUAL), .unset, .unset] [(Value.int (x1 ||| (-2147483648 : Int32)))]))
    refine own_istoreN X1 hx hby at_9 (l' := #[.val (Value.int x0), .val (Value.int x1), .val (Value.ref a_NOT_EQUAL), .val (Value.int (x1 ||| (-2147483648 : Int32))), .unset]) rfl ?_
    show own_G p e below s _ _ _ (T1.setTop (mkF m 10 #[.val (Value.int x0), .val (Value.int x1), .val (Value.ref a_NOT_EQUAL), .val (Value.int (x1 ||| (-2147483648 : Int32))), .unset] []))
    refine own_aloadN X1 hx hby at_10 rfl rfl ?_
    show own_G p e below s _ _ _ (T1.setTop (mkF m 11 #[.val (Value.int x0), .val (Value.int x1), .val (Value.ref a_NOT_EQUAL), .val (Value.int (x1 ||| (-2147483648 : Int32))), .unset] [(Value.ref a_NOT_EQUAL)]))
    obtain ⟨cq14, kq14, q14a, q14b, q14c⟩ := isOf (T := T1) hZ e1 (Exa.ext O0.2 En_NOT_EQUAL.2.1)
    obtain ⟨_, _, ⟨T14, L14, k14, n14⟩, -, X14, ⟨Lc14, hQ14, l14, y14, z14⟩, st14⟩ := X1.virtualBack hx (y := (⟨"com/example/gazetteer/gazetteer/partitions/Condition$Operator", "boundsBelow", "()Z"⟩ : MethodName)) (z := (⟨"com/example/gazetteer/gazetteer/partitions/Condition$Operator", "boundsBelow", "()Z"⟩ : MethodName)) hown (mvT hZ (own_w9 hw)) (mvT hZ (own_w10 hw)) (notFace_of_selects (args := #[]) (mvT hZ (own_w12 hw))) (mvT hZ (own_w12 hw)) (mvT hZ (own_w11 hw)) (by decide) (backOf (W := 0) (own_rm2 l Z a0 hw [] a_NOT_EQUAL a_EQUAL a_NOT_EQUAL a_LESS a_LESS_OR_EQUAL a_GREATER a_GREATER_OR_EQUAL h0 n0 O0  En_EQUAL En_NOT_EQUAL En_LESS En_LESS_OR_EQUAL En_GREATER En_GREATER_OR_EQUAL) hZ (own_w13 hw) (own_w6 hw) (by decide) (by decide)) q14a q14c (g := (mkF m 11 #[.val (Value.int x0), .val (Value.int x1), .val (Value.ref a_NOT_EQUAL), .val (Value.int (x1 ||| (-2147483648 : Int32))), .unset] [(Value.ref a_NOT_EQUAL)])) rfl (by rw [hml]; rfl) (Steps.refl _) (argsL := []) (rest := []) (lenOf own_pd2 rfl) rfl (by show 2 * 0 + _ ≤ _; exact Nat.le_of_eq rfl) (hb hby at_11) (fun _ _ => ⟨rfl, e1, (by decide : (0 : Nat) + 0 ≤ _), (by decide : (0 : Nat) + 0 ≤ _)⟩)
    dsimp only [Pt.U, Pt.locs, Pt.cells, Pt.slots] at X14 l14 y14 z14 st14 hQ14
    subst l14 y14 z14
    obtain ⟨rfl, e14, Nq14⟩ := hQ14
    have N14 := Fr.app N1 Nq14
    refine own_tr st14 ?_
    show own_G p e below s _ _ _ (T14.setTop (mkF m 14 #[.val (Value.int x0), .val (Value.int x1), .val (Value.ref a_NOT_EQUAL), .val (Value.int (x1 ||| (-2147483648 : Int32))), .unset] [(Value.int (own_inc a_NOT_EQUAL a_EQUAL a_GREATER a_GREATER_OR_EQUAL))]))
    rw [show ((own_inc a_NOT_EQUAL a_EQUAL a_GREATER a_GREATER_OR_EQUAL) : Int32) = (0 : Int32) from by simp [own_inc, own_ne_ref (Fld.ne En_NOT_EQUAL.2.2 En_EQUAL.2.2 (by decide)), own_ne_ref (Fld.ne En_NOT_EQUAL.2.2 En_GREATER.2.2 (by decide)), own_ne_ref (Fld.ne En_NOT_EQUAL.2.2 En_GREATER_OR_EQUAL.2.2 (by decide))]]
    refine own_istore X14 hx hby at_14 (l' := #[.val (Value.int x0), .val (Value.int x1), .val (Value.ref a_NOT_EQUAL), .val (Value.int (x1 ||| (-2147483648 : Int32))), .val (Value.int (0 : Int32))]) rfl ?_
    show own_G p e below s _ _ _ (T14.setTop (mkF m 16 #[.val (Value.int x0), .val (Value.int x1), .val (Value.ref a_NOT_EQUAL), .val (Value.int (x1 ||| (-2147483648 : Int32))), .val (Value.int (0 : Int32))] []))
    refine own_iload X14 hx hby at_16 rfl ?_
    show own_G p e below s _ _ _ (T14.setTop (mkF m 18 #[.val (Value.int x0), .val (Value.int x1), .val (Value.ref a_NOT_EQUAL), .val (Value.int (x1 ||| (-2147483648 : Int32))), .val (Value.int (0 : Int32))] [(Value.int (0 : Int32))]))
    refine own_if_eq X14 hx hby at_18 (pc' := 47) (by decide) (by decide) (fun hb15 => ?_) (fun hb15 => by exfalso; revert hb15; decide)
    show own_G p e below s _ _ _ (T14.setTop (mkF m 47 #[.val (Value.int x0), .val (Value.int x1), .val (Value.ref a_NOT_EQUAL), .val (Value.int (x1 ||| (-2147483648 : Int32))), .val (Value.int (0 : Int32))] []))
    refine own_aloadN X14 hx hby at_47 rfl rfl ?_
    show own_G p e below s _ _ _ (T14.setTop (mkF m 48 #[.val (Value.int x0), .val (Value.int x1), .val (Value.ref a_NOT_EQUAL), .val (Value.int (x1 ||| (-2147483648 : Int32))), .val (Value.int (0 : Int32))] [(Value.ref a_NOT_EQUAL)]))
    refine own_iloadN X14 hx hby at_48 rfl ?_
    show own_G p e below s _ _ _ (T14.setTop (mkF m 49 #[.val (Value.int x0), .val (Value.int x1), .val (Value.ref a_NOT_EQUAL), .val (Value.int (x1 ||| (-2147483648 : Int32))), .val (Value.int (0 : Int32))] [(Value.int (x1 ||| (-2147483648 : Int32))), (Value.ref a_NOT_EQUAL)]))
    obtain ⟨cq16, kq16, q16a, q16b, q16c⟩ := isOf (T := T14) hZ e14 (Exa.ext O0.2 En_NOT_EQUAL.2.1)
    obtain ⟨_, _, ⟨T16, L16, k16, n16⟩, -, X16, ⟨Lc16, hQ16, l16, y16, z16⟩, st16⟩ := X14.virtualBack hx (y := (⟨"com/example/gazetteer/gazetteer/partitions/Condition$Operator", "holds", "(I)Z"⟩ : MethodName)) (z := (⟨"com/example/gazetteer/gazetteer/partitions/Condition$Operator", "holds", "(I)Z"⟩ : MethodName)) hown (mvT hZ (own_w15 hw)) (mvT hZ (own_w16 hw)) (notFace_of_selects (args := #[]) (mvT hZ (own_w18 hw))) (mvT hZ (own_w18 hw)) (mvT hZ (own_w17 hw)) (by decide) (backOf (W := 0) (own_rm3 l Z a0 hw [] a_NOT_EQUAL (x1 ||| (-2147483648 : Int32)) (1 : Int32) h0 n0 O0  (Exa.ext O0.2 En_NOT_EQUAL.2.1) (Fld.ext O0.2 En_NOT_EQUAL.2.2) (by decide)) hZ (own_w19 hw) (own_w6 hw) (by decide) (by decide)) q16a q16c (g := (mkF m 49 #[.val (Value.int x0), .val (Value.int x1), .val (Value.ref a_NOT_EQUAL), .val (Value.int (x1 ||| (-2147483648 : Int32))), .val (Value.int (0 : Int32))] [(Value.int (x1 ||| (-2147483648 : Int32))), (Value.ref a_NOT_EQUAL)])) rfl (by rw [hml]; rfl) (Steps.refl _) (argsL := [(Value.int (x1 ||| (-2147483648 : Int32)))]) (rest := []) (lenOf own_pd3 rfl) rfl (by show 2 * 0 + _ ≤ _; exact Nat.le_of_eq rfl) (hb hby at_49) (fun _ _ => ⟨rfl, e14, (by decide : (0 : Nat) + 0 ≤ _), (by decide : (0 : Nat) + 0 ≤ _)⟩)
    dsimp only [Pt.U, Pt.locs, Pt.cells, Pt.slots] at X16 l16 y16 z16 st16 hQ16
    subst l16 y16 z16
    obtain ⟨rfl, e16, Nq16⟩ := hQ16
    have N16 := Fr.app N14 Nq16
    refine own_tr st16 ?_
    show own_G p e below s _ _ _ (T16.setTop (mkF m 52 #[.val (Value.int x0), .val (Value.int x1), .val (Value.ref a_NOT_EQUAL), .val (Value.int (x1 ||| (-2147483648 : Int32))), .val (Value.int (0 : Int32))] [(Value.int (own_holds (1 : Int32) (x1 ||| (-2147483648 : Int32))))]))
    rw [show ((own_holds (1 : Int32) (x1 ||| (-2147483648 : Int32))) : Int32) = (1 : Int32) from (own_holds_neg (own_negOr x1)).2.1]
    refine own_retN X16 hx hby hlk (t := .boolean) Bd.returns (by simp) at_52 (by decide) (by decide) ?_
    exact ⟨rfl, N16⟩
  · rw [show (own_pick ((x0 &&& (2147483647 : Int32)) % (6 : Int32)) a_EQUAL a_NOT_EQUAL a_LESS a_LESS_OR_EQUAL a_GREATER a_GREATER_OR_EQUAL) = a_LESS from by simp [own_pick, hk]]
    show own_G p e below s _ _ _ (T1.setTop (mkF m 4 #[.val (Value.int x0), .val (Value.int x1), .unset, .unset, .unset] [(Value.ref a_LESS)]))
    refine own_astoreN X1 hx hby at_4 rfl (l' := #[.val (Value.int x0), .val (Value.int x1), .val (Value.ref a_LESS), .unset, .unset]) rfl ?_
    show own_G p e below s _ _ _ (T1.setTop (mkF m 5 #[.val (Value.int x0), .val (Value.int x1), .val (Value.ref a_LESS), .unset, .unset] []))
    refine own_iloadN X1 hx hby at_5 rfl ?_
    show own_G p e below s _ _ _ (T1.setTop (mkF m 6 #[.val (Value.int x0), .val (Value.int x1), .val (Value.ref a_LESS), .unset, .unset] [(Value.int x1)]))
    refine own_ldcI X1 hx hby hZ hown (own_w8 hw) at_6 ?_
    show own_G p e below s _ _ _ (T1.setTop (mkF m 8 #[.val (Value.int x0), .val (Value.int x1), .val (Value.ref a_LESS), .unset, .unset] [(Value.int (-2147483648 : Int32)), (Value.int x1)]))
    refine own_ior X1 hx hby at_8 ?_
    show own_G p e below s _ _ _ (T1.setTop (mkF m 9 #[.val (Value.int x0), .val (Value.int x1), .val (Value.ref a_LESS), .unset, .unset] [(Value.int (x1 ||| (-2147483648 : Int32)))]))
    refine own_istoreN X1 hx hby at_9 (l' := #[.val (Value.int x0), .val (Value.int x1), .val (Value.ref a_LESS), .val (Value.int (x1 ||| (-2147483648 : Int32))), .unset]) rfl ?_
    show own_G p e below s _ _ _ (T1.setTop (mkF m 10 #[.val (Value.int x0), .val (Value.int x1), .val (Value.ref a_LESS), .val (Value.int (x1 ||| (-2147483648 : Int32))), .unset] []))
    refine own_aloadN X1 hx hby at_10 rfl rfl ?_
    show own_G p e below s _ _ _ (T1.setTop (mkF m 11 #[.val (Value.int x0), .val (Value.int x1), .val (Value.ref a_LESS), .val (Value.int (x1 ||| (-2147483648 : Int32))), .unset] [(Value.ref a_LESS)]))
    obtain ⟨cq17, kq17, q17a, q17b, q17c⟩ := isOf (T := T1) hZ e1 (Exa.ext O0.2 En_LESS.2.1)
    obtain ⟨_, _, ⟨T17, L17, k17, n17⟩, -, X17, ⟨Lc17, hQ17, l17, y17, z17⟩, st17⟩ := X1.virtualBack hx (y := (⟨"com/example/gazetteer/gazetteer/partitions/Condition$Operator", "boundsBelow", "()Z"⟩ : MethodName)) (z := (⟨"com/example/gazetteer/gazetteer/partitions/Condition$Operator", "boundsBelow", "()Z"⟩ : MethodName)) hown (mvT hZ (own_w9 hw)) (mvT hZ (own_w10 hw)) (notFace_of_selects (args := #[]) (mvT hZ (own_w12 hw))) (mvT hZ (own_w12 hw)) (mvT hZ (own_w11 hw)) (by decide) (backOf (W := 0) (own_rm2 l Z a0 hw [] a_LESS a_EQUAL a_NOT_EQUAL a_LESS a_LESS_OR_EQUAL a_GREATER a_GREATER_OR_EQUAL h0 n0 O0  En_EQUAL En_NOT_EQUAL En_LESS En_LESS_OR_EQUAL En_GREATER En_GREATER_OR_EQUAL) hZ (own_w13 hw) (own_w6 hw) (by decide) (by decide)) q17a q17c (g := (mkF m 11 #[.val (Value.int x0), .val (Value.int x1), .val (Value.ref a_LESS), .val (Value.int (x1 ||| (-2147483648 : Int32))), .unset] [(Value.ref a_LESS)])) rfl (by rw [hml]; rfl) (Steps.refl _) (argsL := []) (rest := []) (lenOf own_pd2 rfl) rfl (by show 2 * 0 + _ ≤ _; exact Nat.le_of_eq rfl) (hb hby at_11) (fun _ _ => ⟨rfl, e1, (by decide : (0 : Nat) + 0 ≤ _), (by decide : (0 : Nat) + 0 ≤ _)⟩)
    dsimp only [Pt.U, Pt.locs, Pt.cells, Pt.slots] at X17 l17 y17 z17 st17 hQ17
    subst l17 y17 z17
    obtain ⟨rfl, e17, Nq17⟩ := hQ17
    have N17 := Fr.app N1 Nq17
    refine own_tr st17 ?_
    show own_G p e below s _ _ _ (T17.setTop (mkF m 14 #[.val (Value.int x0), .val (Value.int x1), .val (Value.ref a_LESS), .val (Value.int (x1 ||| (-2147483648 : Int32))), .unset] [(Value.int (own_inc a_LESS a_EQUAL a_GREATER a_GREATER_OR_EQUAL))]))
    rw [show ((own_inc a_LESS a_EQUAL a_GREATER a_GREATER_OR_EQUAL) : Int32) = (0 : Int32) from by simp [own_inc, own_ne_ref (Fld.ne En_LESS.2.2 En_EQUAL.2.2 (by decide)), own_ne_ref (Fld.ne En_LESS.2.2 En_GREATER.2.2 (by decide)), own_ne_ref (Fld.ne En_LESS.2.2 En_GREATER_OR_EQUAL.2.2 (by decide))]]
    refine own_istore X17 hx hby at_14 (l' := #[.val (Value.int x0), .val (Value.int x1), .val (Value.ref a_LESS), .val (Value.int (x1 ||| (-2147483648 : Int32))), .val (Value.int (0 : Int32))]) rfl ?_
    show own_G p e below s _ _ _ (T17.setTop (mkF m 16 #[.val (Value.int x0), .val (Value.int x1), .val (Value.ref a_LESS), .val (Value.int (x1 ||| (-2147483648 : Int32))), .val (Value.int (0 : Int32))] []))
    refine own_iload X17 hx hby at_16 rfl ?_
    show own_G p e below s _ _ _ (T17.setTop (mkF m 18 #[.val (Value.int x0), .val (Value.int x1), .val (Value.ref a_LESS), .val (Value.int (x1 ||| (-2147483648 : Int32))), .val (Value.int (0 : Int32))] [(Value.int (0 : Int32))]))
    refine own_if_eq X17 hx hby at_18 (pc' := 47) (by decide) (by decide) (fun hb18 => ?_) (fun hb18 => by exfalso; revert hb18; decide)
    show own_G p e below s _ _ _ (T17.setTop (mkF m 47 #[.val (Value.int x0), .val (Value.int x1), .val (Value.ref a_LESS), .val (Value.int (x1 ||| (-2147483648 : Int32))), .val (Value.int (0 : Int32))] []))
    refine own_aloadN X17 hx hby at_47 rfl rfl ?_
    show own_G p e below s _ _ _ (T17.setTop (mkF m 48 #[.val (Value.int x0), .val (Value.int x1), .val (Value.ref a_LESS), .val (Value.int (x1 ||| (-2147483648 : Int32))), .val (Value.int (0 : Int32))] [(Value.ref a_LESS)]))
    refine own_iloadN X17 hx hby at_48 rfl ?_
    show own_G p e below s _ _ _ (T17.setTop (mkF m 49 #[.val (Value.int x0), .val (Value.int x1), .val (Value.ref a_LESS), .val (Value.int (x1 ||| (-2147483648 : Int32))), .val (Value.int (0 : Int32))] [(Value.int (x1 ||| (-2147483648 : Int32))), (Value.ref a_LESS)]))
    obtain ⟨cq19, kq19, q19a, q19b, q19c⟩ := isOf (T := T17) hZ e17 (Exa.ext O0.2 En_LESS.2.1)
    obtain ⟨_, _, ⟨T19, L19, k19, n19⟩, -, X19, ⟨Lc19, hQ19, l19, y19, z19⟩, st19⟩ := X17.virtualBack hx (y := (⟨"com/example/gazetteer/gazetteer/partitions/Condition$Operator", "holds", "(I)Z"⟩ : MethodName)) (z := (⟨"com/example/gazetteer/gazetteer/partitions/Condition$Operator", "holds", "(I)Z"⟩ : MethodName)) hown (mvT hZ (own_w15 hw)) (mvT hZ (own_w16 hw)) (notFace_of_selects (args := #[]) (mvT hZ (own_w18 hw))) (mvT hZ (own_w18 hw)) (mvT hZ (own_w17 hw)) (by decide) (backOf (W := 0) (own_rm3 l Z a0 hw [] a_LESS (x1 ||| (-2147483648 : Int32)) (2 : Int32) h0 n0 O0  (Exa.ext O0.2 En_LESS.2.1) (Fld.ext O0.2 En_LESS.2.2) (by decide)) hZ (own_w19 hw) (own_w6 hw) (by decide) (by decide)) q19a q19c (g := (mkF m 49 #[.val (Value.int x0), .val (Value.int x1), .val (Value.ref a_LESS), .val (Value.int (x1 ||| (-2147483648 : Int32))), .val (Value.int (0 : Int32))] [(Value.int (x1 ||| (-2147483648 : Int32))), (Value.ref a_LESS)])) rfl (by rw [hml]; rfl) (Steps.refl _) (argsL := [(Value.int (x1 ||| (-2147483648 : Int32)))]) (rest := []) (lenOf own_pd3 rfl) rfl (by show 2 * 0 + _ ≤ _; exact Nat.le_of_eq rfl) (hb hby at_49) (fun _ _ => ⟨rfl, e17, (by decide : (0 : Nat) + 0 ≤ _), (by decide : (0 : Nat) + 0 ≤ _)⟩)
    dsimp only [Pt.U, Pt.locs, Pt.cells, Pt.slots] at X19 l19 y19 z19 st19 hQ19
    subst l19 y19 z19
    obtain ⟨rfl, e19, Nq19⟩ := hQ19
    have N19 := Fr.app N17 Nq19
    refine own_tr st19 ?_
    show own_G p e below s _ _ _ (T19.setTop (mkF m 52 #[.val (Value.int x0), .val (Value.int x1), .val (Value.ref a_LESS), .val (Value.int (x1 ||| (-2147483648 : Int32))), .val (Value.int (0 : Int32))] [(Value.int (own_holds (2 : Int32) (x1 ||| (-2147483648 : Int32))))]))
    rw [show ((own_holds (2 : Int32) (x1 ||| (-2147483648 : Int32))) : Int32) = (1 : Int32) from (own_holds_neg (own_negOr x1)).2.2.1]
    refine own_retN X19 hx hby hlk (t := .boolean) Bd.returns (by simp) at_52 (by decide) (by decide) ?_
    exact ⟨rfl, N19⟩
  · rw [show (own_pick ((x0 &&& (2147483647 : Int32)) % (6 : Int32)) a_EQUAL a_NOT_EQUAL a_LESS a_LESS_OR_EQUAL a_GREATER a_GREATER_OR_EQUAL) = a_LESS_OR_EQUAL from by simp [own_pick, hk]]
    show own_G p e below s _ _ _ (T1.setTop (mkF m 4 #[.val (Value.int x0), .val (Value.int x1), .unset, .unset, .unset] [(Value.ref a_LESS_OR_EQUAL)]))
    refine own_astoreN X1 hx hby at_4 rfl (l' := #[.val (Value.int x0), .val (Value.int x1), .val (Value.ref a_LESS_OR_EQUAL), .unset, .unset]) rfl ?_
    show own_G p e below s _ _ _ (T1.setTop (mkF m 5 #[.val (Value.int x0), .val (Value.int x1), .val (Value.ref a_LESS_OR_EQUAL), .unset, .unset] []))
    refine own_iloadN X1 hx hby at_5 rfl ?_
    show own_G p e below s _ _ _ (T1.setTop (mkF m 6 #[.val (Value.int x0), .val (Value.int x1), .val (Value.ref a_LESS_OR_EQUAL), .unset, .unset] [(Value.int x1)]))
    refine own_ldcI X1 hx hby hZ hown (own_w8 hw) at_6 ?_
    show own_G p e below s _ _ _ (T1.setTop (mkF m 8 #[.val (Value.int x0), .val (Value.int x1), .val (Value.ref a_LESS_OR_EQUAL), .unset, .unset] [(Value.int (-2147483648 : Int32)), (Value.int x1)]))
    refine own_ior X1 hx hby at_8 ?_
    show own_G p e below s _ _ _ (T1.setTop (mkF m 9 #[.val (Value.int x0), .val (Value.int x1), .val (Value.ref a_LESS_OR_EQUAL), .unset, .unset] [(Value.int (x1 ||| (-2147483648 : Int32)))]))
    refine own_istoreN X1 hx hby at_9 (l' := #[.val (Value.int x0), .val (Value.int x1), .val (Value.ref a_LESS_OR_EQUAL), .val (Value.int (x1 ||| (-2147483648 : Int32))), .unset]) rfl ?_
    show own_G p e below s _ _ _ (T1.setTop (mkF m 10 #[.val (Value.int x0), .val (Value.int x1), .val (Value.ref a_LESS_OR_EQUAL), .val (Value.int (x1 ||| (-2147483648 : Int32))), .unset] []))
    refine own_aloadN X1 hx hby at_10 rfl rfl ?_
    show own_G p e below s _ _ _ (T1.setTop (mkF m 11 #[.val (Value.int x0), .val (Value.int x1), .val (Value.ref a_LESS_OR_EQUAL), .val (Value.int (x1 ||| (-2147483648 : Int32))), .unset] [(Value.ref a_LESS_OR_EQUAL)]))
    obtain ⟨cq20, kq20, q20a, q20b, q20c⟩ := isOf (T := T1) hZ e1 (Exa.ext O0.2 En_LESS_OR_EQUAL.2.1)
    obtain ⟨_, _, ⟨T20, L20, k20, n20⟩, -, X20, ⟨Lc20, hQ20, l20, y20, z20⟩, st20⟩ := X1.virtualBack hx (y := (⟨"com/example/gazetteer/gazetteer/partitions/Condition$Operator", "boundsBelow", "()Z"⟩ : MethodName)) (z := (⟨"com/example/gazetteer/gazetteer/partitions/Condition$Operator", "boundsBelow", "()Z"⟩ : MethodName)) hown (mvT hZ (own_w9 hw)) (mvT hZ (own_w10 hw)) (notFace_of_selects (args := #[]) (mvT hZ (own_w12 hw))) (mvT hZ (own_w12 hw)) (mvT hZ (own_w11 hw)) (by decide) (backOf (W := 0) (own_rm2 l Z a0 hw [] a_LESS_OR_EQUAL a_EQUAL a_NOT_EQUAL a_LESS a_LESS_OR_EQUAL a_GREATER a_GREATER_OR_EQUAL h0 n0 O0  En_EQUAL En_NOT_EQUAL En_LESS En_LESS_OR_EQUAL En_GREATER En_GREATER_OR_EQUAL) hZ (own_w13 hw) (own_w6 hw) (by decide) (by decide)) q20a q20c (g := (mkF m 11 #[.val (Value.int x0), .val (Value.int x1), .val (Value.ref a_LESS_OR_EQUAL), .val (Value.int (x1 ||| (-2147483648 : Int32))), .unset] [(Value.ref a_LESS_OR_EQUAL)])) rfl (by rw [hml]; rfl) (Steps.refl _) (argsL := []) (rest := []) (lenOf own_pd2 rfl) rfl (by show 2 * 0 + _ ≤ _; exact Nat.le_of_eq rfl) (hb hby at_11) (fun _ _ => ⟨rfl, e1, (by decide : (0 : Nat) + 0 ≤ _), (by decide : (0 : Nat) + 0 ≤ _)⟩)
    dsimp only [Pt.U, Pt.locs, Pt.cells, Pt.slots] at X20 l20 y20 z20 st20 hQ20
    subst l20 y20 z20
    obtain ⟨rfl, e20, Nq20⟩ := hQ20
    have N20 := Fr.app N1 Nq20
    refine own_tr st20 ?_
    show own_G p e below s _ _ _ (T20.setTop (mkF m 14 #[.val (Value.int x0), .val (Value.int x1), .val (Value.ref a_LESS_OR_EQUAL), .val (Value.int (x1 ||| (-2147483648 : Int32))), .unset] [(Value.int (own_inc a_LESS_OR_EQUAL a_EQUAL a_GREATER a_GREATER_OR_EQUAL))]))
    rw [show ((own_inc a_LESS_OR_EQUAL a_EQUAL a_GREATER a_GREATER_OR_EQUAL) : Int32) = (0 : Int32) from by simp [own_inc, own_ne_ref (Fld.ne En_LESS_OR_EQUAL.2.2 En_EQUAL.2.2 (by decide)), own_ne_ref (Fld.ne En_LESS_OR_EQUAL.2.2 En_GREATER.2.2 (by decide)), own_ne_ref (Fld.ne En_LESS_OR_EQUAL.2.2 En_GREATER_OR_EQUAL.2.2 (by decide))]]
    refine own_istore X20 hx hby at_14 (l' := #[.val (Value.int x0), .val (Value.int x1), .val (Value.ref a_LESS_OR_EQUAL), .val (Value.int (x1 ||| (-2147483648 : Int32))), .val (Value.int (0 : Int32))]) rfl ?_
    show own_G p e below s _ _ _ (T20.setTop (mkF m 16 #[.val (Value.int x0), .val (Value.int x1), .val (Value.ref a_LESS_OR_EQUAL), .val (Value.int (x1 ||| (-2147483648 : Int32))), .val (Value.int (0 : Int32))] []))
    refine own_iload X20 hx hby at_16 rfl ?_
    show own_G p e below s _ _ _ (T20.setTop (mkF m 18 #[.val (Value.int x0), .val (Value.int x1), .val (Value.ref a_LESS_OR_EQUAL), .val (Value.int (x1 ||| (-2147483648 : Int32))), .val (Value.int (0 : Int32))] [(Value.int (0 : Int32))]))
    refine own_if_eq X20 hx hby at_18 (pc' := 47) (by decide) (by decide) (fun hb21 => ?_) (fun hb21 => by exfalso; revert hb21; decide)
    show own_G p e below s _ _ _ (T20.setTop (mkF m 47 #[.val (Value.int x0), .val (Value.int x1), .val (Value.ref a_LESS_OR_EQUAL), .val (Value.int (x1 ||| (-2147483648 : Int32))), .val (Value.int (0 : Int32))] []))
    refine own_aloadN X20 hx hby at_47 rfl rfl ?_
    show own_G p e below s _ _ _ (T20.setTop (mkF m 48 #[.val (Value.int x0), .val (Value.int x1), .val (Value.ref a_LESS_OR_EQUAL), .val (Value.int (x1 ||| (-2147483648 : Int32))), .val (Value.int (0 : Int32))] [(Value.ref a_LESS_OR_EQUAL)]))
    refine own_iloadN X20 hx hby at_48 rfl ?_
    show own_G p e below s _ _ _ (T20.setTop (mkF m 49 #[.val (Value.int x0), .val (Value.int x1), .val (Value.ref a_LESS_OR_EQUAL), .val (Value.int (x1 ||| (-2147483648 : Int32))), .val (Value.int (0 : Int32))] [(Value.int (x1 ||| (-2147483648 : Int32))), (Value.ref a_LESS_OR_EQUAL)]))
    obtain ⟨cq22, kq22, q22a, q22b, q22c⟩ := isOf (T := T20) hZ e20 (Exa.ext O0.2 En_LESS_OR_EQUAL.2.1)
    obtain ⟨_, _, ⟨T22, L22, k22, n22⟩, -, X22, ⟨Lc22, hQ22, l22, y22, z22⟩, st22⟩ := X20.virtualBack hx (y := (⟨"com/example/gazetteer/gazetteer/partitions/Condition$Operator", "holds", "(I)Z"⟩ : MethodName)) (z := (⟨"com/example/gazetteer/gazetteer/partitions/Condition$Operator", "holds", "(I)Z"⟩ : MethodName)) hown (mvT hZ (own_w15 hw)) (mvT hZ (own_w16 hw)) (notFace_of_selects (args := #[]) (mvT hZ (own_w18 hw))) (mvT hZ (own_w18 hw)) (mvT hZ (own_w17 hw)) (by decide) (backOf (W := 0) (own_rm3 l Z a0 hw [] a_LESS_OR_EQUAL (x1 ||| (-2147483648 : Int32)) (3 : Int32) h0 n0 O0  (Exa.ext O0.2 En_LESS_OR_EQUAL.2.1) (Fld.ext O0.2 En_LESS_OR_EQUAL.2.2) (by decide)) hZ (own_w19 hw) (own_w6 hw) (by decide) (by decide)) q22a q22c (g := (mkF m 49 #[.val (Value.int x0), .val (Value.int x1), .val (Value.ref a_LESS_OR_EQUAL), .val (Value.int (x1 ||| (-2147483648 : Int32))), .val (Value.int (0 : Int32))] [(Value.int (x1 ||| (-2147483648 : Int32))), (Value.ref a_LESS_OR_EQUAL)])) rfl (by rw [hml]; rfl) (Steps.refl _) (argsL := [(Value.int (x1 ||| (-2147483648 : Int32)))]) (rest := []) (lenOf own_pd3 rfl) rfl (by show 2 * 0 + _ ≤ _; exact Nat.le_of_eq rfl) (hb hby at_49) (fun _ _ => ⟨rfl, e20, (by decide : (0 : Nat) + 0 ≤ _), (by decide : (0 : Nat) + 0 ≤ _)⟩)
    dsimp only [Pt.U, Pt.locs, Pt.cells, Pt.slots] at X22 l22 y22 z22 st22 hQ22
    subst l22 y22 z22
    obtain ⟨rfl, e22, Nq22⟩ := hQ22
    have N22 := Fr.app N20 Nq22
    refine own_tr st22 ?_
    show own_G p e below s _ _ _ (T22.setTop (mkF m 52 #[.val (Value.int x0), .val (Value.int x1), .val (Value.ref a_LESS_OR_EQUAL), .val (Value.int (x1 ||| (-2147483648 : Int32))), .val (Value.int (0 : Int32))] [(Value.int (own_holds (3 : Int32) (x1 ||| (-2147483648 : Int32))))]))
    rw [show ((own_holds (3 : Int32) (x1 ||| (-2147483648 : Int32))) : Int32) = (1 : Int32) from (own_holds_neg (own_negOr x1)).2.2.2.1]
    refine own_retN X22 hx hby hlk (t := .boolean) Bd.returns (by simp) at_52 (by decide) (by decide) ?_
    exact ⟨rfl, N22⟩
  · rw [show (own_pick ((x0 &&& (2147483647 : Int32)) % (6 : Int32)) a_EQUAL a_NOT_EQUAL a_LESS a_LESS_OR_EQUAL a_GREATER a_GREATER_OR_EQUAL) = a_GREATER from by simp [own_pick, hk]]
    show own_G p e below s _ _ _ (T1.setTop (mkF m 4 #[.val (Value.int x0), .val (Value.int x1), .unset, .unset, .unset] [(Value.ref a_GREATER)]))
    refine own_astoreN X1 hx hby at_4 rfl (l' := #[.val (Value.int x0), .val (Value.int x1), .val (Value.ref a_GREATER), .unset, .unset]) rfl ?_
    show own_G p e below s _ _ _ (T1.setTop (mkF m 5 #[.val (Value.int x0), .val (Value.int x1), .val (Value.ref a_GREATER), .unset, .unset] []))
    refine own_iloadN X1 hx hby at_5 rfl ?_
    show own_G p e below s _ _ _ (T1.setTop (mkF m 6 #[.val (Value.int x0), .val (Value.int x1), .val (Value.ref a_GREATER), .unset, .unset] [(Value.int x1)]))
    refine own_ldcI X1 hx hby hZ hown (own_w8 hw) at_6 ?_
    show own_G p e below s _ _ _ (T1.setTop (mkF m 8 #[.val (Value.int x0), .val (Value.int x1), .val (Value.ref a_GREATER), .unset, .unset] [(Value.int (-2147483648 : Int32)), (Value.int x1)]))
    refine own_ior X1 hx hby at_8 ?_
    show own_G p e below s _ _ _ (T1.setTop (mkF m 9 #[.val (Value.int x0), .val (Value.int x1), .val (Value.ref a_GREATER), .unset, .unset] [(Value.int (x1 ||| (-2147483648 : Int32)))]))
    refine own_istoreN X1 hx hby at_9 (l' := #[.val (Value.int x0), .val (Value.int x1), .val (Value.ref a_GREATER), .val (Value.int (x1 ||| (-2147483648 : Int32))), .unset]) rfl ?_
    show own_G p e below s _ _ _ (T1.setTop (mkF m 10 #[.val (Value.int x0), .val (Value.int x1), .val (Value.ref a_GREATER), .val (Value.int (x1 ||| (-2147483648 : Int32))), .unset] []))
    refine own_aloadN X1 hx hby at_10 rfl rfl ?_
    show own_G p e below s _ _ _ (T1.setTop (mkF m 11 #[.val (Value.int x0), .val (Value.int x1), .val (Value.ref a_GREATER), .val (Value.int (x1 ||| (-2147483648 : Int32))), .unset] [(Value.ref a_GREATER)]))
    obtain ⟨cq23, kq23, q23a, q23b, q23c⟩ := isOf (T := T1) hZ e1 (Exa.ext O0.2 En_GREATER.2.1)
    obtain ⟨_, _, ⟨T23, L23, k23, n23⟩, -, X23, ⟨Lc23, hQ23, l23, y23, z23⟩, st23⟩ := X1.virtualBack hx (y := (⟨"com/example/gazetteer/gazetteer/partitions/Condition$Operator", "boundsBelow", "()Z"⟩ : MethodName)) (z := (⟨"com/example/gazetteer/gazetteer/partitions/Condition$Operator", "boundsBelow", "()Z"⟩ : MethodName)) hown (mvT hZ (own_w9 hw)) (mvT hZ (own_w10 hw)) (notFace_of_selects (args := #[]) (mvT hZ (own_w12 hw))) (mvT hZ (own_w12 hw)) (mvT hZ (own_w11 hw)) (by decide) (backOf (W := 0) (own_rm2 l Z a0 hw [] a_GREATER a_EQUAL a_NOT_EQUAL a_LESS a_LESS_OR_EQUAL a_GREATER a_GREATER_OR_EQUAL h0 n0 O0  En_EQUAL En_NOT_EQUAL En_LESS En_LESS_OR_EQUAL En_GREATER En_GREATER_OR_EQUAL) hZ (own_w13 hw) (own_w6 hw) (by decide) (by decide)) q23a q23c (g := (mkF m 11 #[.val (Value.int x0), .val (Value.int x1), .val (Value.ref a_GREATER), .val (Value.int (x1 ||| (-2147483648 : Int32))), .unset] [(Value.ref a_GREATER)])) rfl (by rw [hml]; rfl) (Steps.refl _) (argsL := []) (rest := []) (lenOf own_pd2 rfl) rfl (by show 2 * 0 + _ ≤ _; exact Nat.le_of_eq rfl) (hb hby at_11) (fun _ _ => ⟨rfl, e1, (by decide : (0 : Nat) + 0 ≤ _), (by decide : (0 : Nat) + 0 ≤ _)⟩)
    dsimp only [Pt.U, Pt.locs, Pt.cells, Pt.slots] at X23 l23 y23 z23 st23 hQ23
    subst l23 y23 z23
    obtain ⟨rfl, e23, Nq23⟩ := hQ23
    have N23 := Fr.app N1 Nq23
    refine own_tr st23 ?_
    show own_G p e below s _ _ _ (T23.setTop (mkF m 14 #[.val (Value.int x0), .val (Value.int x1), .val (Value.ref a_GREATER), .val (Value.int (x1 ||| (-2147483648 : Int32))), .unset] [(Value.int (own_inc a_GREATER a_EQUAL a_GREATER a_GREATER_OR_EQUAL))]))
    rw [show ((own_inc a_GREATER a_EQUAL a_GREATER a_GREATER_OR_EQUAL) : Int32) = (1 : Int32) from by simp [own_inc, own_ne_ref (Fld.ne En_GREATER.2.2 En_EQUAL.2.2 (by decide)), own_ne_ref (Fld.ne En_GREATER.2.2 En_GREATER_OR_EQUAL.2.2 (by decide))]]
    refine own_istore X23 hx hby at_14 (l' := #[.val (Value.int x0), .val (Value.int x1), .val (Value.ref a_GREATER), .val (Value.int (x1 ||| (-2147483648 : Int32))), .val (Value.int (1 : Int32))]) rfl ?_
    show own_G p e below s _ _ _ (T23.setTop (mkF m 16 #[.val (Value.int x0), .val (Value.int x1), .val (Value.ref a_GREATER), .val (Value.int (x1 ||| (-2147483648 : Int32))), .val (Value.int (1 : Int32))] []))
    refine own_iload X23 hx hby at_16 rfl ?_
    show own_G p e below s _ _ _ (T23.setTop (mkF m 18 #[.val (Value.int x0), .val (Value.int x1), .val (Value.ref a_GREATER), .val (Value.int (x1 ||| (-2147483648 : Int32))), .val (Value.int (1 : Int32))] [(Value.int (1 : Int32))]))
    refine own_if_eq X23 hx hby at_18 (pc' := 47) (by decide) (by decide) (fun hb24 => by exfalso; revert hb24; decide) (fun hb24 => ?_)
    show own_G p e below s _ _ _ (T23.setTop (mkF m 21 #[.val (Value.int x0), .val (Value.int x1), .val (Value.ref a_GREATER), .val (Value.int (x1 ||| (-2147483648 : Int32))), .val (Value.int (1 : Int32))] []))
    refine own_aloadN X23 hx hby at_21 rfl rfl ?_
    show own_G p e below s _ _ _ (T23.setTop (mkF m 22 #[.val (Value.int x0), .val (Value.int x1), .val (Value.ref a_GREATER), .val (Value.int (x1 ||| (-2147483648 : Int32))), .val (Value.int (1 : Int32))] [(Value.ref a_GREATER)]))
    refine own_iloadN X23 hx hby at_22 rfl ?_
    show own_G p e below s _ _ _ (T23.setTop (mkF m 23 #[.val (Value.int x0), .val (Value.int x1), .val (Value.ref a_GREATER), .val (Value.int (x1 ||| (-2147483648 : Int32))), .val (Value.int (1 : Int32))] [(Value.int x1), (Value.ref a_GREATER)]))
    obtain ⟨cq25, kq25, q25a, q25b, q25c⟩ := isOf (T := T23) hZ e23 (Exa.ext O0.2 En_GREATER.2.1)
    obtain ⟨_, _, ⟨T25, L25, k25, n25⟩, -, X25, ⟨Lc25, hQ25, l25, y25, z25⟩, st25⟩ := X23.virtualBack hx (y := (⟨"com/example/gazetteer/gazetteer/partitions/Condition$Operator", "holds", "(I)Z"⟩ : MethodName)) (z := (⟨"com/example/gazetteer/gazetteer/partitions/Condition$Operator", "holds", "(I)Z"⟩ : MethodName)) hown (mvT hZ (own_w15 hw)) (mvT hZ (own_w16 hw)) (notFace_of_selects (args := #[]) (mvT hZ (own_w18 hw))) (mvT hZ (own_w18 hw)) (mvT hZ (own_w17 hw)) (by decide) (backOf (W := 0) (own_rm3 l Z a0 hw [] a_GREATER x1 (4 : Int32) h0 n0 O0  (Exa.ext O0.2 En_GREATER.2.1) (Fld.ext O0.2 En_GREATER.2.2) (by decide)) hZ (own_w19 hw) (own_w6 hw) (by decide) (by decide)) q25a q25c (g := (mkF m 23 #[.val (Value.int x0), .val (Value.int x1), .val (Value.ref a_GREATER), .val (Value.int (x1 ||| (-2147483648 : Int32))), .val (Value.int (1 : Int32))] [(Value.int x1), (Value.ref a_GREATER)])) rfl (by rw [hml]; rfl) (Steps.refl _) (argsL := [(Value.int x1)]) (rest := []) (lenOf own_pd3 rfl) rfl (by show 2 * 0 + _ ≤ _; exact Nat.le_of_eq rfl) (hb hby at_23) (fun _ _ => ⟨rfl, e23, (by decide : (0 : Nat) + 0 ≤ _), (by decide : (0 : Nat) + 0 ≤ _)⟩)
    dsimp only [Pt.U, Pt.locs, Pt.cells, Pt.slots] at X25 l25 y25 z25 st25 hQ25
    subst l25 y25 z25
    obtain ⟨rfl, e25, Nq25⟩ := hQ25
    have N25 := Fr.app N23 Nq25
    refine own_tr st25 ?_
    show own_G p e below s _ _ _ (T25.setTop (mkF m 26 #[.val (Value.int x0), .val (Value.int x1), .val (Value.ref a_GREATER), .val (Value.int (x1 ||| (-2147483648 : Int32))), .val (Value.int (1 : Int32))] [(Value.int (own_holds (4 : Int32) x1))]))
    by_cases hc : x1 < (0 : Int32)
    · rw [show ((own_holds (4 : Int32) x1) : Int32) = (0 : Int32) from (own_holds_neg hc).2.2.2.2.1]
      show own_G p e below s _ _ _ (T25.setTop (mkF m 26 #[.val (Value.int x0), .val (Value.int x1), .val (Value.ref a_GREATER), .val (Value.int (x1 ||| (-2147483648 : Int32))), .val (Value.int (1 : Int32))] [(Value.int (0 : Int32))]))
      refine own_if_eq X25 hx hby at_26 (pc' := 33) (by decide) (by decide) (fun hb26 => ?_) (fun hb26 => by exfalso; revert hb26; decide)
      show own_G p e below s _ _ _ (T25.setTop (mkF m 33 #[.val (Value.int x0), .val (Value.int x1), .val (Value.ref a_GREATER), .val (Value.int (x1 ||| (-2147483648 : Int32))), .val (Value.int (1 : Int32))] []))
      refine own_aloadN X25 hx hby at_33 rfl rfl ?_
      show own_G p e below s _ _ _ (T25.setTop (mkF m 34 #[.val (Value.int x0), .val (Value.int x1), .val (Value.ref a_GREATER), .val (Value.int (x1 ||| (-2147483648 : Int32))), .val (Value.int (1 : Int32))] [(Value.ref a_GREATER)]))
      refine own_iloadN X25 hx hby at_34 rfl ?_
      show own_G p e below s _ _ _ (T25.setTop (mkF m 35 #[.val (Value.int x0), .val (Value.int x1), .val (Value.ref a_GREATER), .val (Value.int (x1 ||| (-2147483648 : Int32))), .val (Value.int (1 : Int32))] [(Value.int (x1 ||| (-2147483648 : Int32))), (Value.ref a_GREATER)]))
      obtain ⟨cq27, kq27, q27a, q27b, q27c⟩ := isOf (T := T25) hZ e25 (Exa.ext O0.2 En_GREATER.2.1)
      obtain ⟨_, _, ⟨T27, L27, k27, n27⟩, -, X27, ⟨Lc27, hQ27, l27, y27, z27⟩, st27⟩ := X25.virtualBack hx (y := (⟨"com/example/gazetteer/gazetteer/partitions/Condition$Operator", "holds", "(I)Z"⟩ : MethodName)) (z := (⟨"com/example/gazetteer/gazetteer/partitions/Condition$Operator", "holds", "(I)Z"⟩ : MethodName)) hown (mvT hZ (own_w15 hw)) (mvT hZ (own_w16 hw)) (notFace_of_selects (args := #[]) (mvT hZ (own_w18 hw))) (mvT hZ (own_w18 hw)) (mvT hZ (own_w17 hw)) (by decide) (backOf (W := 0) (own_rm3 l Z a0 hw [] a_GREATER (x1 ||| (-2147483648 : Int32)) (4 : Int32) h0 n0 O0  (Exa.ext O0.2 En_GREATER.2.1) (Fld.ext O0.2 En_GREATER.2.2) (by decide)) hZ (own_w19 hw) (own_w6 hw) (by decide) (by decide)) q27a q27c (g := (mkF m 35 #[.val (Value.int x0), .val (Value.int x1), .val (Value.ref a_GREATER), .val (Value.int (x1 ||| (-2147483648 : Int32))), .val (Value.int (1 : Int32))] [(Value.int (x1 ||| (-2147483648 : Int32))), (Value.ref a_GREATER)])) rfl (by rw [hml]; rfl) (Steps.refl _) (argsL := [(Value.int (x1 ||| (-2147483648 : Int32)))]) (rest := []) (lenOf own_pd3 rfl) rfl (by show 2 * 0 + _ ≤ _; exact Nat.le_of_eq rfl) (hb hby at_35) (fun _ _ => ⟨rfl, e25, (by decide : (0 : Nat) + 0 ≤ _), (by decide : (0 : Nat) + 0 ≤ _)⟩)
      dsimp only [Pt.U, Pt.locs, Pt.cells, Pt.slots] at X27 l27 y27 z27 st27 hQ27
      subst l27 y27 z27
      obtain ⟨rfl, e27, Nq27⟩ := hQ27
      have N27 := Fr.app N25 Nq27
      refine own_tr st27 ?_
      show own_G p e below s _ _ _ (T27.setTop (mkF m 38 #[.val (Value.int x0), .val (Value.int x1), .val (Value.ref a_GREATER), .val (Value.int (x1 ||| (-2147483648 : Int32))), .val (Value.int (1 : Int32))] [(Value.int (own_holds (4 : Int32) (x1 ||| (-2147483648 : Int32))))]))
      rw [show ((own_holds (4 : Int32) (x1 ||| (-2147483648 : Int32))) : Int32) = (0 : Int32) from (own_holds_neg (own_negOr x1)).2.2.2.2.1]
      refine own_if_ne X27 hx hby at_38 (pc' := 45) (by decide) (by decide) (fun hb28 => by exfalso; revert hb28; decide) (fun hb28 => ?_)
      show own_G p e below s _ _ _ (T27.setTop (mkF m 41 #[.val (Value.int x0), .val (Value.int x1), .val (Value.ref a_GREATER), .val (Value.int (x1 ||| (-2147483648 : Int32))), .val (Value.int (1 : Int32))] []))
      refine own_iconst X27 hx hby at_41 ?_
      show own_G p e below s _ _ _ (T27.setTop (mkF m 42 #[.val (Value.int x0), .val (Value.int x1), .val (Value.ref a_GREATER), .val (Value.int (x1 ||| (-2147483648 : Int32))), .val (Value.int (1 : Int32))] [(Value.int (1 : Int32))]))
      refine own_goto X27 hx hby at_42 (pc' := 46) (by decide) (by decide) ?_
      show own_G p e below s _ _ _ (T27.setTop (mkF m 46 #[.val (Value.int x0), .val (Value.int x1), .val (Value.ref a_GREATER), .val (Value.int (x1 ||| (-2147483648 : Int32))), .val (Value.int (1 : Int32))] [(Value.int (1 : Int32))]))
      refine own_retN X27 hx hby hlk (t := .boolean) Bd.returns (by simp) at_46 (by decide) (by decide) ?_
      exact ⟨rfl, N27⟩
    · skip
      show own_G p e below s _ _ _ (T25.setTop (mkF m 26 #[.val (Value.int x0), .val (Value.int x1), .val (Value.ref a_GREATER), .val (Value.int (x1 ||| (-2147483648 : Int32))), .val (Value.int (1 : Int32))] [(Value.int (own_holds (4 : Int32) x1))]))
      refine own_if_eq X25 hx hby at_26 (pc' := 33) (by decide) (by decide) (fun hb29 => ?_) (fun hb29 => ?_)
      · show own_G p e below s _ _ _ (T25.setTop (mkF m 33 #[.val (Value.int x0), .val (Value.int x1), .val (Value.ref a_GREATER), .val (Value.int (x1 ||| (-2147483648 : Int32))), .val (Value.int (1 : Int32))] []))
        refine own_aloadN X25 hx hby at_33 rfl rfl ?_
        show own_G p e below s _ _ _ (T25.setTop (mkF m 34 #[.val (Value.int x0), .val (Value.int x1), .val (Value.ref a_GREATER), .val (Value.int (x1 ||| (-2147483648 : Int32))), .val (Value.int (1 : Int32))] [(Value.ref a_GREATER)]))
        refine own_iloadN X25 hx hby at_34 rfl ?_
        show own_G p e below s _ _ _ (T25.setTop (mkF m 35 #[.val (Value.int x0), .val (Value.int x1), .val (Value.ref a_GREATER), .val (Value.int (x1 ||| (-2147483648 : Int32))), .val (Value.int (1 : Int32))] [(Value.int (x1 ||| (-2147483648 : Int32))), (Value.ref a_GREATER)]))
        obtain ⟨cq30, kq30, q30a, q30b, q30c⟩ := isOf (T := T25) hZ e25 (Exa.ext O0.2 En_GREATER.2.1)
        obtain ⟨_, _, ⟨T30, L30, k30, n30⟩, -, X30, ⟨Lc30, hQ30, l30, y30, z30⟩, st30⟩ := X25.virtualBack hx (y := (⟨"com/example/gazetteer/gazetteer/partitions/Condition$Operator", "holds", "(I)Z"⟩ : MethodName)) (z := (⟨"com/example/gazetteer/gazetteer/partitions/Condition$Operator", "holds", "(I)Z"⟩ : MethodName)) hown (mvT hZ (own_w15 hw)) (mvT hZ (own_w16 hw)) (notFace_of_selects (args := #[]) (mvT hZ (own_w18 hw))) (mvT hZ (own_w18 hw)) (mvT hZ (own_w17 hw)) (by decide) (backOf (W := 0) (own_rm3 l Z a0 hw [] a_GREATER (x1 ||| (-2147483648 : Int32)) (4 : Int32) h0 n0 O0  (Exa.ext O0.2 En_GREATER.2.1) (Fld.ext O0.2 En_GREATER.2.2) (by decide)) hZ (own_w19 hw) (own_w6 hw) (by decide) (by decide)) q30a q30c (g := (mkF m 35 #[.val (Value.int x0), .val (Value.int x1), .val (Value.ref a_GREATER), .val (Value.int (x1 ||| (-2147483648 : Int32))), .val (Value.int (1 : Int32))] [(Value.int (x1 ||| (-2147483648 : Int32))), (Value.ref a_GREATER)])) rfl (by rw [hml]; rfl) (Steps.refl _) (argsL := [(Value.int (x1 ||| (-2147483648 : Int32)))]) (rest := []) (lenOf own_pd3 rfl) rfl (by show 2 * 0 + _ ≤ _; exact Nat.le_of_eq rfl) (hb hby at_35) (fun _ _ => ⟨rfl, e25, (by decide : (0 : Nat) + 0 ≤ _), (by decide : (0 : Nat) + 0 ≤ _)⟩)
        dsimp only [Pt.U, Pt.locs, Pt.cells, Pt.slots] at X30 l30 y30 z30 st30 hQ30
        subst l30 y30 z30
        obtain ⟨rfl, e30, Nq30⟩ := hQ30
        have N30 := Fr.app N25 Nq30
        refine own_tr st30 ?_
        show own_G p e below s _ _ _ (T30.setTop (mkF m 38 #[.val (Value.int x0), .val (Value.int x1), .val (Value.ref a_GREATER), .val (Value.int (x1 ||| (-2147483648 : Int32))), .val (Value.int (1 : Int32))] [(Value.int (own_holds (4 : Int32) (x1 ||| (-2147483648 : Int32))))]))
        rw [show ((own_holds (4 : Int32) (x1 ||| (-2147483648 : Int32))) : Int32) = (0 : Int32) from (own_holds_neg (own_negOr x1)).2.2.2.2.1]
        refine own_if_ne X30 hx hby at_38 (pc' := 45) (by decide) (by decide) (fun hb31 => by exfalso; revert hb31; decide) (fun hb31 => ?_)
        show own_G p e below s _ _ _ (T30.setTop (mkF m 41 #[.val (Value.int x0), .val (Value.int x1), .val (Value.ref a_GREATER), .val (Value.int (x1 ||| (-2147483648 : Int32))), .val (Value.int (1 : Int32))] []))
        refine own_iconst X30 hx hby at_41 ?_
        show own_G p e below s _ _ _ (T30.setTop (mkF m 42 #[.val (Value.int x0), .val (Value.int x1), .val (Value.ref a_GREATER), .val (Value.int (x1 ||| (-2147483648 : Int32))), .val (Value.int (1 : Int32))] [(Value.int (1 : Int32))]))
        refine own_goto X30 hx hby at_42 (pc' := 46) (by decide) (by decide) ?_
        show own_G p e below s _ _ _ (T30.setTop (mkF m 46 #[.val (Value.int x0), .val (Value.int x1), .val (Value.ref a_GREATER), .val (Value.int (x1 ||| (-2147483648 : Int32))), .val (Value.int (1 : Int32))] [(Value.int (1 : Int32))]))
        refine own_retN X30 hx hby hlk (t := .boolean) Bd.returns (by simp) at_46 (by decide) (by decide) ?_
        exact ⟨rfl, N30⟩
      · show own_G p e below s _ _ _ (T25.setTop (mkF m 29 #[.val (Value.int x0), .val (Value.int x1), .val (Value.ref a_GREATER), .val (Value.int (x1 ||| (-2147483648 : Int32))), .val (Value.int (1 : Int32))] []))
        refine own_iloadN X25 hx hby at_29 rfl ?_
        show own_G p e below s _ _ _ (T25.setTop (mkF m 30 #[.val (Value.int x0), .val (Value.int x1), .val (Value.ref a_GREATER), .val (Value.int (x1 ||| (-2147483648 : Int32))), .val (Value.int (1 : Int32))] [(Value.int x1)]))
        refine own_if_lt X25 hx hby at_30 (pc' := 45) (by decide) (by decide) (fun hb32 => by exfalso; exact hc hb32) (fun hb32 => ?_)
        show own_G p e below s _ _ _ (T25.setTop (mkF m 33 #[.val (Value.int x0), .val (Value.int x1), .val (Value.ref a_GREATER), .val (Value.int (x1 ||| (-2147483648 : Int32))), .val (Value.int (1 : Int32))] []))
        refine own_aloadN X25 hx hby at_33 rfl rfl ?_
        show own_G p e below s _ _ _ (T25.setTop (mkF m 34 #[.val (Value.int x0), .val (Value.int x1), .val (Value.ref a_GREATER), .val (Value.int (x1 ||| (-2147483648 : Int32))), .val (Value.int (1 : Int32))] [(Value.ref a_GREATER)]))
        refine own_iloadN X25 hx hby at_34 rfl ?_
        show own_G p e below s _ _ _ (T25.setTop (mkF m 35 #[.val (Value.int x0), .val (Value.int x1), .val (Value.ref a_GREATER), .val (Value.int (x1 ||| (-2147483648 : Int32))), .val (Value.int (1 : Int32))] [(Value.int (x1 ||| (-2147483648 : Int32))), (Value.ref a_GREATER)]))
        obtain ⟨cq33, kq33, q33a, q33b, q33c⟩ := isOf (T := T25) hZ e25 (Exa.ext O0.2 En_GREATER.2.1)
        obtain ⟨_, _, ⟨T33, L33, k33, n33⟩, -, X33, ⟨Lc33, hQ33, l33, y33, z33⟩, st33⟩ := X25.virtualBack hx (y := (⟨"com/example/gazetteer/gazetteer/partitions/Condition$Operator", "holds", "(I)Z"⟩ : MethodName)) (z := (⟨"com/example/gazetteer/gazetteer/partitions/Condition$Operator", "holds", "(I)Z"⟩ : MethodName)) hown (mvT hZ (own_w15 hw)) (mvT hZ (own_w16 hw)) (notFace_of_selects (args := #[]) (mvT hZ (own_w18 hw))) (mvT hZ (own_w18 hw)) (mvT hZ (own_w17 hw)) (by decide) (backOf (W := 0) (own_rm3 l Z a0 hw [] a_GREATER (x1 ||| (-2147483648 : Int32)) (4 : Int32) h0 n0 O0  (Exa.ext O0.2 En_GREATER.2.1) (Fld.ext O0.2 En_GREATER.2.2) (by decide)) hZ (own_w19 hw) (own_w6 hw) (by decide) (by decide)) q33a q33c (g := (mkF m 35 #[.val (Value.int x0), .val (Value.int x1), .val (Value.ref a_GREATER), .val (Value.int (x1 ||| (-2147483648 : Int32))), .val (Value.int (1 : Int32))] [(Value.int (x1 ||| (-2147483648 : Int32))), (Value.ref a_GREATER)])) rfl (by rw [hml]; rfl) (Steps.refl _) (argsL := [(Value.int (x1 ||| (-2147483648 : Int32)))]) (rest := []) (lenOf own_pd3 rfl) rfl (by show 2 * 0 + _ ≤ _; exact Nat.le_of_eq rfl) (hb hby at_35) (fun _ _ => ⟨rfl, e25, (by decide : (0 : Nat) + 0 ≤ _), (by decide : (0 : Nat) + 0 ≤ _)⟩)
        dsimp only [Pt.U, Pt.locs, Pt.cells, Pt.slots] at X33 l33 y33 z33 st33 hQ33
        subst l33 y33 z33
        obtain ⟨rfl, e33, Nq33⟩ := hQ33
        have N33 := Fr.app N25 Nq33
        refine own_tr st33 ?_
        show own_G p e below s _ _ _ (T33.setTop (mkF m 38 #[.val (Value.int x0), .val (Value.int x1), .val (Value.ref a_GREATER), .val (Value.int (x1 ||| (-2147483648 : Int32))), .val (Value.int (1 : Int32))] [(Value.int (own_holds (4 : Int32) (x1 ||| (-2147483648 : Int32))))]))
        rw [show ((own_holds (4 : Int32) (x1 ||| (-2147483648 : Int32))) : Int32) = (0 : Int32) from (own_holds_neg (own_negOr x1)).2.2.2.2.1]
        refine own_if_ne X33 hx hby at_38 (pc' := 45) (by decide) (by decide) (fun hb34 => by exfalso; revert hb34; decide) (fun hb34 => ?_)
        show own_G p e below s _ _ _ (T33.setTop (mkF m 41 #[.val (Value.int x0), .val (Value.int x1), .val (Value.ref a_GREATER), .val (Value.int (x1 ||| (-2147483648 : Int32))), .val (Value.int (1 : Int32))] []))
        refine own_iconst X33 hx hby at_41 ?_
        show own_G p e below s _ _ _ (T33.setTop (mkF m 42 #[.val (Value.int x0), .val (Value.int x1), .val (Value.ref a_GREATER), .val (Value.int (x1 ||| (-2147483648 : Int32))), .val (Value.int (1 : Int32))] [(Value.int (1 : Int32))]))
        refine own_goto X33 hx hby at_42 (pc' := 46) (by decide) (by decide) ?_
        show own_G p e below s _ _ _ (T33.setTop (mkF m 46 #[.val (Value.int x0), .val (Value.int x1), .val (Value.ref a_GREATER), .val (Value.int (x1 ||| (-2147483648 : Int32))), .val (Value.int (1 : Int32))] [(Value.int (1 : Int32))]))
        refine own_retN X33 hx hby hlk (t := .boolean) Bd.returns (by simp) at_46 (by decide) (by decide) ?_
        exact ⟨rfl, N33⟩
  · rw [show (own_pick ((x0 &&& (2147483647 : Int32)) % (6 : Int32)) a_EQUAL a_NOT_EQUAL a_LESS a_LESS_OR_EQUAL a_GREATER a_GREATER_OR_EQUAL) = a_GREATER_OR_EQUAL from by simp [own_pick, hk]]
    show own_G p e below s _ _ _ (T1.setTop (mkF m 4 #[.val (Value.int x0), .val (Value.int x1), .unset, .unset, .unset] [(Value.ref a_GREATER_OR_EQUAL)]))
    refine own_astoreN X1 hx hby at_4 rfl (l' := #[.val (Value.int x0), .val (Value.int x1), .val (Value.ref a_GREATER_OR_EQUAL), .unset, .unset]) rfl ?_
    show own_G p e below s _ _ _ (T1.setTop (mkF m 5 #[.val (Value.int x0), .val (Value.int x1), .val (Value.ref a_GREATER_OR_EQUAL), .unset, .unset] []))
    refine own_iloadN X1 hx hby at_5 rfl ?_
    show own_G p e below s _ _ _ (T1.setTop (mkF m 6 #[.val (Value.int x0), .val (Value.int x1), .val (Value.ref a_GREATER_OR_EQUAL), .unset, .unset] [(Value.int x1)]))
    refine own_ldcI X1 hx hby hZ hown (own_w8 hw) at_6 ?_
    show own_G p e below s _ _ _ (T1.setTop (mkF m 8 #[.val (Value.int x0), .val (Value.int x1), .val (Value.ref a_GREATER_OR_EQUAL), .unset, .unset] [(Value.int (-2147483648 : Int32)), (Value.int x1)]))
    refine own_ior X1 hx hby at_8 ?_
    show own_G p e below s _ _ _ (T1.setTop (mkF m 9 #[.val (Value.int x0), .val (Value.int x1), .val (Value.ref a_GREATER_OR_EQUAL), .unset, .unset] [(Value.int (x1 ||| (-2147483648 : Int32)))]))
    refine own_istoreN X1 hx hby at_9 (l' := #[.val (Value.int x0), .val (Value.int x1), .val (Value.ref a_GREATER_OR_EQUAL), .val (Value.int (x1 ||| (-2147483648 : Int32))), .unset]) rfl ?_
    show own_G p e below s _ _ _ (T1.setTop (mkF m 10 #[.val (Value.int x0), .val (Value.int x1), .val (Value.ref a_GREATER_OR_EQUAL), .val (Value.int (x1 ||| (-2147483648 : Int32))), .unset] []))
    refine own_aloadN X1 hx hby at_10 rfl rfl ?_
    show own_G p e below s _ _ _ (T1.setTop (mkF m 11 #[.val (Value.int x0), .val (Value.int x1), .val (Value.ref a_GREATER_OR_EQUAL), .val (Value.int (x1 ||| (-2147483648 : Int32))), .unset] [(Value.ref a_GREATER_OR_EQUAL)]))
    obtain ⟨cq35, kq35, q35a, q35b, q35c⟩ := isOf (T := T1) hZ e1 (Exa.ext O0.2 En_GREATER_OR_EQUAL.2.1)
    obtain ⟨_, _, ⟨T35, L35, k35, n35⟩, -, X35, ⟨Lc35, hQ35, l35, y35, z35⟩, st35⟩ := X1.virtualBack hx (y := (⟨"com/example/gazetteer/gazetteer/partitions/Condition$Operator", "boundsBelow", "()Z"⟩ : MethodName)) (z := (⟨"com/example/gazetteer/gazetteer/partitions/Condition$Operator", "boundsBelow", "()Z"⟩ : MethodName)) hown (mvT hZ (own_w9 hw)) (mvT hZ (own_w10 hw)) (notFace_of_selects (args := #[]) (mvT hZ (own_w12 hw))) (mvT hZ (own_w12 hw)) (mvT hZ (own_w11 hw)) (by decide) (backOf (W := 0) (own_rm2 l Z a0 hw [] a_GREATER_OR_EQUAL a_EQUAL a_NOT_EQUAL a_LESS a_LESS_OR_EQUAL a_GREATER a_GREATER_OR_EQUAL h0 n0 O0  En_EQUAL En_NOT_EQUAL En_LESS En_LESS_OR_EQUAL En_GREATER En_GREATER_OR_EQUAL) hZ (own_w13 hw) (own_w6 hw) (by decide) (by decide)) q35a q35c (g := (mkF m 11 #[.val (Value.int x0), .val (Value.int x1), .val (Value.ref a_GREATER_OR_EQUAL), .val (Value.int (x1 ||| (-2147483648 : Int32))), .unset] [(Value.ref a_GREATER_OR_EQUAL)])) rfl (by rw [hml]; rfl) (Steps.refl _) (argsL := []) (rest := []) (lenOf own_pd2 rfl) rfl (by show 2 * 0 + _ ≤ _; exact Nat.le_of_eq rfl) (hb hby at_11) (fun _ _ => ⟨rfl, e1, (by decide : (0 : Nat) + 0 ≤ _), (by decide : (0 : Nat) + 0 ≤ _)⟩)
    dsimp only [Pt.U, Pt.locs, Pt.cells, Pt.slots] at X35 l35 y35 z35 st35 hQ35
    subst l35 y35 z35
    obtain ⟨rfl, e35, Nq35⟩ := hQ35
    have N35 := Fr.app N1 Nq35
    refine own_tr st35 ?_
    show own_G p e below s _ _ _ (T35.setTop (mkF m 14 #[.val (Value.int x0), .val (Value.int x1), .val (Value.ref a_GREATER_OR_EQUAL), .val (Value.int (x1 ||| (-2147483648 : Int32))), .unset] [(Value.int (own_inc a_GREATER_OR_EQUAL a_EQUAL a_GREATER a_GREATER_OR_EQUAL))]))
    rw [show ((own_inc a_GREATER_OR_EQUAL a_EQUAL a_GREATER a_GREATER_OR_EQUAL) : Int32) = (1 : Int32) from by simp [own_inc, own_ne_ref (Fld.ne En_GREATER_OR_EQUAL.2.2 En_EQUAL.2.2 (by decide)), own_ne_ref (Fld.ne En_GREATER_OR_EQUAL.2.2 En_GREATER.2.2 (by decide))]]
    refine own_istore X35 hx hby at_14 (l' := #[.val (Value.int x0), .val (Value.int x1), .val (Value.ref a_GREATER_OR_EQUAL), .val (Value.int (x1 ||| (-2147483648 : Int32))), .val (Value.int (1 : Int32))]) rfl ?_
    show own_G p e below s _ _ _ (T35.setTop (mkF m 16 #[.val (Value.int x0), .val (Value.int x1), .val (Value.ref a_GREATER_OR_EQUAL), .val (Value.int (x1 ||| (-2147483648 : Int32))), .val (Value.int (1 : Int32))] []))
    refine own_iload X35 hx hby at_16 rfl ?_
    show own_G p e below s _ _ _ (T35.setTop (mkF m 18 #[.val (Value.int x0), .val (Value.int x1), .val (Value.ref a_GREATER_OR_EQUAL), .val (Value.int (x1 ||| (-2147483648 : Int32))), .val (Value.int (1 : Int32))] [(Value.int (1 : Int32))]))
    refine own_if_eq X35 hx hby at_18 (pc' := 47) (by decide) (by decide) (fun hb36 => by exfalso; revert hb36; decide) (fun hb36 => ?_)
    show own_G p e below s _ _ _ (T35.setTop (mkF m 21 #[.val (Value.int x0), .val (Value.int x1), .val (Value.ref a_GREATER_OR_EQUAL), .val (Value.int (x1 ||| (-2147483648 : Int32))), .val (Value.int (1 : Int32))] []))
    refine own_aloadN X35 hx hby at_21 rfl rfl ?_
    show own_G p e below s _ _ _ (T35.setTop (mkF m 22 #[.val (Value.int x0), .val (Value.int x1), .val (Value.ref a_GREATER_OR_EQUAL), .val (Value.int (x1 ||| (-2147483648 : Int32))), .val (Value.int (1 : Int32))] [(Value.ref a_GREATER_OR_EQUAL)]))
    refine own_iloadN X35 hx hby at_22 rfl ?_
    show own_G p e below s _ _ _ (T35.setTop (mkF m 23 #[.val (Value.int x0), .val (Value.int x1), .val (Value.ref a_GREATER_OR_EQUAL), .val (Value.int (x1 ||| (-2147483648 : Int32))), .val (Value.int (1 : Int32))] [(Value.int x1), (Value.ref a_GREATER_OR_EQUAL)]))
    obtain ⟨cq37, kq37, q37a, q37b, q37c⟩ := isOf (T := T35) hZ e35 (Exa.ext O0.2 En_GREATER_OR_EQUAL.2.1)
    obtain ⟨_, _, ⟨T37, L37, k37, n37⟩, -, X37, ⟨Lc37, hQ37, l37, y37, z37⟩, st37⟩ := X35.virtualBack hx (y := (⟨"com/example/gazetteer/gazetteer/partitions/Condition$Operator", "holds", "(I)Z"⟩ : MethodName)) (z := (⟨"com/example/gazetteer/gazetteer/partitions/Condition$Operator", "holds", "(I)Z"⟩ : MethodName)) hown (mvT hZ (own_w15 hw)) (mvT hZ (own_w16 hw)) (notFace_of_selects (args := #[]) (mvT hZ (own_w18 hw))) (mvT hZ (own_w18 hw)) (mvT hZ (own_w17 hw)) (by decide) (backOf (W := 0) (own_rm3 l Z a0 hw [] a_GREATER_OR_EQUAL x1 (5 : Int32) h0 n0 O0  (Exa.ext O0.2 En_GREATER_OR_EQUAL.2.1) (Fld.ext O0.2 En_GREATER_OR_EQUAL.2.2) (by decide)) hZ (own_w19 hw) (own_w6 hw) (by decide) (by decide)) q37a q37c (g := (mkF m 23 #[.val (Value.int x0), .val (Value.int x1), .val (Value.ref a_GREATER_OR_EQUAL), .val (Value.int (x1 ||| (-2147483648 : Int32))), .val (Value.int (1 : Int32))] [(Value.int x1), (Value.ref a_GREATER_OR_EQUAL)])) rfl (by rw [hml]; rfl) (Steps.refl _) (argsL := [(Value.int x1)]) (rest := []) (lenOf own_pd3 rfl) rfl (by show 2 * 0 + _ ≤ _; exact Nat.le_of_eq rfl) (hb hby at_23) (fun _ _ => ⟨rfl, e35, (by decide : (0 : Nat) + 0 ≤ _), (by decide : (0 : Nat) + 0 ≤ _)⟩)
    dsimp only [Pt.U, Pt.locs, Pt.cells, Pt.slots] at X37 l37 y37 z37 st37 hQ37
    subst l37 y37 z37
    obtain ⟨rfl, e37, Nq37⟩ := hQ37
    have N37 := Fr.app N35 Nq37
    refine own_tr st37 ?_
    show own_G p e below s _ _ _ (T37.setTop (mkF m 26 #[.val (Value.int x0), .val (Value.int x1), .val (Value.ref a_GREATER_OR_EQUAL), .val (Value.int (x1 ||| (-2147483648 : Int32))), .val (Value.int (1 : Int32))] [(Value.int (own_holds (5 : Int32) x1))]))
    by_cases hc : x1 < (0 : Int32)
    · rw [show ((own_holds (5 : Int32) x1) : Int32) = (0 : Int32) from (own_holds_neg hc).2.2.2.2.2]
      show own_G p e below s _ _ _ (T37.setTop (mkF m 26 #[.val (Value.int x0), .val (Value.int x1), .val (Value.ref a_GREATER_OR_EQUAL), .val (Value.int (x1 ||| (-2147483648 : Int32))), .val (Value.int (1 : Int32))] [(Value.int (0 : Int32))]))
      refine own_if_eq X37 hx hby at_26 (pc' := 33) (by decide) (by decide) (fun hb38 => ?_) (fun hb38 => by exfalso; revert hb38; decide)
      show own_G p e below s _ _ _ (T37.setTop (mkF m 33 #[.val (Value.int x0), .val (Value.int x1), .val (Value.ref a_GREATER_OR_EQUAL), .val (Value.int (x1 ||| (-2147483648 : Int32))), .val (Value.int (1 : Int32))] []))
      refine own_aloadN X37 hx hby at_33 rfl rfl ?_
      show own_G p e below s _ _ _ (T37.setTop (mkF m 34 #[.val (Value.int x0), .val (Value.int x1), .val (Value.ref a_GREATER_OR_EQUAL), .val (Value.int (x1 ||| (-2147483648 : Int32))), .val (Value.int (1 : Int32))] [(Value.ref a_GREATER_OR_EQUAL)]))
      refine own_iloadN X37 hx hby at_34 rfl ?_
      show own_G p e below s _ _ _ (T37.setTop (mkF m 35 #[.val (Value.int x0), .val (Value.int x1), .val (Value.ref a_GREATER_OR_EQUAL), .val (Value.int (x1 ||| (-2147483648 : Int32))), .val (Value.int (1 : Int32))] [(Value.int (x1 ||| (-2147483648 : Int32))), (Value.ref a_GREATER_OR_EQUAL)]))
      obtain ⟨cq39, kq39, q39a, q39b, q39c⟩ := isOf (T := T37) hZ e37 (Exa.ext O0.2 En_GREATER_OR_EQUAL.2.1)
      obtain ⟨_, _, ⟨T39, L39, k39, n39⟩, -, X39, ⟨Lc39, hQ39, l39, y39, z39⟩, st39⟩ := X37.virtualBack hx (y := (⟨"com/example/gazetteer/gazetteer/partitions/Condition$Operator", "holds", "(I)Z"⟩ : MethodName)) (z := (⟨"com/example/gazetteer/gazetteer/partitions/Condition$Operator", "holds", "(I)Z"⟩ : MethodName)) hown (mvT hZ (own_w15 hw)) (mvT hZ (own_w16 hw)) (notFace_of_selects (args := #[]) (mvT hZ (own_w18 hw))) (mvT hZ (own_w18 hw)) (mvT hZ (own_w17 hw)) (by decide) (backOf (W := 0) (own_rm3 l Z a0 hw [] a_GREATER_OR_EQUAL (x1 ||| (-2147483648 : Int32)) (5 : Int32) h0 n0 O0  (Exa.ext O0.2 En_GREATER_OR_EQUAL.2.1) (Fld.ext O0.2 En_GREATER_OR_EQUAL.2.2) (by decide)) hZ (own_w19 hw) (own_w6 hw) (by decide) (by decide)) q39a q39c (g := (mkF m 35 #[.val (Value.int x0), .val (Value.int x1), .val (Value.ref a_GREATER_OR_EQUAL), .val (Value.int (x1 ||| (-2147483648 : Int32))), .val (Value.int (1 : Int32))] [(Value.int (x1 ||| (-2147483648 : Int32))), (Value.ref a_GREATER_OR_EQUAL)])) rfl (by rw [hml]; rfl) (Steps.refl _) (argsL := [(Value.int (x1 ||| (-2147483648 : Int32)))]) (rest := []) (lenOf own_pd3 rfl) rfl (by show 2 * 0 + _ ≤ _; exact Nat.le_of_eq rfl) (hb hby at_35) (fun _ _ => ⟨rfl, e37, (by decide : (0 : Nat) + 0 ≤ _), (by decide : (0 : Nat) + 0 ≤ _)⟩)
      dsimp only [Pt.U, Pt.locs, Pt.cells, Pt.slots] at X39 l39 y39 z39 st39 hQ39
      subst l39 y39 z39
      obtain ⟨rfl, e39, Nq39⟩ := hQ39
      have N39 := Fr.app N37 Nq39
      refine own_tr st39 ?_
      show own_G p e below s _ _ _ (T39.setTop (mkF m 38 #[.val (Value.int x0), .val (Value.int x1), .val (Value.ref a_GREATER_OR_EQUAL), .val (Value.int (x1 ||| (-2147483648 : Int32))), .val (Value.int (1 : Int32))] [(Value.int (own_holds (5 : Int32) (x1 ||| (-2147483648 : Int32))))]))
      rw [show ((own_holds (5 : Int32) (x1 ||| (-2147483648 : Int32))) : Int32) = (0 : Int32) from (own_holds_neg (own_negOr x1)).2.2.2.2.2]
      refine own_if_ne X39 hx hby at_38 (pc' := 45) (by decide) (by decide) (fun hb40 => by exfalso; revert hb40; decide) (fun hb40 => ?_)
      show own_G p e below s _ _ _ (T39.setTop (mkF m 41 #[.val (Value.int x0), .val (Value.int x1), .val (Value.ref a_GREATER_OR_EQUAL), .val (Value.int (x1 ||| (-2147483648 : Int32))), .val (Value.int (1 : Int32))] []))
      refine own_iconst X39 hx hby at_41 ?_
      show own_G p e below s _ _ _ (T39.setTop (mkF m 42 #[.val (Value.int x0), .val (Value.int x1), .val (Value.ref a_GREATER_OR_EQUAL), .val (Value.int (x1 ||| (-2147483648 : Int32))), .val (Value.int (1 : Int32))] [(Value.int (1 : Int32))]))
      refine own_goto X39 hx hby at_42 (pc' := 46) (by decide) (by decide) ?_
      show own_G p e below s _ _ _ (T39.setTop (mkF m 46 #[.val (Value.int x0), .val (Value.int x1), .val (Value.ref a_GREATER_OR_EQUAL), .val (Value.int (x1 ||| (-2147483648 : Int32))), .val (Value.int (1 : Int32))] [(Value.int (1 : Int32))]))
      refine own_retN X39 hx hby hlk (t := .boolean) Bd.returns (by simp) at_46 (by decide) (by decide) ?_
      exact ⟨rfl, N39⟩
    · skip
      show own_G p e below s _ _ _ (T37.setTop (mkF m 26 #[.val (Value.int x0), .val (Value.int x1), .val (Value.ref a_GREATER_OR_EQUAL), .val (Value.int (x1 ||| (-2147483648 : Int32))), .val (Value.int (1 : Int32))] [(Value.int (own_holds (5 : Int32) x1))]))
      refine own_if_eq X37 hx hby at_26 (pc' := 33) (by decide) (by decide) (fun hb41 => ?_) (fun hb41 => ?_)
      · show own_G p e below s _ _ _ (T37.setTop (mkF m 33 #[.val (Value.int x0), .val (Value.int x1), .val (Value.ref a_GREATER_OR_EQUAL), .val (Value.int (x1 ||| (-2147483648 : Int32))), .val (Value.int (1 : Int32))] []))
        refine own_aloadN X37 hx hby at_33 rfl rfl ?_
        show own_G p e below s _ _ _ (T37.setTop (mkF m 34 #[.val (Value.int x0), .val (Value.int x1), .val (Value.ref a_GREATER_OR_EQUAL), .val (Value.int (x1 ||| (-2147483648 : Int32))), .val (Value.int (1 : Int32))] [(Value.ref a_GREATER_OR_EQUAL)]))
        refine own_iloadN X37 hx hby at_34 rfl ?_
        show own_G p e below s _ _ _ (T37.setTop (mkF m 35 #[.val (Value.int x0), .val (Value.int x1), .val (Value.ref a_GREATER_OR_EQUAL), .val (Value.int (x1 ||| (-2147483648 : Int32))), .val (Value.int (1 : Int32))] [(Value.int (x1 ||| (-2147483648 : Int32))), (Value.ref a_GREATER_OR_EQUAL)]))
        obtain ⟨cq42, kq42, q42a, q42b, q42c⟩ := isOf (T := T37) hZ e37 (Exa.ext O0.2 En_GREATER_OR_EQUAL.2.1)
        obtain ⟨_, _, ⟨T42, L42, k42, n42⟩, -, X42, ⟨Lc42, hQ42, l42, y42, z42⟩, st42⟩ := X37.virtualBack hx (y := (⟨"com/example/gazetteer/gazetteer/partitions/Condition$Operator", "holds", "(I)Z"⟩ : MethodName)) (z := (⟨"com/example/gazetteer/gazetteer/partitions/Condition$Operator", "holds", "(I)Z"⟩ : MethodName)) hown (mvT hZ (own_w15 hw)) (mvT hZ (own_w16 hw)) (notFace_of_selects (args := #[]) (mvT hZ (own_w18 hw))) (mvT hZ (own_w18 hw)) (mvT hZ (own_w17 hw)) (by decide) (backOf (W := 0) (own_rm3 l Z a0 hw [] a_GREATER_OR_EQUAL (x1 ||| (-2147483648 : Int32)) (5 : Int32) h0 n0 O0  (Exa.ext O0.2 En_GREATER_OR_EQUAL.2.1) (Fld.ext O0.2 En_GREATER_OR_EQUAL.2.2) (by decide)) hZ (own_w19 hw) (own_w6 hw) (by decide) (by decide)) q42a q42c (g := (mkF m 35 #[.val (Value.int x0), .val (Value.int x1), .val (Value.ref a_GREATER_OR_EQUAL), .val (Value.int (x1 ||| (-2147483648 : Int32))), .val (Value.int (1 : Int32))] [(Value.int (x1 ||| (-2147483648 : Int32))), (Value.ref a_GREATER_OR_EQUAL)])) rfl (by rw [hml]; rfl) (Steps.refl _) (argsL := [(Value.int (x1 ||| (-2147483648 : Int32)))]) (rest := []) (lenOf own_pd3 rfl) rfl (by show 2 * 0 + _ ≤ _; exact Nat.le_of_eq rfl) (hb hby at_35) (fun _ _ => ⟨rfl, e37, (by decide : (0 : Nat) + 0 ≤ _), (by decide : (0 : Nat) + 0 ≤ _)⟩)
        dsimp only [Pt.U, Pt.locs, Pt.cells, Pt.slots] at X42 l42 y42 z42 st42 hQ42
        subst l42 y42 z42
        obtain ⟨rfl, e42, Nq42⟩ := hQ42
        have N42 := Fr.app N37 Nq42
        refine own_tr st42 ?_
        show own_G p e below s _ _ _ (T42.setTop (mkF m 38 #[.val (Value.int x0), .val (Value.int x1), .val (Value.ref a_GREATER_OR_EQUAL), .val (Value.int (x1 ||| (-2147483648 : Int32))), .val (Value.int (1 : Int32))] [(Value.int (own_holds (5 : Int32) (x1 ||| (-2147483648 : Int32))))]))
        rw [show ((own_holds (5 : Int32) (x1 ||| (-2147483648 : Int32))) : Int32) = (0 : Int32) from (own_holds_neg (own_negOr x1)).2.2.2.2.2]
        refine own_if_ne X42 hx hby at_38 (pc' := 45) (by decide) (by decide) (fun hb43 => by exfalso; revert hb43; decide) (fun hb43 => ?_)
        show own_G p e below s _ _ _ (T42.setTop (mkF m 41 #[.val (Value.int x0), .val (Value.int x1), .val (Value.ref a_GREATER_OR_EQUAL), .val (Value.int (x1 ||| (-2147483648 : Int32))), .val (Value.int (1 : Int32))] []))
        refine own_iconst X42 hx hby at_41 ?_
        show own_G p e below s _ _ _ (T42.setTop (mkF m 42 #[.val (Value.int x0), .val (Value.int x1), .val (Value.ref a_GREATER_OR_EQUAL), .val (Value.int (x1 ||| (-2147483648 : Int32))), .val (Value.int (1 : Int32))] [(Value.int (1 : Int32))]))
        refine own_goto X42 hx hby at_42 (pc' := 46) (by decide) (by decide) ?_
        show own_G p e below s _ _ _ (T42.setTop (mkF m 46 #[.val (Value.int x0), .val (Value.int x1), .val (Value.ref a_GREATER_OR_EQUAL), .val (Value.int (x1 ||| (-2147483648 : Int32))), .val (Value.int (1 : Int32))] [(Value.int (1 : Int32))]))
        refine own_retN X42 hx hby hlk (t := .boolean) Bd.returns (by simp) at_46 (by decide) (by decide) ?_
        exact ⟨rfl, N42⟩
      · show own_G p e below s _ _ _ (T37.setTop (mkF m 29 #[.val (Value.int x0), .val (Value.int x1), .val (Value.ref a_GREATER_OR_EQUAL), .val (Value.int (x1 ||| (-2147483648 : Int32))), .val (Value.int (1 : Int32))] []))
        refine own_iloadN X37 hx hby at_29 rfl ?_
        show own_G p e below s _ _ _ (T37.setTop (mkF m 30 #[.val (Value.int x0), .val (Value.int x1), .val (Value.ref a_GREATER_OR_EQUAL), .val (Value.int (x1 ||| (-2147483648 : Int32))), .val (Value.int (1 : Int32))] [(Value.int x1)]))
        refine own_if_lt X37 hx hby at_30 (pc' := 45) (by decide) (by decide) (fun hb44 => by exfalso; exact hc hb44) (fun hb44 => ?_)
        show own_G p e below s _ _ _ (T37.setTop (mkF m 33 #[.val (Value.int x0), .val (Value.int x1), .val (Value.ref a_GREATER_OR_EQUAL), .val (Value.int (x1 ||| (-2147483648 : Int32))), .val (Value.int (1 : Int32))] []))
        refine own_aloadN X37 hx hby at_33 rfl rfl ?_
        show own_G p e below s _ _ _ (T37.setTop (mkF m 34 #[.val (Value.int x0), .val (Value.int x1), .val (Value.ref a_GREATER_OR_EQUAL), .val (Value.int (x1 ||| (-2147483648 : Int32))), .val (Value.int (1 : Int32))] [(Value.ref a_GREATER_OR_EQUAL)]))
        refine own_iloadN X37 hx hby at_34 rfl ?_
        show own_G p e below s _ _ _ (T37.setTop (mkF m 35 #[.val (Value.int x0), .val (Value.int x1), .val (Value.ref a_GREATER_OR_EQUAL), .val (Value.int (x1 ||| (-2147483648 : Int32))), .val (Value.int (1 : Int32))] [(Value.int (x1 ||| (-2147483648 : Int32))), (Value.ref a_GREATER_OR_EQUAL)]))
        obtain ⟨cq45, kq45, q45a, q45b, q45c⟩ := isOf (T := T37) hZ e37 (Exa.ext O0.2 En_GREATER_OR_EQUAL.2.1)
        obtain ⟨_, _, ⟨T45, L45, k45, n45⟩, -, X45, ⟨Lc45, hQ45, l45, y45, z45⟩, st45⟩ := X37.virtualBack hx (y := (⟨"com/example/gazetteer/gazetteer/partitions/Condition$Operator", "holds", "(I)Z"⟩ : MethodName)) (z := (⟨"com/example/gazetteer/gazetteer/partitions/Condition$Operator", "holds", "(I)Z"⟩ : MethodName)) hown (mvT hZ (own_w15 hw)) (mvT hZ (own_w16 hw)) (notFace_of_selects (args := #[]) (mvT hZ (own_w18 hw))) (mvT hZ (own_w18 hw)) (mvT hZ (own_w17 hw)) (by decide) (backOf (W := 0) (own_rm3 l Z a0 hw [] a_GREATER_OR_EQUAL (x1 ||| (-2147483648 : Int32)) (5 : Int32) h0 n0 O0  (Exa.ext O0.2 En_GREATER_OR_EQUAL.2.1) (Fld.ext O0.2 En_GREATER_OR_EQUAL.2.2) (by decide)) hZ (own_w19 hw) (own_w6 hw) (by decide) (by decide)) q45a q45c (g := (mkF m 35 #[.val (Value.int x0), .val (Value.int x1), .val (Value.ref a_GREATER_OR_EQUAL), .val (Value.int (x1 ||| (-2147483648 : Int32))), .val (Value.int (1 : Int32))] [(Value.int (x1 ||| (-2147483648 : Int32))), (Value.ref a_GREATER_OR_EQUAL)])) rfl (by rw [hml]; rfl) (Steps.refl _) (argsL := [(Value.int (x1 ||| (-2147483648 : Int32)))]) (rest := []) (lenOf own_pd3 rfl) rfl (by show 2 * 0 + _ ≤ _; exact Nat.le_of_eq rfl) (hb hby at_35) (fun _ _ => ⟨rfl, e37, (by decide : (0 : Nat) + 0 ≤ _), (by decide : (0 : Nat) + 0 ≤ _)⟩)
        dsimp only [Pt.U, Pt.locs, Pt.cells, Pt.slots] at X45 l45 y45 z45 st45 hQ45
        subst l45 y45 z45
        obtain ⟨rfl, e45, Nq45⟩ := hQ45
        have N45 := Fr.app N37 Nq45
        refine own_tr st45 ?_
        show own_G p e below s _ _ _ (T45.setTop (mkF m 38 #[.val (Value.int x0), .val (Value.int x1), .val (Value.ref a_GREATER_OR_EQUAL), .val (Value.int (x1 ||| (-2147483648 : Int32))), .val (Value.int (1 : Int32))] [(Value.int (own_holds (5 : Int32) (x1 ||| (-2147483648 : Int32))))]))
        rw [show ((own_holds (5 : Int32) (x1 ||| (-2147483648 : Int32))) : Int32) = (0 : Int32) from (own_holds_neg (own_negOr x1)).2.2.2.2.2]
        refine own_if_ne X45 hx hby at_38 (pc' := 45) (by decide) (by decide) (fun hb46 => by exfalso; revert hb46; decide) (fun hb46 => ?_)
        show own_G p e below s _ _ _ (T45.setTop (mkF m 41 #[.val (Value.int x0), .val (Value.int x1), .val (Value.ref a_GREATER_OR_EQUAL), .val (Value.int (x1 ||| (-2147483648 : Int32))), .val (Value.int (1 : Int32))] []))
        refine own_iconst X45 hx hby at_41 ?_
        show own_G p e below s _ _ _ (T45.setTop (mkF m 42 #[.val (Value.int x0), .val (Value.int x1), .val (Value.ref a_GREATER_OR_EQUAL), .val (Value.int (x1 ||| (-2147483648 : Int32))), .val (Value.int (1 : Int32))] [(Value.int (1 : Int32))]))
        refine own_goto X45 hx hby at_42 (pc' := 46) (by decide) (by decide) ?_
        show own_G p e below s _ _ _ (T45.setTop (mkF m 46 #[.val (Value.int x0), .val (Value.int x1), .val (Value.ref a_GREATER_OR_EQUAL), .val (Value.int (x1 ||| (-2147483648 : Int32))), .val (Value.int (1 : Int32))] [(Value.int (1 : Int32))]))
        refine own_retN X45 hx hby hlk (t := .boolean) Bd.returns (by simp) at_46 (by decide) (by decide) ?_
        exact ⟨rfl, N45⟩
set_option maxRecDepth 65536 in
set_option maxHeartbeats 40000000 in
theorem comes_1 {Post : Tables → Env → Array Value → State → Outcome → State → Prop} (hpost : ∀ tb e args s v u, (limb_1_1.after args s (.returned v) u = true ∧ limb_1_2.after args s (.returned v) u = true ∧ True) → FrameEnd s (.returned v) u (Jvm.fieldLocs frame_1_writes args s ++ Jvm.arrayLocs frame_1_arrays args s ++ Jvm.staticLocs frame_1_statics s) 0 0 → Post tb e args s (.returned v) u) :
    ArmFor flags0 classFile x code maxLocals ret World_1 tables_1 room_1 Calls_1 rest_1 Pre_1 Post := by
  intro l hfl _ _ p e ha hc hk s m args below hf hA hF happ hP
  obtain ⟨hcalls, hrest, hpre⟩ := hP
  obtain ⟨-, -, -, hnamed, -, -, -, hat⟩ := (Spec.applies_iff hf).mp happ
  obtain ⟨hg, hn⟩ := and_e (Cond.before_iff.mp (show (Jvm.Cond.and given_1 narrow_1).before args s = true from hpre))
  obtain ⟨hgc, hgr0⟩ := and_e hg
  obtain ⟨hga0, hgr1⟩ := and_e hgr0
  have hga1 := hgr1
  obtain ⟨w0, w1, rfl⟩ : ∃ w0 w1 : Value, args = #[w0, w1] := by
    have hs : args.size = 2 := by simpa [Cond.value, given_1] using hgc
    obtain ⟨L⟩ := args
    match L, hs with
    | [w0, w1], _ => exact ⟨w0, w1, rfl⟩
  have hw := fun d (hd : d ∈ tables_1) => atoms_spec (ws := Jvm.Cond.code x code maxLocals ret :: tables_1) hat d (List.mem_cons_of_mem _ hd)
  have hfit : Fit s := fun {y c} hc i hi => by
    obtain ⟨ha, rfl⟩ := Array.getElem?_eq_some_iff.mp hc
    have q := List.all_eq_true.mp ((Array.all_eq_true_iff_forall_mem.mp hF) _ (Array.getElem_mem ha)) i (List.mem_range.mpr hi)
    simpa [Array.getElem?_eq_getElem hi] using q
  obtain ⟨i0, ei0⟩ := is_v hga0
  obtain rfl : w0 = (.int i0) := Option.some.inj ei0
  obtain ⟨i1, ei1⟩ := is_v hga1
  obtain rfl : w1 = (.int i1) := Option.some.inj ei1
  obtain ⟨hn1a, hn1b⟩ := and_e hn
  obtain ⟨hn2a, hn2b⟩ := and_e hn1b
  obtain ⟨hn3a, hn3b⟩ := and_e hn2b
  obtain ⟨hn4a, hn4b⟩ := and_e hn3b
  obtain ⟨hn5a, hn5b⟩ := and_e hn4b
  obtain ⟨hn6a, hn6b⟩ := and_e hn5b
  obtain ⟨hn7a, hn7b⟩ := and_e hn6b
  obtain ⟨hn8a, hn8b⟩ := and_e hn7b
  obtain ⟨hn9a, hn9b⟩ := and_e hn8b
  obtain ⟨hn10a, hn10b⟩ := and_e hn9b
  obtain ⟨hn11a, hn11b⟩ := and_e hn10b
  obtain ⟨a_EQUAL, En_EQUAL⟩ := own_enum hn1a hn2a (own_w6 hw) (own_w7 hw)
  obtain ⟨a_NOT_EQUAL, En_NOT_EQUAL⟩ := own_enum hn9a hn10a (own_w6 hw) (own_w37 hw)
  obtain ⟨a_LESS, En_LESS⟩ := own_enum hn3a hn4a (own_w6 hw) (own_w30 hw)
  obtain ⟨a_LESS_OR_EQUAL, En_LESS_OR_EQUAL⟩ := own_enum hn11a hn11b (own_w6 hw) (own_w40 hw)
  obtain ⟨a_GREATER, En_GREATER⟩ := own_enum hn5a hn6a (own_w6 hw) (own_w32 hw)
  obtain ⟨a_GREATER_OR_EQUAL, En_GREATER_OR_EQUAL⟩ := own_enum hn7a hn8a (own_w6 hw) (own_w34 hw)
  obtain ⟨n, o, h1, h2, h3, _, L, rfl, ⟨rfl, N⟩, hq⟩ := own_rm0 l s _ hw tables_1 i0 i1 a_EQUAL a_NOT_EQUAL a_LESS a_LESS_OR_EQUAL a_GREATER a_GREATER_OR_EQUAL s.heap s.heap.size (Old.start s) En_EQUAL En_NOT_EQUAL En_LESS En_LESS_OR_EQUAL En_GREATER En_GREATER_OR_EQUAL p e ha hc hk s m _ below hf ((Spec.applies_iff_loose hf).mp happ).1 ⟨rfl, State.Warmed39.refl s, rfl⟩ trivial
  refine ⟨n, _, h1, h2, h3, hpost _ _ _ _ _ _ ⟨Cond.after_iff.mpr rfl, Cond.after_iff.mpr (eq_i res_at (Term.int_eval (1)) rfl), trivial⟩ ⟨hq.1, hq.2.1, (hq.2.2.sift fun y hy => Or.inr (N y hy)).mono (by decide) (by decide)⟩⟩
theorem main_1_1 : Claimed_1_1 := comes_1 fun _ _ _ _ _ _ h hF => ⟨h.1, hF⟩
theorem main_1_2 : Claimed_1_2 := comes_1 fun _ _ _ _ _ _ h hF => ⟨h.2.1, hF⟩
end Jvm.Pilot.@@N@@
namespace Jvm.Pilot.@@N@@
open Jvm Jvm.ClassFile Sem Op Lib Jvm.Free Jvm.Stand Jvm.Pilot.@@N@@.Jvm.D
/-! MADE BY PROGRAM (witnessworld.py) out of the Statement's table words and the real class files: 12 classes; the members and pool entries that the words name. The judged class is class 1, her method 2. -/
namespace start1
open Jvm.ClassFile
def u (s : String) : CpInfo := .utf8 (stringToUtf16 s)
/-- a pool by its gaps: so many unusable entries, then the entry; so many at the end -/
def gap : Nat → List CpInfo → List CpInfo
  | 0, r => r
  | n + 1, r => .unusable :: gap n r
def poolList (es : List (Nat × CpInfo)) (last : Nat) : List CpInfo := es.foldr (fun e r => gap e.1 (e.2 :: r)) (gap last [])
def pool (es : List (Nat × CpInfo)) (last : Nat) : Array CpInfo := ⟨poolList es last⟩
def fileOf (pool : Array CpInfo) (this : Nat) (attrs : Array Attribute := #[]) (ms : Array MethodInfo := #[]) (fl : Nat := 33) (sup : Nat := 0) (ifs : Array Nat := #[]) (fds : Array FieldInfo := #[]) : ClassFile where
  minorVersion := 0
  majorVersion := 65
  constantPool := pool
  accessFlags := fl
  thisClass := this
  superClass := sup
  interfaces := ifs
  fields := fds
  methods := ms
  attributes := attrs
def plain (name : String) (sup : Option ClassId) : Class where
  name := name
  kind := .ordinary
  loader := none
  accessFlags := 33
  super := sup
  interfaces := #[]
  cf := none
  fields := #[]
  methods := #[]
  instanceTypes := #[]
  staticTypes := #[]
  resolved := #[]
  callSites := []
  init := .initialized
  statics := none
  mirror := none

def pool0 : Array CpInfo := pool [(5, u "<init>"), (0, u "()V"), (1, .class_ 10), (1, u "java/lang/Object")] 113

def k0m0 : Method := { name := "<init>", desc := "()V", sig := { parameters := [], returnType := none }, accessFlags := 1, code := none }
/-- java/lang/Object -/
def k0 : Class := { plain "java/lang/Object" none with
  accessFlags := 33
  interfaces := #[]
  cf := some (fileOf pool0 8 #[] #[{ accessFlags := 1, nameIndex := 5, descriptorIndex := 6, attributes := #[] }] 33 0 #[] #[])
  fields := #[]
  methods := #[k0m0]
  instanceTypes := #[]
  staticTypes := #[]
  resolved := Array.replicate 124 none
  statics := none }

def pool1 : Array CpInfo := pool [(2, .class_ 4), (1, u "java/lang/Object"), (0, u "<init>"), (0, u "()V"), (0, .integer 2147483647), (0, .fieldref 9 10), (0, .class_ 11), (0, .nameAndType 12 13), (0, u "com/example/gazetteer/gazetteer/partitions/Condition$Operator"), (0, u "EQUAL"), (0, u "Lcom/example/gazetteer/gazetteer/partitions/Condition$Operator;"), (0, .fieldref 9 15), (0, .nameAndType 16 13), (0, u "NOT_EQUAL"), (0, .fieldref 9 18), (0, .nameAndType 19 13), (0, u "LESS"), (0, .fieldref 9 21), (0, .nameAndType 22 13), (0, u "LESS_OR_EQUAL"), (0, .fieldref 9 24), (0, .nameAndType 25 13), (0, u "GREATER"), (0, .fieldref 9 27), (0, .nameAndType 28 13), (0, u "GREATER_OR_EQUAL"), (0, .methodref 30 31), (0, .class_ 32), (0, .nameAndType 33 34), (0, u "com/example/gazetteer/gazetteer/partitions/OperatorBoundsBelowPinLaw"), (0, u "pick"), (0, u "(I)Lcom/example/gazetteer/gazetteer/partitions/Condition$Operator;"), (2, .integer 2147483648), (0, .methodref 9 39), (0, .nameAndType 40 41), (0, u "boundsBelow"), (0, u "()Z"), (0, .methodref 9 43), (0, .nameAndType 44 45), (0, u "holds"), (0, u "(I)Z"), (3, u "law"), (0, u "(II)Z")] 6

def k1m0 : Method := { name := "<init>", desc := "()V", sig := { parameters := [], returnType := none }, accessFlags := 2, code := none }
def k1c1 : Code := { maxStack := 2, maxLocals := 2, code := method_2_code, exceptionTable := #[], attributes := #[] }
def k1m1 : Method := { name := "pick", desc := "(I)Lcom/example/gazetteer/gazetteer/partitions/Condition$Operator;", sig := { parameters := [.int], returnType := some (.object "com/example/gazetteer/gazetteer/partitions/Condition$Operator") }, accessFlags := 10, code := some k1c1 }
def k1c2 : Code := { maxStack := 2, maxLocals := 5, code := code, exceptionTable := #[], attributes := #[] }
def k1m2 : Method := { name := "law", desc := "(II)Z", sig := { parameters := [.int, .int], returnType := some .boolean }, accessFlags := 9, code := some k1c2 }
/-- com/example/gazetteer/gazetteer/partitions/OperatorBoundsBelowPinLaw -/
def k1 : Class := { plain "com/example/gazetteer/gazetteer/partitions/OperatorBoundsBelowPinLaw" (some 0) with
  accessFlags := 49
  interfaces := #[]
  cf := some (fileOf pool1 30 #[] #[{ accessFlags := 2, nameIndex := 5, descriptorIndex := 6, attributes := #[] }, { accessFlags := 10, nameIndex := 33, descriptorIndex := 34, attributes := #[] }, { accessFlags := 9, nameIndex := 49, descriptorIndex := 50, attributes := #[] }] 49 2 #[] #[])
  fields := #[]
  methods := #[k1m0, k1m1, k1m2]
  instanceTypes := #[]
  staticTypes := #[]
  resolved := Array.replicate 57 none
  statics := none }

def pool2 : Array CpInfo := pool [(1, .class_ 2), (0, u "java/lang/constant/Constable"), (0, .class_ 4), (0, u "java/lang/Object")] 6

/-- java/lang/constant/Constable -/
def k2 : Class := { plain "java/lang/constant/Constable" (some 0) with
  accessFlags := 1537
  interfaces := #[]
  cf := some (fileOf pool2 1 #[] #[] 1537 3 #[] #[])
  fields := #[]
  methods := #[]
  instanceTypes := #[]
  staticTypes := #[]
  resolved := Array.replicate 11 none
  statics := none }

def pool3 : Array CpInfo := pool [(1, .class_ 2), (0, u "java/lang/Comparable"), (0, .class_ 4), (0, u "java/lang/Object")] 7

/-- java/lang/Comparable -/
def k3 : Class := { plain "java/lang/Comparable" (some 0) with
  accessFlags := 1537
  interfaces := #[]
  cf := some (fileOf pool3 1 #[] #[] 1537 3 #[] #[])
  fields := #[]
  methods := #[]
  instanceTypes := #[]
  staticTypes := #[]
  resolved := Array.replicate 12 none
  statics := none }

def pool4 : Array CpInfo := pool [(1, .class_ 2), (0, u "java/io/Serializable"), (0, .class_ 4), (0, u "java/lang/Object")] 2

/-- java/io/Serializable -/
def k4 : Class := { plain "java/io/Serializable" (some 0) with
  accessFlags := 1537
  interfaces := #[]
  cf := some (fileOf pool4 1 #[] #[] 1537 3 #[] #[])
  fields := #[]
  methods := #[]
  instanceTypes := #[]
  staticTypes := #[]
  resolved := Array.replicate 7 none
  statics := none }

def pool5 : Array CpInfo := pool [(2, .class_ 4), (1, u "java/lang/Enum"), (0, u "name"), (0, u "Ljava/lang/String;"), (0, .fieldref 2 8), (0, .nameAndType 9 10), (0, u "ordinal"), (0, u "I"), (1, .class_ 14), (1, u "java/lang/Object"), (4, u "hash"), (86, .class_ 108), (1, u "java/lang/Enum$EnumDesc"), (2, .class_ 112), (0, u "java/lang/constant/Constable"), (0, .class_ 114), (0, u "java/lang/Comparable"), (0, .class_ 116), (0, u "java/io/Serializable"), (9, u "()I")] 77

def k5c0 : Code := { maxStack := 1, maxLocals := 1, code := jdk_37_method_2_code, exceptionTable := #[], attributes := #[] }
def k5m0 : Method := { name := "ordinal", desc := "()I", sig := { parameters := [], returnType := some .int }, accessFlags := 17, code := some k5c0 }
/-- java/lang/Enum -/
def k5 : Class := { plain "java/lang/Enum" (some 0) with
  accessFlags := 1057
  interfaces := #[2, 3, 4]
  cf := some (fileOf pool5 2 #[.nestMembers #[106]] #[{ accessFlags := 17, nameIndex := 9, descriptorIndex := 126, attributes := #[] }] 1057 12 #[111, 113, 115] #[{ accessFlags := 18, nameIndex := 5, descriptorIndex := 6, attributes := #[] }, { accessFlags := 18, nameIndex := 9, descriptorIndex := 10, attributes := #[] }, { accessFlags := 2, nameIndex := 19, descriptorIndex := 10, attributes := #[] }])
  fields := #[{ name := "name", type := (.object "java/lang/String"), accessFlags := 18, slot := 0, constantValue := 0 }, { name := "ordinal", type := .int, accessFlags := 18, slot := 1, constantValue := 0 }, { name := "hash", type := .int, accessFlags := 2, slot := 2, constantValue := 0 }]
  methods := #[k5m0]
  instanceTypes := #[(.object "java/lang/String"), .int, .int]
  staticTypes := #[]
  resolved := Array.replicate 204 none
  statics := none }

def pool6 : Array CpInfo := pool [(1, .class_ 2), (0, u "com/example/gazetteer/gazetteer/partitions/Condition$Operator"), (0, .fieldref 1 4), (0, .nameAndType 5 6), (0, u "EQUAL"), (0, u "Lcom/example/gazetteer/gazetteer/partitions/Condition$Operator;"), (2, u "NOT_EQUAL"), (2, u "LESS"), (2, u "LESS_OR_EQUAL"), (0, .fieldref 1 17), (0, .nameAndType 18 6), (0, u "GREATER"), (0, .fieldref 1 20), (0, .nameAndType 21 6), (0, u "GREATER_OR_EQUAL"), (2, u "$VALUES"), (0, u "[Lcom/example/gazetteer/gazetteer/partitions/Condition$Operator;"), (6, .class_ 34), (1, u "java/lang/Enum"), (6, .methodref 1 42), (0, .nameAndType 43 44), (0, u "ordinal"), (0, u "()I"), (23, u "holds"), (0, u "(I)Z"), (1, u "boundsBelow"), (0, u "()Z"), (6, .class_ 80), (0, u "com/example/gazetteer/gazetteer/partitions/Condition")] 2

def k6c0 : Code := { maxStack := 4, maxLocals := 2, code := prog_69_method_4_code, exceptionTable := #[], attributes := #[] }
def k6m0 : Method := { name := "holds", desc := "(I)Z", sig := { parameters := [.int], returnType := some .boolean }, accessFlags := 0, code := some k6c0 }
def k6c1 : Code := { maxStack := 2, maxLocals := 1, code := prog_69_method_5_code, exceptionTable := #[], attributes := #[] }
def k6m1 : Method := { name := "boundsBelow", desc := "()Z", sig := { parameters := [], returnType := some .boolean }, accessFlags := 0, code := some k6c1 }
/-- com/example/gazetteer/gazetteer/partitions/Condition$Operator -/
def k6 : Class := { plain "com/example/gazetteer/gazetteer/partitions/Condition$Operator" (some 5) with
  accessFlags := 16433
  interfaces := #[]
  cf := some (fileOf pool6 1 #[.nestHost 79] #[{ accessFlags := 0, nameIndex := 68, descriptorIndex := 69, attributes := #[] }, { accessFlags := 0, nameIndex := 71, descriptorIndex := 72, attributes := #[] }] 16433 32 #[] #[{ accessFlags := 16409, nameIndex := 5, descriptorIndex := 6, attributes := #[] }, { accessFlags := 16409, nameIndex := 9, descriptorIndex := 6, attributes := #[] }, { accessFlags := 16409, nameIndex := 12, descriptorIndex := 6, attributes := #[] }, { accessFlags := 16409, nameIndex := 15, descriptorIndex := 6, attributes := #[] }, { accessFlags := 16409, nameIndex := 18, descriptorIndex := 6, attributes := #[] }, { accessFlags := 16409, nameIndex := 21, descriptorIndex := 6, attributes := #[] }, { accessFlags := 4122, nameIndex := 24, descriptorIndex := 25, attributes := #[] }])
  fields := #[{ name := "EQUAL", type := (.object "com/example/gazetteer/gazetteer/partitions/Condition$Operator"), accessFlags := 16409, slot := 0, constantValue := 0 }, { name := "NOT_EQUAL", type := (.object "com/example/gazetteer/gazetteer/partitions/Condition$Operator"), accessFlags := 16409, slot := 1, constantValue := 0 }, { name := "LESS", type := (.object "com/example/gazetteer/gazetteer/partitions/Condition$Operator"), accessFlags := 16409, slot := 2, constantValue := 0 }, { name := "LESS_OR_EQUAL", type := (.object "com/example/gazetteer/gazetteer/partitions/Condition$Operator"), accessFlags := 16409, slot := 3, constantValue := 0 }, { name := "GREATER", type := (.object "com/example/gazetteer/gazetteer/partitions/Condition$Operator"), accessFlags := 16409, slot := 4, constantValue := 0 }, { name := "GREATER_OR_EQUAL", type := (.object "com/example/gazetteer/gazetteer/partitions/Condition$Operator"), accessFlags := 16409, slot := 5, constantValue := 0 }, { name := "$VALUES", type := (.array (.object "com/example/gazetteer/gazetteer/partitions/Condition$Operator")), accessFlags := 4122, slot := 6, constantValue := 0 }]
  methods := #[k6m0, k6m1]
  instanceTypes := #[(.object "java/lang/String"), .int, .int]
  staticTypes := #[(.object "com/example/gazetteer/gazetteer/partitions/Condition$Operator"), (.object "com/example/gazetteer/gazetteer/partitions/Condition$Operator"), (.object "com/example/gazetteer/gazetteer/partitions/Condition$Operator"), (.object "com/example/gazetteer/gazetteer/partitions/Condition$Operator"), (.object "com/example/gazetteer/gazetteer/partitions/Condition$Operator"), (.object "com/example/gazetteer/gazetteer/partitions/Condition$Operator"), (.array (.object "com/example/gazetteer/gazetteer/partitions/Condition$Operator"))]
  resolved := Array.replicate 83 none
  statics := some 0 }

def pool7 : Array CpInfo := pool [(1, u "java/lang/Cloneable"), (0, .class_ 1), (0, u "java/lang/Object"), (0, .class_ 3)] 3

/-- java/lang/Cloneable -/
def k7 : Class := { plain "java/lang/Cloneable" (some 0) with
  accessFlags := 1537
  interfaces := #[]
  cf := some (fileOf pool7 2 #[] #[] 1537 4 #[] #[])
  fields := #[]
  methods := #[]
  instanceTypes := #[]
  staticTypes := #[]
  resolved := Array.replicate 8 none
  statics := none }

/-- the primitive byte -/
def k8 : Class := { plain "byte" none with kind := .primitive 'B', accessFlags := 0x411 }
/-- [B -/
def k9 : Class := { plain "[B" (some 0) with kind := .array 8 .byte, interfaces := #[7, 4], accessFlags := 1041 }

/-- the primitive int -/
def k10 : Class := { plain "int" none with kind := .primitive 'I', accessFlags := 0x411 }
/-- [I -/
def k11 : Class := { plain "[I" (some 0) with kind := .array 10 .int, interfaces := #[7, 4], accessFlags := 1041 }

def heap : Heap := #[{ cls := 6, slots := #[.ref 1, .ref 2, .ref 3, .ref 4, .ref 5, .ref 6, .null], vm := .statics 6 },
  { cls := 6, slots := #[.null, .int 0, .int 0], vm := .none },
  { cls := 6, slots := #[.null, .int 1, .int 0], vm := .none },
  { cls := 6, slots := #[.null, .int 2, .int 0], vm := .none },
  { cls := 6, slots := #[.null, .int 3, .int 0], vm := .none },
  { cls := 6, slots := #[.null, .int 4, .int 0], vm := .none },
  { cls := 6, slots := #[.null, .int 5, .int 0], vm := .none }]
def classes : Array Class := #[k0, k1, k2, k3, k4, k5, k6, k7, k8, k9, k10, k11]
def interned : List (Array UInt16 × Addr) := []
def slotsUsed : Nat := 25
def theMethod : MethodId := ⟨1, 2⟩
def args0 : Array Value := #[.int 1, .int 5]
def aboutOver (below : List Frame) : State where
  vm := { classes := classes, interned := interned.toArray }
  heap := heap
  slotsUsed := slotsUsed
  threads := #[{ frames := .invoking theMethod args0 :: below }]
def below0 : List Frame := [.native { method := ⟨0, 0⟩, args := #[] }]
def about1 : State := aboutOver below0
def p0 : Program := .bare "" "" ""
def e0 : Env := launch0.env 0 0 0
theorem w_frames : about1.frames = Frame.invoking theMethod args0 :: below0 := rfl
set_option maxRecDepth 65536 in
theorem w_args : argsFit about1.vm theMethod args0 = true := by decide +kernel
set_option maxRecDepth 65536 in
theorem w_heap : heapFits about1 = true := by decide +kernel
set_option maxRecDepth 65536 in
theorem w_runnable : about1.curStatus? = some .runnable := by decide +kernel
set_option maxRecDepth 65536 in
theorem w_alone : about1.alone = true := by decide +kernel
set_option maxRecDepth 65536 in
theorem w_named : about1.methodNamed? x = some theMethod := by decide +kernel
set_option maxRecDepth 65536 in
theorem w_hears : about1.hears theMethod below0 = true := by decide +kernel
set_option maxRecDepth 65536 in
theorem w_ripe : about1.ripe theMethod args0 below0 = true := by decide +kernel
theorem w_running : about1.status = .running := rfl
set_option maxRecDepth 65536 in
theorem w_room : about1.hasRoom e0.platform room_1 = true :=
  launch0.hasRoom_least _ room_1 (by decide +kernel) (by decide +kernel) (by decide +kernel) (by decide +kernel) (by decide +kernel) (by decide +kernel)
theorem allAtoms_all (ts : List Jvm.Cond) (a : Array Jvm.Value) (st : Jvm.State) : (allAtoms ts).before a st = ts.all (fun c => c.before a st) := by
  induction ts with
  | nil => rfl
  | cons c t ih =>
    show (Jvm.Cond.and c (allAtoms t)).before a st = _
    rw [Jvm.Cond.before_and, ih, List.all_cons]
def words1 : List Jvm.Cond := Jvm.Cond.code x code maxLocals ret :: tables_1
/-- a 'code' word, met by the world's own term for the bytes: nothing is compared byte by byte -/
theorem code_word {y : MethodName} {bytes : ByteArray} {mx : Nat} {rt : Option FieldType} {a : Array Value} {s : State} {m : MethodId} {meth : Method} {c : Code} (h1 : s.methodNamed? y = some m) (h2 : s.vm.method? m = some meth) (h3 : meth.code = some c) (h4 : c.code = bytes)
    (h5 : (c.maxLocals == mx && c.exceptionTable.isEmpty && decide (c.maxStack ≤ mostOperands) && decide (meth.sig.returnType = rt) && !meth.locks && decide (parseMethodDescriptor y.desc = some meth.sig)) = true) : (Jvm.Cond.code y bytes mx rt).before a s = true := by
  simp only [Bool.and_eq_true, beq_iff_eq, Bool.not_eq_true', decide_eq_true_eq] at h5
  obtain ⟨⟨⟨⟨⟨g1, g2⟩, g3⟩, g4⟩, g5⟩, g6⟩ := h5
  simp [Cond.before, Cond.holds, Cond.value, h1, h2, h3, h4, g1, g2, g3, g4, g5, g6]
def isCode : Jvm.Cond → Bool
  | .code _ _ _ _ => true
  | _ => false
theorem all_split {L : List Jvm.Cond} {P : Jvm.Cond → Bool} (h1 : L.all (fun c => isCode c || P c) = true) (h2 : ∀ c ∈ L.filter isCode, P c = true) : L.all P = true := by
  refine List.all_eq_true.mpr fun c hc => ?_
  have h := List.all_eq_true.mp h1 c hc
  rcases Bool.eq_false_or_eq_true (isCode c) with hi | hi
  · exact h2 c (List.mem_filter.mpr ⟨hc, hi⟩)
  · simpa [hi] using h
set_option maxRecDepth 65536 in
theorem w_c0 : (Jvm.Cond.code x code maxLocals ret).before args0 about1 = true := code_word (m := ⟨1, 2⟩) (meth := k1m2) (c := k1c2) (by decide +kernel) rfl rfl rfl (by decide +kernel)
set_option maxRecDepth 65536 in
theorem w_c1 : (Jvm.Cond.code ({ cls := "com/example/gazetteer/gazetteer/partitions/OperatorBoundsBelowPinLaw", name := "pick", desc := "(I)Lcom/example/gazetteer/gazetteer/partitions/Condition$Operator;" } : Jvm.MethodName) method_2_code (2 : Nat) (Option.some (Jvm.ClassFile.FieldType.object "com/example/gazetteer/gazetteer/partitions/Condition$Operator"))).before args0 about1 = true := code_word (m := ⟨1, 1⟩) (meth := k1m1) (c := k1c1) (by decide +kernel) rfl rfl rfl (by decide +kernel)
set_option maxRecDepth 65536 in
theorem w_c2 : (Jvm.Cond.code ({ cls := "com/example/gazetteer/gazetteer/partitions/Condition$Operator", name := "boundsBelow", desc := "()Z" } : Jvm.MethodName) prog_69_method_5_code (1 : Nat) (Option.some Jvm.ClassFile.FieldType.boolean)).before args0 about1 = true := code_word (m := ⟨6, 1⟩) (meth := k6m1) (c := k6c1) (by decide +kernel) rfl rfl rfl (by decide +kernel)
set_option maxRecDepth 65536 in
theorem w_c3 : (Jvm.Cond.code ({ cls := "com/example/gazetteer/gazetteer/partitions/Condition$Operator", name := "holds", desc := "(I)Z" } : Jvm.MethodName) prog_69_method_4_code (2 : Nat) (Option.some Jvm.ClassFile.FieldType.boolean)).before args0 about1 = true := code_word (m := ⟨6, 0⟩) (meth := k6m0) (c := k6c0) (by decide +kernel) rfl rfl rfl (by decide +kernel)
set_option maxRecDepth 65536 in
theorem w_c4 : (Jvm.Cond.code ({ cls := "java/lang/Enum", name := "ordinal", desc := "()I" } : Jvm.MethodName) jdk_37_method_2_code (1 : Nat) (Option.some Jvm.ClassFile.FieldType.int)).before args0 about1 = true := code_word (m := ⟨5, 0⟩) (meth := k5m0) (c := k5c0) (by decide +kernel) rfl rfl rfl (by decide +kernel)
def codes1 : List Jvm.Cond := [Jvm.Cond.code x code maxLocals ret, Jvm.Cond.code ({ cls := "com/example/gazetteer/gazetteer/partitions/OperatorBoundsBelowPinLaw", name := "pick", desc := "(I)Lcom/example/gazetteer/gazetteer/partitions/Condition$Operator;" } : Jvm.MethodName) method_2_code (2 : Nat) (Option.some (Jvm.ClassFile.FieldType.object "com/example/gazetteer/gazetteer/partitions/Condition$Operator")), Jvm.Cond.code ({ cls := "com/example/gazetteer/gazetteer/partitions/Condition$Operator", name := "boundsBelow", desc := "()Z" } : Jvm.MethodName) prog_69_method_5_code (1 : Nat) (Option.some Jvm.ClassFile.FieldType.boolean), Jvm.Cond.code ({ cls := "com/example/gazetteer/gazetteer/partitions/Condition$Operator", name := "holds", desc := "(I)Z" } : Jvm.MethodName) prog_69_method_4_code (2 : Nat) (Option.some Jvm.ClassFile.FieldType.boolean), Jvm.Cond.code ({ cls := "java/lang/Enum", name := "ordinal", desc := "()I" } : Jvm.MethodName) jdk_37_method_2_code (1 : Nat) (Option.some Jvm.ClassFile.FieldType.int)]
set_option maxRecDepth 65536 in
theorem codes_eq : words1.filter isCode = codes1 := rfl
theorem w_codes : ∀ c ∈ words1.filter isCode, c.before args0 about1 = true := by
  rw [codes_eq]
  intro c hc
  simp only [codes1, List.mem_cons, List.not_mem_nil, or_false] at hc
  rcases hc with rfl | rfl | rfl | rfl | rfl
  · exact w_c0
  · exact w_c1
  · exact w_c2
  · exact w_c3
  · exact w_c4
set_option maxRecDepth 65536 in
theorem w_t1 : (words1.take 24).all (fun c => isCode c || c.before args0 about1) = true := by decide +kernel
set_option maxRecDepth 65536 in
theorem w_t2 : (words1.drop 24).all (fun c => isCode c || c.before args0 about1) = true := by decide +kernel
theorem w_tables : (allAtoms (Jvm.Cond.code x code maxLocals ret :: tables_1)).before args0 about1 = true := by
  rw [allAtoms_all]
  show words1.all (fun c => c.before args0 about1) = true
  refine all_split ?_ w_codes
  rw [← List.take_append_drop 24 words1, List.all_append, w_t1, w_t2]
  rfl
set_option maxRecDepth 65536 in
theorem w_case : (Jvm.Cond.and given_1 narrow_1).before args0 about1 = true := by decide +kernel
theorem w_applies : (headSpec (Jvm.Cond.code x code maxLocals ret :: tables_1) room_1).applies x e0.platform about1 = true :=
  (Spec.applies_iff w_frames).mpr ⟨w_running, w_runnable, w_alone, w_named, w_hears, w_ripe, w_room, w_tables⟩
theorem atStart : AtStart classFile x code maxLocals ret World_1 tables_1 room_1 Calls_1 rest_1 Pre_1 launch0 p0 e0 about1 theMethod args0 below0 :=
  ⟨lists_1, trivial, launch0.admits_env _ _ _, launch0.least_env, fairChoices_fair.cas, fairChoices_fair.clock, w_frames, w_args, w_heap, w_applies, trivial, trivial, w_case⟩
end start1
theorem witness_1 : WitnessClaimed_1 := ⟨start1.p0, start1.e0, start1.about1, start1.theMethod, start1.args0, start1.below0, start1.atStart⟩
end Jvm.Pilot.@@N@@
