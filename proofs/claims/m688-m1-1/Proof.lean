import JvmDerived
import JvmDerived.Pilot.@@N@@Statement
import JvmDerived.Pilot.@@N@@Code
set_option linter.unusedVariables false
set_option linter.unusedSimpArgs false
namespace Jvm.Pilot.@@N@@
open Jvm Jvm.ClassFile Sem Op Lib Jvm.Free Jvm.Stand Jvm.LawKit Jvm.RoadKit Bundle Jvm.Pilot.@@N@@.Jvm.D
def own_G (p : Program) (e : Env) (below : List Frame) (s : State) (Q : Option Value → Heap → List Loc → Prop) (k n : Nat) (A : State) : Prop :=
  ∃ s₂ o, Steps p.tables e below A s₂ ∧ s₂.status = .running ∧ Ended s₂ below o ∧ ∃ v L, o = .returned v ∧ Q v s₂.heap L ∧ FrameEnd s o s₂ L k n
theorem own_st {p : Program} {e : Env} {below : List Frame} {s : State} {Q : Option Value → Heap → List Loc → Prop} {k n : Nat} {A B : State} (f : ∀ t, Steps p.tables e below B t → Steps p.tables e below A t) (h : own_G p e below s Q k n B) : own_G p e below s Q k n A := by
  obtain ⟨t, o, h1, h2⟩ := h; exact ⟨t, o, f t h1, h2⟩
theorem own_tr {p : Program} {e : Env} {below : List Frame} {s : State} {Q : Option Value → Heap → List Loc → Prop} {k n : Nat} {A B : State} (f : Steps p.tables e below A B) (h : own_G p e below s Q k n B) : own_G p e below s Q k n A := own_st (fun _ => f.trans) h
theorem own_cast {p : Program} {e : Env} {below : List Frame} {s T : State} {Q : Option Value → Heap → List Loc → Prop} {k n : Nat} {g g' : JFrame} (q : g = g') (h : own_G p e below s Q k n (T.setTop g')) : own_G p e below s Q k n (T.setTop g) := q ▸ h
section OwnSteps
variable {p : Program} {l : Launch} {e : Env} {R : Room} {s : State} {m : MethodId} {args : Array Value} {below : List Frame} {meth : Method} {c : Code} {T : State} {locs : List Loc} {cells slots : Nat} {Q : Option Value → Heap → List Loc → Prop} {k n : Nat} {code : ByteArray} {pc : Nat} {Ls : Array Slot} {st : List Value} {Z : State} {a0 : Array Value} {h : Heap}
theorem own_retI (X : Stand p l e R s m args below meth c T locs cells slots) (hx : p.tables.exec = Jvm.exec) (hby : c.code = code) (hlk : meth.locks = false) (hret : meth.sig.returnType = some .int) {z : Int32} (hd : decode code pc = .ok (.ireturn, 1)) (hk : cells ≤ k) (hn : slots ≤ n) (hQ : Q (some (.int z)) T.heap locs) : own_G p e below s Q k n (T.setTop (mkF m pc Ls (.int z :: st))) := by
  obtain ⟨fs, hr, hrun, hended, hW, hsame⟩ := X.leave (v := some (.int z)) (fun h => by rw [hret] at h; cases h) hlk
  exact ⟨_, _, retOut X hx (t := .int) hret rfl (Or.inl ⟨rfl, Or.inl rfl, z, rfl⟩) (hb hby hd) hr, hrun, hended, _, _, rfl, hQ, ⟨_, rfl⟩, hW, hsame.mono hk hn⟩
theorem own_retJ (X : Stand p l e R s m args below meth c T locs cells slots) (hx : p.tables.exec = Jvm.exec) (hby : c.code = code) (hlk : meth.locks = false) (hret : meth.sig.returnType = some .long) {z : Int64} (hd : decode code pc = .ok (.lreturn, 1)) (hk : cells ≤ k) (hn : slots ≤ n) (hQ : Q (some (.long z)) T.heap locs) : own_G p e below s Q k n (T.setTop (mkF m pc Ls (.long z :: st))) := by
  obtain ⟨fs, hr, hrun, hended, hW, hsame⟩ := X.leave (v := some (.long z)) (fun h => by rw [hret] at h; cases h) hlk
  exact ⟨_, _, retOut X hx (t := .long) hret rfl (Or.inr (Or.inl ⟨rfl, rfl, z, rfl⟩)) (hb hby hd) hr, hrun, hended, _, _, rfl, hQ, ⟨_, rfl⟩, hW, hsame.mono hk hn⟩
theorem own_retD (X : Stand p l e R s m args below meth c T locs cells slots) (hx : p.tables.exec = Jvm.exec) (hby : c.code = code) (hlk : meth.locks = false) (hret : meth.sig.returnType = some .double) {z : UInt64} (hd : decode code pc = .ok (.dreturn, 1)) (hk : cells ≤ k) (hn : slots ≤ n) (hQ : Q (some (.double z)) T.heap locs) : own_G p e below s Q k n (T.setTop (mkF m pc Ls (.double z :: st))) := by
  obtain ⟨fs, hr, hrun, hended, hW, hsame⟩ := X.leave (v := some (.double z)) (fun h => by rw [hret] at h; cases h) hlk
  exact ⟨_, _, retOut X hx (t := .double) hret rfl (Or.inr (Or.inr (Or.inl ⟨rfl, rfl, z, rfl⟩))) (hb hby hd) hr, hrun, hended, _, _, rfl, hQ, ⟨_, rfl⟩, hW, hsame.mono hk hn⟩
theorem own_retA (X : Stand p l e R s m args below meth c T locs cells slots) (hx : p.tables.exec = Jvm.exec) (hby : c.code = code) (hlk : meth.locks = false) {ty : FieldType} (hret : meth.sig.returnType = some ty) (hty : ty.isReference = true) {z : Value} (hz : z.isRef = true) (hnz : narrow ty z = z) (hd : decode code pc = .ok (.areturn, 1)) (hk : cells ≤ k) (hn : slots ≤ n) (hQ : Q (some z) T.heap locs) : own_G p e below s Q k n (T.setTop (mkF m pc Ls (z :: st))) := by
  obtain ⟨fs, hr, hrun, hended, hW, hsame⟩ := X.leave (v := some z) (fun h => by rw [hret] at h; cases h) hlk
  exact ⟨_, _, retOut X hx (t := ty) hret hnz (Or.inr (Or.inr (Or.inr (Or.inr ⟨rfl, hty, hz⟩)))) (hb hby hd) hr, hrun, hended, _, _, rfl, hQ, ⟨_, rfl⟩, hW, hsame.mono hk hn⟩
theorem own_retN (X : Stand p l e R s m args below meth c T locs cells slots) (hx : p.tables.exec = Jvm.exec) (hby : c.code = code) (hlk : meth.locks = false) {t : FieldType} (hret : meth.sig.returnType = some t) (ht : t = .boolean ∨ t = .byte ∨ t = .char ∨ t = .short) {z : Int32} (hd : decode code pc = .ok (.ireturn, 1)) (hk : cells ≤ k) (hn : slots ≤ n) (hQ : Q (some (.int (nar t z))) T.heap locs) : own_G p e below s Q k n (T.setTop (mkF m pc Ls (.int z :: st))) := by
  obtain ⟨fs, hr, hrun, hended, hW, hsame⟩ := X.leave (v := some (.int (nar t z))) (fun h => by rw [hret] at h; cases h) hlk
  exact ⟨_, _, retN X hx (t := t) hret ht (hb hby hd) hr, hrun, hended, _, _, rfl, hQ, ⟨_, rfl⟩, hW, hsame.mono hk hn⟩
theorem own_ret0 (X : Stand p l e R s m args below meth c T locs cells slots) (hx : p.tables.exec = Jvm.exec) (hby : c.code = code) (hlk : meth.locks = false) (hret : meth.sig.returnType = none) (hd : decode code pc = .ok (.return_, 1)) (hk : cells ≤ k) (hn : slots ≤ n) (hQ : Q none T.heap locs) : own_G p e below s Q k n (T.setTop (mkF m pc Ls [])) := by
  obtain ⟨fs, hr, hrun, hended, hW, hsame⟩ := X.leave (v := none) (fun _ => rfl) hlk
  exact ⟨_, _, X.returnOut hx hret (hb hby hd) hr, hrun, hended, _, _, rfl, hQ, ⟨_, rfl⟩, hW, hsame.mono hk hn⟩
theorem own_iloadN (X : Stand p l e R s m args below meth c T locs cells slots) (hx : p.tables.exec = Jvm.exec) (hby : c.code = code) {kk : Fin 4} {v : Int32} (hd : decode code pc = .ok (.iload_n kk, 1)) (hl : Ls[kk.val]? = some (.val (.int v))) (h : own_G p e below s Q k n (T.setTop (mkF m (pc + 1) Ls (.int v :: st)))) : own_G p e below s Q k n (T.setTop (mkF m pc Ls st)) := own_st (fun _ => XS.iloadN X.here hx rfl (hb hby hd) hl) h
theorem own_iload (X : Stand p l e R s m args below meth c T locs cells slots) (hx : p.tables.exec = Jvm.exec) (hby : c.code = code) {kk : Nat} {v : Int32} (hd : decode code pc = .ok (.iload kk, 2)) (hl : Ls[kk]? = some (.val (.int v))) (h : own_G p e below s Q k n (T.setTop (mkF m (pc + 2) Ls (.int v :: st)))) : own_G p e below s Q k n (T.setTop (mkF m pc Ls st)) := own_st (fun _ => XS.iload X.here hx rfl (hb hby hd) hl) h
theorem own_lloadN (X : Stand p l e R s m args below meth c T locs cells slots) (hx : p.tables.exec = Jvm.exec) (hby : c.code = code) {kk : Fin 4} {v : Int64} (hd : decode code pc = .ok (.lload_n kk, 1)) (hl : Ls[kk.val]? = some (.val (.long v))) (h : own_G p e below s Q k n (T.setTop (mkF m (pc + 1) Ls (.long v :: st)))) : own_G p e below s Q k n (T.setTop (mkF m pc Ls st)) := own_st (fun _ => XS.lloadN X.here hx rfl (hb hby hd) hl) h
theorem own_lload (X : Stand p l e R s m args below meth c T locs cells slots) (hx : p.tables.exec = Jvm.exec) (hby : c.code = code) {kk : Nat} {v : Int64} (hd : decode code pc = .ok (.lload kk, 2)) (hl : Ls[kk]? = some (.val (.long v))) (h : own_G p e below s Q k n (T.setTop (mkF m (pc + 2) Ls (.long v :: st)))) : own_G p e below s Q k n (T.setTop (mkF m pc Ls st)) := own_st (fun _ => XS.lload X.here hx rfl (hb hby hd) hl) h
theorem own_dloadN (X : Stand p l e R s m args below meth c T locs cells slots) (hx : p.tables.exec = Jvm.exec) (hby : c.code = code) {kk : Fin 4} {v : UInt64} (hd : decode code pc = .ok (.dload_n kk, 1)) (hl : Ls[kk.val]? = some (.val (.double v))) (h : own_G p e below s Q k n (T.setTop (mkF m (pc + 1) Ls (.double v :: st)))) : own_G p e below s Q k n (T.setTop (mkF m pc Ls st)) := own_st (fun _ => XS.dloadN X.here hx rfl (hb hby hd) hl) h
theorem own_dload (X : Stand p l e R s m args below meth c T locs cells slots) (hx : p.tables.exec = Jvm.exec) (hby : c.code = code) {kk : Nat} {v : UInt64} (hd : decode code pc = .ok (.dload kk, 2)) (hl : Ls[kk]? = some (.val (.double v))) (h : own_G p e below s Q k n (T.setTop (mkF m (pc + 2) Ls (.double v :: st)))) : own_G p e below s Q k n (T.setTop (mkF m pc Ls st)) := own_st (fun _ => XS.dload X.here hx rfl (hb hby hd) hl) h
theorem own_aloadN (X : Stand p l e R s m args below meth c T locs cells slots) (hx : p.tables.exec = Jvm.exec) (hby : c.code = code) {kk : Fin 4} {v : Value} (hd : decode code pc = .ok (.aload_n kk, 1)) (hl : Ls[kk.val]? = some (.val v)) (hv : v.isRef = true) (h : own_G p e below s Q k n (T.setTop (mkF m (pc + 1) Ls (v :: st)))) : own_G p e below s Q k n (T.setTop (mkF m pc Ls st)) := own_st (fun _ => XS.aloadN X.here hx rfl (hb hby hd) hl hv) h
theorem own_aload (X : Stand p l e R s m args below meth c T locs cells slots) (hx : p.tables.exec = Jvm.exec) (hby : c.code = code) {kk : Nat} {v : Value} (hd : decode code pc = .ok (.aload kk, 2)) (hl : Ls[kk]? = some (.val v)) (hv : v.isRef = true) (h : own_G p e below s Q k n (T.setTop (mkF m (pc + 2) Ls (v :: st)))) : own_G p e below s Q k n (T.setTop (mkF m pc Ls st)) := own_st (fun _ => XS.aload X.here hx rfl (hb hby hd) hl hv) h
theorem own_istoreN (X : Stand p l e R s m args below meth c T locs cells slots) (hx : p.tables.exec = Jvm.exec) (hby : c.code = code) {kk : Fin 4} {v : Int32} {l' : Array Slot} (hd : decode code pc = .ok (.istore_n kk, 1)) (hl : storeLocals Ls kk.val (.int v) = some l') (h : own_G p e below s Q k n (T.setTop (mkF m (pc + 1) l' st))) : own_G p e below s Q k n (T.setTop (mkF m pc Ls (.int v :: st))) := own_st (fun _ => XS.istoreN X.here hx rfl (hb hby hd) rfl hl) h
theorem own_istore (X : Stand p l e R s m args below meth c T locs cells slots) (hx : p.tables.exec = Jvm.exec) (hby : c.code = code) {kk : Nat} {v : Int32} {l' : Array Slot} (hd : decode code pc = .ok (.istore kk, 2)) (hl : storeLocals Ls kk (.int v) = some l') (h : own_G p e below s Q k n (T.setTop (mkF m (pc + 2) l' st))) : own_G p e below s Q k n (T.setTop (mkF m pc Ls (.int v :: st))) := own_st (fun _ => XS.istore X.here hx rfl (hb hby hd) rfl hl) h
theorem own_lstoreN (X : Stand p l e R s m args below meth c T locs cells slots) (hx : p.tables.exec = Jvm.exec) (hby : c.code = code) {kk : Fin 4} {v : Int64} {l' : Array Slot} (hd : decode code pc = .ok (.lstore_n kk, 1)) (hl : storeLocals Ls kk.val (.long v) = some l') (h : own_G p e below s Q k n (T.setTop (mkF m (pc + 1) l' st))) : own_G p e below s Q k n (T.setTop (mkF m pc Ls (.long v :: st))) := own_st (fun _ => XS.lstoreN X.here hx rfl (hb hby hd) rfl hl) h
theorem own_lstore (X : Stand p l e R s m args below meth c T locs cells slots) (hx : p.tables.exec = Jvm.exec) (hby : c.code = code) {kk : Nat} {v : Int64} {l' : Array Slot} (hd : decode code pc = .ok (.lstore kk, 2)) (hl : storeLocals Ls kk (.long v) = some l') (h : own_G p e below s Q k n (T.setTop (mkF m (pc + 2) l' st))) : own_G p e below s Q k n (T.setTop (mkF m pc Ls (.long v :: st))) := own_st (fun _ => XS.lstore X.here hx rfl (hb hby hd) rfl hl) h
theorem own_dstoreN (X : Stand p l e R s m args below meth c T locs cells slots) (hx : p.tables.exec = Jvm.exec) (hby : c.code = code) {kk : Fin 4} {v : UInt64} {l' : Array Slot} (hd : decode code pc = .ok (.dstore_n kk, 1)) (hl : storeLocals Ls kk.val (.double v) = some l') (h : own_G p e below s Q k n (T.setTop (mkF m (pc + 1) l' st))) : own_G p e below s Q k n (T.setTop (mkF m pc Ls (.double v :: st))) := own_st (fun _ => XS.dstoreN X.here hx rfl (hb hby hd) rfl hl) h
theorem own_dstore (X : Stand p l e R s m args below meth c T locs cells slots) (hx : p.tables.exec = Jvm.exec) (hby : c.code = code) {kk : Nat} {v : UInt64} {l' : Array Slot} (hd : decode code pc = .ok (.dstore kk, 2)) (hl : storeLocals Ls kk (.double v) = some l') (h : own_G p e below s Q k n (T.setTop (mkF m (pc + 2) l' st))) : own_G p e below s Q k n (T.setTop (mkF m pc Ls (.double v :: st))) := own_st (fun _ => XS.dstore X.here hx rfl (hb hby hd) rfl hl) h
theorem own_astoreN (X : Stand p l e R s m args below meth c T locs cells slots) (hx : p.tables.exec = Jvm.exec) (hby : c.code = code) {kk : Fin 4} {v : Value} {l' : Array Slot} (hd : decode code pc = .ok (.astore_n kk, 1)) (hv : v.isRef = true) (hl : storeLocals Ls kk.val v = some l') (h : own_G p e below s Q k n (T.setTop (mkF m (pc + 1) l' st))) : own_G p e below s Q k n (T.setTop (mkF m pc Ls (v :: st))) := own_st (fun _ => XS.astoreN X.here hx rfl (hb hby hd) rfl hv hl) h
theorem own_astore (X : Stand p l e R s m args below meth c T locs cells slots) (hx : p.tables.exec = Jvm.exec) (hby : c.code = code) {kk : Nat} {v : Value} {l' : Array Slot} (hd : decode code pc = .ok (.astore kk, 2)) (hv : v.isRef = true) (hl : storeLocals Ls kk v = some l') (h : own_G p e below s Q k n (T.setTop (mkF m (pc + 2) l' st))) : own_G p e below s Q k n (T.setTop (mkF m pc Ls (v :: st))) := own_st (fun _ => XS.astore X.here hx rfl (hb hby hd) rfl hv hl) h
theorem own_iconst (X : Stand p l e R s m args below meth c T locs cells slots) (hx : p.tables.exec = Jvm.exec) (hby : c.code = code) {i : Int} (hd : decode code pc = .ok (.iconst i, 1))  (h : own_G p e below s Q k n (T.setTop (mkF m (pc + 1) Ls (.int (Int32.ofInt i) :: st)))) : own_G p e below s Q k n (T.setTop (mkF m pc Ls st)) := own_st (fun _ => XS.iconst X.here hx rfl (hb hby hd)) h
theorem own_bipush (X : Stand p l e R s m args below meth c T locs cells slots) (hx : p.tables.exec = Jvm.exec) (hby : c.code = code) {i : Int} (hd : decode code pc = .ok (.bipush i, 2))  (h : own_G p e below s Q k n (T.setTop (mkF m (pc + 2) Ls (.int (Int8.ofInt i).toInt32 :: st)))) : own_G p e below s Q k n (T.setTop (mkF m pc Ls st)) := own_st (fun _ => XS.bipush X.here hx rfl (hb hby hd)) h
theorem own_sipush (X : Stand p l e R s m args below meth c T locs cells slots) (hx : p.tables.exec = Jvm.exec) (hby : c.code = code) {i : Int} (hd : decode code pc = .ok (.sipush i, 3))  (h : own_G p e below s Q k n (T.setTop (mkF m (pc + 3) Ls (.int (Int16.ofInt i).toInt32 :: st)))) : own_G p e below s Q k n (T.setTop (mkF m pc Ls st)) := own_st (fun _ => XS.sipush X.here hx rfl (hb hby hd)) h
theorem own_lconst (X : Stand p l e R s m args below meth c T locs cells slots) (hx : p.tables.exec = Jvm.exec) (hby : c.code = code) {i : Fin 2} (hd : decode code pc = .ok (.lconst i, 1))  (h : own_G p e below s Q k n (T.setTop (mkF m (pc + 1) Ls (.long (Int64.ofNat i) :: st)))) : own_G p e below s Q k n (T.setTop (mkF m pc Ls st)) := own_st (fun _ => XS.lconst X.here hx rfl (hb hby hd)) h
theorem own_aconst_null (X : Stand p l e R s m args below meth c T locs cells slots) (hx : p.tables.exec = Jvm.exec) (hby : c.code = code)  (hd : decode code pc = .ok (.aconst_null, 1))  (h : own_G p e below s Q k n (T.setTop (mkF m (pc + 1) Ls (.null :: st)))) : own_G p e below s Q k n (T.setTop (mkF m pc Ls st)) := own_st (fun _ => XS.aconstNull X.here hx rfl (hb hby hd)) h
theorem own_iadd (X : Stand p l e R s m args below meth c T locs cells slots) (hx : p.tables.exec = Jvm.exec) (hby : c.code = code) {x y : Int32} (hd : decode code pc = .ok (.iadd, 1))  (h : own_G p e below s Q k n (T.setTop (mkF m (pc + 1) Ls (.int (x + y) :: st)))) : own_G p e below s Q k n (T.setTop (mkF m pc Ls (.int y :: .int x :: st))) := own_st (fun _ => XS.iadd X.here hx rfl (hb hby hd) rfl) h
theorem own_isub (X : Stand p l e R s m args below meth c T locs cells slots) (hx : p.tables.exec = Jvm.exec) (hby : c.code = code) {x y : Int32} (hd : decode code pc = .ok (.isub, 1))  (h : own_G p e below s Q k n (T.setTop (mkF m (pc + 1) Ls (.int (x - y) :: st)))) : own_G p e below s Q k n (T.setTop (mkF m pc Ls (.int y :: .int x :: st))) := own_st (fun _ => XS.isub X.here hx rfl (hb hby hd) rfl) h
theorem own_imul (X : Stand p l e R s m args below meth c T locs cells slots) (hx : p.tables.exec = Jvm.exec) (hby : c.code = code) {x y : Int32} (hd : decode code pc = .ok (.imul, 1))  (h : own_G p e below s Q k n (T.setTop (mkF m (pc + 1) Ls (.int (x * y) :: st)))) : own_G p e below s Q k n (T.setTop (mkF m pc Ls (.int y :: .int x :: st))) := own_st (fun _ => XS.imul X.here hx rfl (hb hby hd) rfl) h
theorem own_iand (X : Stand p l e R s m args below meth c T locs cells slots) (hx : p.tables.exec = Jvm.exec) (hby : c.code = code) {x y : Int32} (hd : decode code pc = .ok (.iand, 1))  (h : own_G p e below s Q k n (T.setTop (mkF m (pc + 1) Ls (.int (x &&& y) :: st)))) : own_G p e below s Q k n (T.setTop (mkF m pc Ls (.int y :: .int x :: st))) := own_st (fun _ => XS.iand X.here hx rfl (hb hby hd) rfl) h
theorem own_ior (X : Stand p l e R s m args below meth c T locs cells slots) (hx : p.tables.exec = Jvm.exec) (hby : c.code = code) {x y : Int32} (hd : decode code pc = .ok (.ior, 1))  (h : own_G p e below s Q k n (T.setTop (mkF m (pc + 1) Ls (.int (x ||| y) :: st)))) : own_G p e below s Q k n (T.setTop (mkF m pc Ls (.int y :: .int x :: st))) := own_st (fun _ => XS.ior X.here hx rfl (hb hby hd) rfl) h
theorem own_ixor (X : Stand p l e R s m args below meth c T locs cells slots) (hx : p.tables.exec = Jvm.exec) (hby : c.code = code) {x y : Int32} (hd : decode code pc = .ok (.ixor, 1))  (h : own_G p e below s Q k n (T.setTop (mkF m (pc + 1) Ls (.int (x ^^^ y) :: st)))) : own_G p e below s Q k n (T.setTop (mkF m pc Ls (.int y :: .int x :: st))) := own_st (fun _ => XS.ixor X.here hx rfl (hb hby hd) rfl) h
theorem own_ishl (X : Stand p l e R s m args below meth c T locs cells slots) (hx : p.tables.exec = Jvm.exec) (hby : c.code = code) {x y : Int32} (hd : decode code pc = .ok (.ishl, 1))  (h : own_G p e below s Q k n (T.setTop (mkF m (pc + 1) Ls (.int (x <<< (y &&& 31)) :: st)))) : own_G p e below s Q k n (T.setTop (mkF m pc Ls (.int y :: .int x :: st))) := own_st (fun _ => XS.ishl X.here hx rfl (hb hby hd) rfl) h
theorem own_ishr (X : Stand p l e R s m args below meth c T locs cells slots) (hx : p.tables.exec = Jvm.exec) (hby : c.code = code) {x y : Int32} (hd : decode code pc = .ok (.ishr, 1))  (h : own_G p e below s Q k n (T.setTop (mkF m (pc + 1) Ls (.int (x >>> (y &&& 31)) :: st)))) : own_G p e below s Q k n (T.setTop (mkF m pc Ls (.int y :: .int x :: st))) := own_st (fun _ => XS.ishr X.here hx rfl (hb hby hd) rfl) h
theorem own_iushr (X : Stand p l e R s m args below meth c T locs cells slots) (hx : p.tables.exec = Jvm.exec) (hby : c.code = code) {x y : Int32} (hd : decode code pc = .ok (.iushr, 1))  (h : own_G p e below s Q k n (T.setTop (mkF m (pc + 1) Ls (.int ((x.toUInt32 >>> (y &&& 31).toUInt32).toInt32) :: st)))) : own_G p e below s Q k n (T.setTop (mkF m pc Ls (.int y :: .int x :: st))) := own_st (fun _ => XS.iushr X.here hx rfl (hb hby hd) rfl) h
theorem own_ladd (X : Stand p l e R s m args below meth c T locs cells slots) (hx : p.tables.exec = Jvm.exec) (hby : c.code = code) {x y : Int64} (hd : decode code pc = .ok (.ladd, 1))  (h : own_G p e below s Q k n (T.setTop (mkF m (pc + 1) Ls (.long (x + y) :: st)))) : own_G p e below s Q k n (T.setTop (mkF m pc Ls (.long y :: .long x :: st))) := own_st (fun _ => XS.ladd X.here hx rfl (hb hby hd) rfl) h
theorem own_lsub (X : Stand p l e R s m args below meth c T locs cells slots) (hx : p.tables.exec = Jvm.exec) (hby : c.code = code) {x y : Int64} (hd : decode code pc = .ok (.lsub, 1))  (h : own_G p e below s Q k n (T.setTop (mkF m (pc + 1) Ls (.long (x - y) :: st)))) : own_G p e below s Q k n (T.setTop (mkF m pc Ls (.long y :: .long x :: st))) := own_st (fun _ => XS.lsub X.here hx rfl (hb hby hd) rfl) h
theorem own_lmul (X : Stand p l e R s m args below meth c T locs cells slots) (hx : p.tables.exec = Jvm.exec) (hby : c.code = code) {x y : Int64} (hd : decode code pc = .ok (.lmul, 1))  (h : own_G p e below s Q k n (T.setTop (mkF m (pc + 1) Ls (.long (x * y) :: st)))) : own_G p e below s Q k n (T.setTop (mkF m pc Ls (.long y :: .long x :: st))) := own_st (fun _ => XS.lmul X.here hx rfl (hb hby hd) rfl) h
theorem own_land (X : Stand p l e R s m args below meth c T locs cells slots) (hx : p.tables.exec = Jvm.exec) (hby : c.code = code) {x y : Int64} (hd : decode code pc = .ok (.land, 1))  (h : own_G p e below s Q k n (T.setTop (mkF m (pc + 1) Ls (.long (x &&& y) :: st)))) : own_G p e below s Q k n (T.setTop (mkF m pc Ls (.long y :: .long x :: st))) := own_st (fun _ => XS.land X.here hx rfl (hb hby hd) rfl) h
theorem own_lor (X : Stand p l e R s m args below meth c T locs cells slots) (hx : p.tables.exec = Jvm.exec) (hby : c.code = code) {x y : Int64} (hd : decode code pc = .ok (.lor, 1))  (h : own_G p e below s Q k n (T.setTop (mkF m (pc + 1) Ls (.long (x ||| y) :: st)))) : own_G p e below s Q k n (T.setTop (mkF m pc Ls (.long y :: .long x :: st))) := own_st (fun _ => XS.lor X.here hx rfl (hb hby hd) rfl) h
theorem own_lxor (X : Stand p l e R s m args below meth c T locs cells slots) (hx : p.tables.exec = Jvm.exec) (hby : c.code = code) {x y : Int64} (hd : decode code pc = .ok (.lxor, 1))  (h : own_G p e below s Q k n (T.setTop (mkF m (pc + 1) Ls (.long (x ^^^ y) :: st)))) : own_G p e below s Q k n (T.setTop (mkF m pc Ls (.long y :: .long x :: st))) := own_st (fun _ => XS.lxor X.here hx rfl (hb hby hd) rfl) h
theorem own_lshl (X : Stand p l e R s m args below meth c T locs cells slots) (hx : p.tables.exec = Jvm.exec) (hby : c.code = code) {x : Int64} {y : Int32} (hd : decode code pc = .ok (.lshl, 1))  (h : own_G p e below s Q k n (T.setTop (mkF m (pc + 1) Ls (.long (x <<< (y &&& 0x3f).toInt64) :: st)))) : own_G p e below s Q k n (T.setTop (mkF m pc Ls (.int y :: .long x :: st))) := own_st (fun _ => XS.lshl X.here hx rfl (hb hby hd) rfl) h
theorem own_lshr (X : Stand p l e R s m args below meth c T locs cells slots) (hx : p.tables.exec = Jvm.exec) (hby : c.code = code) {x : Int64} {y : Int32} (hd : decode code pc = .ok (.lshr, 1))  (h : own_G p e below s Q k n (T.setTop (mkF m (pc + 1) Ls (.long (x >>> (y &&& 0x3f).toInt64) :: st)))) : own_G p e below s Q k n (T.setTop (mkF m pc Ls (.int y :: .long x :: st))) := own_st (fun _ => XS.lshr X.here hx rfl (hb hby hd) rfl) h
theorem own_lushr (X : Stand p l e R s m args below meth c T locs cells slots) (hx : p.tables.exec = Jvm.exec) (hby : c.code = code) {x : Int64} {y : Int32} (hd : decode code pc = .ok (.lushr, 1))  (h : own_G p e below s Q k n (T.setTop (mkF m (pc + 1) Ls (.long ((x.toUInt64 >>> (y &&& 0x3f).toInt64.toUInt64).toInt64) :: st)))) : own_G p e below s Q k n (T.setTop (mkF m pc Ls (.int y :: .long x :: st))) := own_st (fun _ => XS.lushr X.here hx rfl (hb hby hd) rfl) h
theorem own_idiv (X : Stand p l e R s m args below meth c T locs cells slots) (hx : p.tables.exec = Jvm.exec) (hby : c.code = code) {x y : Int32} (hd : decode code pc = .ok (.idiv, 1)) (hy : y ≠ 0) (h : own_G p e below s Q k n (T.setTop (mkF m (pc + 1) Ls (.int (x / y) :: st)))) : own_G p e below s Q k n (T.setTop (mkF m pc Ls (.int y :: .int x :: st))) := own_st (fun _ => XS.idiv X.here hx rfl (hb hby hd) rfl hy) h
theorem own_irem (X : Stand p l e R s m args below meth c T locs cells slots) (hx : p.tables.exec = Jvm.exec) (hby : c.code = code) {x y : Int32} (hd : decode code pc = .ok (.irem, 1)) (hy : y ≠ 0) (h : own_G p e below s Q k n (T.setTop (mkF m (pc + 1) Ls (.int (x % y) :: st)))) : own_G p e below s Q k n (T.setTop (mkF m pc Ls (.int y :: .int x :: st))) := own_st (fun _ => iremM X hx rfl (hb hby hd) rfl hy) h
theorem own_ldiv (X : Stand p l e R s m args below meth c T locs cells slots) (hx : p.tables.exec = Jvm.exec) (hby : c.code = code) {x y : Int64} (hd : decode code pc = .ok (.ldiv, 1)) (hy : y ≠ 0) (h : own_G p e below s Q k n (T.setTop (mkF m (pc + 1) Ls (.long (x / y) :: st)))) : own_G p e below s Q k n (T.setTop (mkF m pc Ls (.long y :: .long x :: st))) := own_st (fun _ => XS.ldiv X.here hx rfl (hb hby hd) rfl hy) h
theorem own_lrem (X : Stand p l e R s m args below meth c T locs cells slots) (hx : p.tables.exec = Jvm.exec) (hby : c.code = code) {x y : Int64} (hd : decode code pc = .ok (.lrem, 1)) (hy : y ≠ 0) (h : own_G p e below s Q k n (T.setTop (mkF m (pc + 1) Ls (.long (x % y) :: st)))) : own_G p e below s Q k n (T.setTop (mkF m pc Ls (.long y :: .long x :: st))) := own_st (fun _ hr => XS.lrem X.here hx rfl (hb hby hd) rfl hy (by rw [lrem_mod]; exact hr)) h
theorem own_ineg (X : Stand p l e R s m args below meth c T locs cells slots) (hx : p.tables.exec = Jvm.exec) (hby : c.code = code) {x : Int32} (hd : decode code pc = .ok (.ineg, 1))  (h : own_G p e below s Q k n (T.setTop (mkF m (pc + 1) Ls (.int (-x) :: st)))) : own_G p e below s Q k n (T.setTop (mkF m pc Ls (.int x :: st))) := own_st (fun _ => XS.ineg X.here hx rfl (hb hby hd) rfl) h
theorem own_lneg (X : Stand p l e R s m args below meth c T locs cells slots) (hx : p.tables.exec = Jvm.exec) (hby : c.code = code) {x : Int64} (hd : decode code pc = .ok (.lneg, 1))  (h : own_G p e below s Q k n (T.setTop (mkF m (pc + 1) Ls (.long (-x) :: st)))) : own_G p e below s Q k n (T.setTop (mkF m pc Ls (.long x :: st))) := own_st (fun _ => XS.lneg X.here hx rfl (hb hby hd) rfl) h
theorem own_i2l (X : Stand p l e R s m args below meth c T locs cells slots) (hx : p.tables.exec = Jvm.exec) (hby : c.code = code) {x : Int32} (hd : decode code pc = .ok (.i2l, 1))  (h : own_G p e below s Q k n (T.setTop (mkF m (pc + 1) Ls (.long (x.toInt64) :: st)))) : own_G p e below s Q k n (T.setTop (mkF m pc Ls (.int x :: st))) := own_st (fun _ => XS.i2l X.here hx rfl (hb hby hd) rfl) h
theorem own_l2i (X : Stand p l e R s m args below meth c T locs cells slots) (hx : p.tables.exec = Jvm.exec) (hby : c.code = code) {x : Int64} (hd : decode code pc = .ok (.l2i, 1))  (h : own_G p e below s Q k n (T.setTop (mkF m (pc + 1) Ls (.int (x.toInt32) :: st)))) : own_G p e below s Q k n (T.setTop (mkF m pc Ls (.long x :: st))) := own_st (fun _ => XS.l2i X.here hx rfl (hb hby hd) rfl) h
theorem own_i2b (X : Stand p l e R s m args below meth c T locs cells slots) (hx : p.tables.exec = Jvm.exec) (hby : c.code = code) {x : Int32} (hd : decode code pc = .ok (.i2b, 1))  (h : own_G p e below s Q k n (T.setTop (mkF m (pc + 1) Ls (.int (x.toInt8.toInt32) :: st)))) : own_G p e below s Q k n (T.setTop (mkF m pc Ls (.int x :: st))) := own_st (fun _ => XS.i2b X.here hx rfl (hb hby hd) rfl) h
theorem own_i2s (X : Stand p l e R s m args below meth c T locs cells slots) (hx : p.tables.exec = Jvm.exec) (hby : c.code = code) {x : Int32} (hd : decode code pc = .ok (.i2s, 1))  (h : own_G p e below s Q k n (T.setTop (mkF m (pc + 1) Ls (.int (x.toInt16.toInt32) :: st)))) : own_G p e below s Q k n (T.setTop (mkF m pc Ls (.int x :: st))) := own_st (fun _ => XS.i2s X.here hx rfl (hb hby hd) rfl) h
theorem own_i2c (X : Stand p l e R s m args below meth c T locs cells slots) (hx : p.tables.exec = Jvm.exec) (hby : c.code = code) {x : Int32} (hd : decode code pc = .ok (.i2c, 1))  (h : own_G p e below s Q k n (T.setTop (mkF m (pc + 1) Ls (.int (x.toUInt32.toUInt16.toUInt32.toInt32) :: st)))) : own_G p e below s Q k n (T.setTop (mkF m pc Ls (.int x :: st))) := own_st (fun _ => XS.i2c X.here hx rfl (hb hby hd) rfl) h
theorem own_dup (X : Stand p l e R s m args below meth c T locs cells slots) (hx : p.tables.exec = Jvm.exec) (hby : c.code = code) {v : Value} (hd : decode code pc = .ok (.dup, 1)) (hc : v.category = 1) (h : own_G p e below s Q k n (T.setTop (mkF m (pc + 1) Ls (v :: v :: st)))) : own_G p e below s Q k n (T.setTop (mkF m pc Ls (v :: st))) := own_st (fun _ => XS.dup X.here hx rfl (hb hby hd) rfl hc) h
theorem own_dup_x1 (X : Stand p l e R s m args below meth c T locs cells slots) (hx : p.tables.exec = Jvm.exec) (hby : c.code = code) {v w : Value} (hd : decode code pc = .ok (.dup_x1, 1)) (hc : v.category = 1) (hc' : w.category = 1) (h : own_G p e below s Q k n (T.setTop (mkF m (pc + 1) Ls (v :: w :: v :: st)))) : own_G p e below s Q k n (T.setTop (mkF m pc Ls (v :: w :: st))) := own_st (fun _ => XS.dupX1 X.here hx rfl (hb hby hd) rfl hc hc') h
theorem own_dup2 (X : Stand p l e R s m args below meth c T locs cells slots) (hx : p.tables.exec = Jvm.exec) (hby : c.code = code) {v w : Value} (hd : decode code pc = .ok (.dup2, 1)) (hc : v.category = 1) (hc' : w.category = 1) (h : own_G p e below s Q k n (T.setTop (mkF m (pc + 1) Ls (v :: w :: v :: w :: st)))) : own_G p e below s Q k n (T.setTop (mkF m pc Ls (v :: w :: st))) := own_st (fun _ => Jvm.Free.XT.dup2 X.here hx rfl (hb hby hd) rfl hc hc') h
theorem own_dup2L (X : Stand p l e R s m args below meth c T locs cells slots) (hx : p.tables.exec = Jvm.exec) (hby : c.code = code) {v : Int64} (hd : decode code pc = .ok (.dup2, 1))  (h : own_G p e below s Q k n (T.setTop (mkF m (pc + 1) Ls (.long v :: .long v :: st)))) : own_G p e below s Q k n (T.setTop (mkF m pc Ls (.long v :: st))) := own_st (fun _ => Jvm.Free.XT.dup2L X.here hx rfl (hb hby hd) rfl) h
theorem own_pop (X : Stand p l e R s m args below meth c T locs cells slots) (hx : p.tables.exec = Jvm.exec) (hby : c.code = code) {v : Value} (hd : decode code pc = .ok (.pop, 1)) (hc : v.category = 1) (h : own_G p e below s Q k n (T.setTop (mkF m (pc + 1) Ls st))) : own_G p e below s Q k n (T.setTop (mkF m pc Ls (v :: st))) := own_st (fun _ => XS.pop X.here hx rfl (hb hby hd) rfl hc) h
theorem own_iinc (X : Stand p l e R s m args below meth c T locs cells slots) (hx : p.tables.exec = Jvm.exec) (hby : c.code = code) {kk : Nat} {cst : Int} {x : Int32} {l' : Array Slot} (hd : decode code pc = .ok (.iinc kk cst, 3)) (hl : Ls[kk]? = some (.val (.int x))) (hl' : storeLocals Ls kk (.int (x + Int32.ofInt cst)) = some l') (h : own_G p e below s Q k n (T.setTop (mkF m (pc + 3) l' st))) : own_G p e below s Q k n (T.setTop (mkF m pc Ls st)) := own_st (fun _ => XS.iinc X.here hx rfl (hb hby hd) hl hl') h
theorem own_goto (X : Stand p l e R s m args below meth c T locs cells slots) (hx : p.tables.exec = Jvm.exec) (hby : c.code = code) {o : Int} {pc' : Nat} (hd : decode code pc = .ok (.goto o, 3)) (ho : 0 ≤ (pc : Int) + o) (hp : ((pc : Int) + o).toNat = pc') (h : own_G p e below s Q k n (T.setTop (mkF m pc' Ls st))) : own_G p e below s Q k n (T.setTop (mkF m pc Ls st)) := own_st (fun _ => XS.goto X.here hx rfl rfl (hb hby hd) ho hp) h
theorem own_icmp_eq (X : Stand p l e R s m args below meth c T locs cells slots) (hx : p.tables.exec = Jvm.exec) (hby : c.code = code) {x y : Int32} {o : Int} {pc' : Nat} (hd : decode code pc = .ok (.if_icmp .eq o, 3)) (ho : 0 ≤ (pc : Int) + o) (hp : ((pc : Int) + o).toNat = pc') (hY : x = y → own_G p e below s Q k n (T.setTop (mkF m pc' Ls st))) (hN : ¬ x = y → own_G p e below s Q k n (T.setTop (mkF m (pc + 3) Ls st))) : own_G p e below s Q k n (T.setTop (mkF m pc Ls (.int y :: .int x :: st))) := by
  by_cases q : x = y
  · exact own_st (fun _ => XS.icmpYes X.here hx rfl rfl (hb hby hd) rfl (teq q).1 ho hp) (hY q)
  · exact own_st (fun _ => XS.icmpNo X.here hx rfl (hb hby hd) rfl (feq q).1) (hN q)
theorem own_if_eq (X : Stand p l e R s m args below meth c T locs cells slots) (hx : p.tables.exec = Jvm.exec) (hby : c.code = code) {x : Int32} {o : Int} {pc' : Nat} (hd : decode code pc = .ok (.ifCond .eq o, 3)) (ho : 0 ≤ (pc : Int) + o) (hp : ((pc : Int) + o).toNat = pc') (hY : x = 0 → own_G p e below s Q k n (T.setTop (mkF m pc' Ls st))) (hN : ¬ x = 0 → own_G p e below s Q k n (T.setTop (mkF m (pc + 3) Ls st))) : own_G p e below s Q k n (T.setTop (mkF m pc Ls (.int x :: st))) := by
  by_cases q : x = 0
  · exact own_st (fun _ => XS.ifYes X.here hx rfl rfl (hb hby hd) rfl ((if0 _ _).trans (teq q).1) ho hp) (hY q)
  · exact own_st (fun _ => XS.ifNo X.here hx rfl (hb hby hd) rfl ((if0 _ _).trans (feq q).1)) (hN q)
theorem own_lcmp_eq (X : Stand p l e R s m args below meth c T locs cells slots) (hx : p.tables.exec = Jvm.exec) (hby : c.code = code) {x y : Int64} {o : Int} {pc' : Nat} (hd : decode code pc = .ok (.lcmp, 1)) (hd2 : decode code (pc + 1) = .ok (.ifCond .eq o, 3)) (ho : 0 ≤ ((pc + 1 : Nat) : Int) + o) (hp : (((pc + 1 : Nat) : Int) + o).toNat = pc') (hY : x = y → own_G p e below s Q k n (T.setTop (mkF m pc' Ls st))) (hN : ¬ x = y → own_G p e below s Q k n (T.setTop (mkF m (pc + 4) Ls st))) : own_G p e below s Q k n (T.setTop (mkF m pc Ls (.long y :: .long x :: st))) := by
  refine own_st (fun _ => XS.lcmp X.here hx rfl (hb hby hd) rfl) ?_
  exact own_if_eq (x := lcmpW x y) X hx hby hd2 ho hp (fun q => hY ((lw_eq x y).mp q)) (fun q => hN (fun z => q ((lw_eq x y).mpr z)))
theorem own_icmp_ne (X : Stand p l e R s m args below meth c T locs cells slots) (hx : p.tables.exec = Jvm.exec) (hby : c.code = code) {x y : Int32} {o : Int} {pc' : Nat} (hd : decode code pc = .ok (.if_icmp .ne o, 3)) (ho : 0 ≤ (pc : Int) + o) (hp : ((pc : Int) + o).toNat = pc') (hY : ¬ x = y → own_G p e below s Q k n (T.setTop (mkF m pc' Ls st))) (hN : x = y → own_G p e below s Q k n (T.setTop (mkF m (pc + 3) Ls st))) : own_G p e below s Q k n (T.setTop (mkF m pc Ls (.int y :: .int x :: st))) := by
  by_cases q : x = y
  · exact own_st (fun _ => XS.icmpNo X.here hx rfl (hb hby hd) rfl (teq q).2) (hN q)
  · exact own_st (fun _ => XS.icmpYes X.here hx rfl rfl (hb hby hd) rfl (feq q).2 ho hp) (hY q)
theorem own_if_ne (X : Stand p l e R s m args below meth c T locs cells slots) (hx : p.tables.exec = Jvm.exec) (hby : c.code = code) {x : Int32} {o : Int} {pc' : Nat} (hd : decode code pc = .ok (.ifCond .ne o, 3)) (ho : 0 ≤ (pc : Int) + o) (hp : ((pc : Int) + o).toNat = pc') (hY : ¬ x = 0 → own_G p e below s Q k n (T.setTop (mkF m pc' Ls st))) (hN : x = 0 → own_G p e below s Q k n (T.setTop (mkF m (pc + 3) Ls st))) : own_G p e below s Q k n (T.setTop (mkF m pc Ls (.int x :: st))) := by
  by_cases q : x = 0
  · exact own_st (fun _ => XS.ifNo X.here hx rfl (hb hby hd) rfl ((if0 _ _).trans (teq q).2)) (hN q)
  · exact own_st (fun _ => XS.ifYes X.here hx rfl rfl (hb hby hd) rfl ((if0 _ _).trans (feq q).2) ho hp) (hY q)
theorem own_lcmp_ne (X : Stand p l e R s m args below meth c T locs cells slots) (hx : p.tables.exec = Jvm.exec) (hby : c.code = code) {x y : Int64} {o : Int} {pc' : Nat} (hd : decode code pc = .ok (.lcmp, 1)) (hd2 : decode code (pc + 1) = .ok (.ifCond .ne o, 3)) (ho : 0 ≤ ((pc + 1 : Nat) : Int) + o) (hp : (((pc + 1 : Nat) : Int) + o).toNat = pc') (hY : ¬ x = y → own_G p e below s Q k n (T.setTop (mkF m pc' Ls st))) (hN : x = y → own_G p e below s Q k n (T.setTop (mkF m (pc + 4) Ls st))) : own_G p e below s Q k n (T.setTop (mkF m pc Ls (.long y :: .long x :: st))) := by
  refine own_st (fun _ => XS.lcmp X.here hx rfl (hb hby hd) rfl) ?_
  exact own_if_ne (x := lcmpW x y) X hx hby hd2 ho hp (fun q => hY (fun z => q ((lw_eq x y).mpr z))) (fun q => hN ((lw_eq x y).mp q))
theorem own_icmp_lt (X : Stand p l e R s m args below meth c T locs cells slots) (hx : p.tables.exec = Jvm.exec) (hby : c.code = code) {x y : Int32} {o : Int} {pc' : Nat} (hd : decode code pc = .ok (.if_icmp .lt o, 3)) (ho : 0 ≤ (pc : Int) + o) (hp : ((pc : Int) + o).toNat = pc') (hY : x < y → own_G p e below s Q k n (T.setTop (mkF m pc' Ls st))) (hN : ¬ x < y → own_G p e below s Q k n (T.setTop (mkF m (pc + 3) Ls st))) : own_G p e below s Q k n (T.setTop (mkF m pc Ls (.int y :: .int x :: st))) := by
  by_cases q : x < y
  · exact own_st (fun _ => XS.icmpYes X.here hx rfl rfl (hb hby hd) rfl (tlt q).1 ho hp) (hY q)
  · exact own_st (fun _ => XS.icmpNo X.here hx rfl (hb hby hd) rfl (flt q).1) (hN q)
theorem own_if_lt (X : Stand p l e R s m args below meth c T locs cells slots) (hx : p.tables.exec = Jvm.exec) (hby : c.code = code) {x : Int32} {o : Int} {pc' : Nat} (hd : decode code pc = .ok (.ifCond .lt o, 3)) (ho : 0 ≤ (pc : Int) + o) (hp : ((pc : Int) + o).toNat = pc') (hY : x < 0 → own_G p e below s Q k n (T.setTop (mkF m pc' Ls st))) (hN : ¬ x < 0 → own_G p e below s Q k n (T.setTop (mkF m (pc + 3) Ls st))) : own_G p e below s Q k n (T.setTop (mkF m pc Ls (.int x :: st))) := by
  by_cases q : x < 0
  · exact own_st (fun _ => XS.ifYes X.here hx rfl rfl (hb hby hd) rfl ((if0 _ _).trans (tlt q).1) ho hp) (hY q)
  · exact own_st (fun _ => XS.ifNo X.here hx rfl (hb hby hd) rfl ((if0 _ _).trans (flt q).1)) (hN q)
theorem own_lcmp_lt (X : Stand p l e R s m args below meth c T locs cells slots) (hx : p.tables.exec = Jvm.exec) (hby : c.code = code) {x y : Int64} {o : Int} {pc' : Nat} (hd : decode code pc = .ok (.lcmp, 1)) (hd2 : decode code (pc + 1) = .ok (.ifCond .lt o, 3)) (ho : 0 ≤ ((pc + 1 : Nat) : Int) + o) (hp : (((pc + 1 : Nat) : Int) + o).toNat = pc') (hY : x < y → own_G p e below s Q k n (T.setTop (mkF m pc' Ls st))) (hN : ¬ x < y → own_G p e below s Q k n (T.setTop (mkF m (pc + 4) Ls st))) : own_G p e below s Q k n (T.setTop (mkF m pc Ls (.long y :: .long x :: st))) := by
  refine own_st (fun _ => XS.lcmp X.here hx rfl (hb hby hd) rfl) ?_
  exact own_if_lt (x := lcmpW x y) X hx hby hd2 ho hp (fun q => hY ((lw_lt x y).mp q)) (fun q => hN (fun z => q ((lw_lt x y).mpr z)))
theorem own_icmp_ge (X : Stand p l e R s m args below meth c T locs cells slots) (hx : p.tables.exec = Jvm.exec) (hby : c.code = code) {x y : Int32} {o : Int} {pc' : Nat} (hd : decode code pc = .ok (.if_icmp .ge o, 3)) (ho : 0 ≤ (pc : Int) + o) (hp : ((pc : Int) + o).toNat = pc') (hY : ¬ x < y → own_G p e below s Q k n (T.setTop (mkF m pc' Ls st))) (hN : x < y → own_G p e below s Q k n (T.setTop (mkF m (pc + 3) Ls st))) : own_G p e below s Q k n (T.setTop (mkF m pc Ls (.int y :: .int x :: st))) := by
  by_cases q : x < y
  · exact own_st (fun _ => XS.icmpNo X.here hx rfl (hb hby hd) rfl (tlt q).2.1) (hN q)
  · exact own_st (fun _ => XS.icmpYes X.here hx rfl rfl (hb hby hd) rfl (flt q).2.1 ho hp) (hY q)
theorem own_if_ge (X : Stand p l e R s m args below meth c T locs cells slots) (hx : p.tables.exec = Jvm.exec) (hby : c.code = code) {x : Int32} {o : Int} {pc' : Nat} (hd : decode code pc = .ok (.ifCond .ge o, 3)) (ho : 0 ≤ (pc : Int) + o) (hp : ((pc : Int) + o).toNat = pc') (hY : ¬ x < 0 → own_G p e below s Q k n (T.setTop (mkF m pc' Ls st))) (hN : x < 0 → own_G p e below s Q k n (T.setTop (mkF m (pc + 3) Ls st))) : own_G p e below s Q k n (T.setTop (mkF m pc Ls (.int x :: st))) := by
  by_cases q : x < 0
  · exact own_st (fun _ => XS.ifNo X.here hx rfl (hb hby hd) rfl ((if0 _ _).trans (tlt q).2.1)) (hN q)
  · exact own_st (fun _ => XS.ifYes X.here hx rfl rfl (hb hby hd) rfl ((if0 _ _).trans (flt q).2.1) ho hp) (hY q)
theorem own_lcmp_ge (X : Stand p l e R s m args below meth c T locs cells slots) (hx : p.tables.exec = Jvm.exec) (hby : c.code = code) {x y : Int64} {o : Int} {pc' : Nat} (hd : decode code pc = .ok (.lcmp, 1)) (hd2 : decode code (pc + 1) = .ok (.ifCond .ge o, 3)) (ho : 0 ≤ ((pc + 1 : Nat) : Int) + o) (hp : (((pc + 1 : Nat) : Int) + o).toNat = pc') (hY : ¬ x < y → own_G p e below s Q k n (T.setTop (mkF m pc' Ls st))) (hN : x < y → own_G p e below s Q k n (T.setTop (mkF m (pc + 4) Ls st))) : own_G p e below s Q k n (T.setTop (mkF m pc Ls (.long y :: .long x :: st))) := by
  refine own_st (fun _ => XS.lcmp X.here hx rfl (hb hby hd) rfl) ?_
  exact own_if_ge (x := lcmpW x y) X hx hby hd2 ho hp (fun q => hY (fun z => q ((lw_lt x y).mpr z))) (fun q => hN ((lw_lt x y).mp q))
theorem own_icmp_gt (X : Stand p l e R s m args below meth c T locs cells slots) (hx : p.tables.exec = Jvm.exec) (hby : c.code = code) {x y : Int32} {o : Int} {pc' : Nat} (hd : decode code pc = .ok (.if_icmp .gt o, 3)) (ho : 0 ≤ (pc : Int) + o) (hp : ((pc : Int) + o).toNat = pc') (hY : y < x → own_G p e below s Q k n (T.setTop (mkF m pc' Ls st))) (hN : ¬ y < x → own_G p e below s Q k n (T.setTop (mkF m (pc + 3) Ls st))) : own_G p e below s Q k n (T.setTop (mkF m pc Ls (.int y :: .int x :: st))) := by
  by_cases q : y < x
  · exact own_st (fun _ => XS.icmpYes X.here hx rfl rfl (hb hby hd) rfl (tlt q).2.2.1 ho hp) (hY q)
  · exact own_st (fun _ => XS.icmpNo X.here hx rfl (hb hby hd) rfl (flt q).2.2.1) (hN q)
theorem own_if_gt (X : Stand p l e R s m args below meth c T locs cells slots) (hx : p.tables.exec = Jvm.exec) (hby : c.code = code) {x : Int32} {o : Int} {pc' : Nat} (hd : decode code pc = .ok (.ifCond .gt o, 3)) (ho : 0 ≤ (pc : Int) + o) (hp : ((pc : Int) + o).toNat = pc') (hY : 0 < x → own_G p e below s Q k n (T.setTop (mkF m pc' Ls st))) (hN : ¬ 0 < x → own_G p e below s Q k n (T.setTop (mkF m (pc + 3) Ls st))) : own_G p e below s Q k n (T.setTop (mkF m pc Ls (.int x :: st))) := by
  by_cases q : 0 < x
  · exact own_st (fun _ => XS.ifYes X.here hx rfl rfl (hb hby hd) rfl ((if0 _ _).trans (tlt q).2.2.1) ho hp) (hY q)
  · exact own_st (fun _ => XS.ifNo X.here hx rfl (hb hby hd) rfl ((if0 _ _).trans (flt q).2.2.1)) (hN q)
theorem own_lcmp_gt (X : Stand p l e R s m args below meth c T locs cells slots) (hx : p.tables.exec = Jvm.exec) (hby : c.code = code) {x y : Int64} {o : Int} {pc' : Nat} (hd : decode code pc = .ok (.lcmp, 1)) (hd2 : decode code (pc + 1) = .ok (.ifCond .gt o, 3)) (ho : 0 ≤ ((pc + 1 : Nat) : Int) + o) (hp : (((pc + 1 : Nat) : Int) + o).toNat = pc') (hY : y < x → own_G p e below s Q k n (T.setTop (mkF m pc' Ls st))) (hN : ¬ y < x → own_G p e below s Q k n (T.setTop (mkF m (pc + 4) Ls st))) : own_G p e below s Q k n (T.setTop (mkF m pc Ls (.long y :: .long x :: st))) := by
  refine own_st (fun _ => XS.lcmp X.here hx rfl (hb hby hd) rfl) ?_
  exact own_if_gt (x := lcmpW x y) X hx hby hd2 ho hp (fun q => hY ((lw_gt x y).mp q)) (fun q => hN (fun z => q ((lw_gt x y).mpr z)))
theorem own_icmp_le (X : Stand p l e R s m args below meth c T locs cells slots) (hx : p.tables.exec = Jvm.exec) (hby : c.code = code) {x y : Int32} {o : Int} {pc' : Nat} (hd : decode code pc = .ok (.if_icmp .le o, 3)) (ho : 0 ≤ (pc : Int) + o) (hp : ((pc : Int) + o).toNat = pc') (hY : ¬ y < x → own_G p e below s Q k n (T.setTop (mkF m pc' Ls st))) (hN : y < x → own_G p e below s Q k n (T.setTop (mkF m (pc + 3) Ls st))) : own_G p e below s Q k n (T.setTop (mkF m pc Ls (.int y :: .int x :: st))) := by
  by_cases q : y < x
  · exact own_st (fun _ => XS.icmpNo X.here hx rfl (hb hby hd) rfl (tlt q).2.2.2) (hN q)
  · exact own_st (fun _ => XS.icmpYes X.here hx rfl rfl (hb hby hd) rfl (flt q).2.2.2 ho hp) (hY q)
theorem own_if_le (X : Stand p l e R s m args below meth c T locs cells slots) (hx : p.tables.exec = Jvm.exec) (hby : c.code = code) {x : Int32} {o : Int} {pc' : Nat} (hd : decode code pc = .ok (.ifCond .le o, 3)) (ho : 0 ≤ (pc : Int) + o) (hp : ((pc : Int) + o).toNat = pc') (hY : ¬ 0 < x → own_G p e below s Q k n (T.setTop (mkF m pc' Ls st))) (hN : 0 < x → own_G p e below s Q k n (T.setTop (mkF m (pc + 3) Ls st))) : own_G p e below s Q k n (T.setTop (mkF m pc Ls (.int x :: st))) := by
  by_cases q : 0 < x
  · exact own_st (fun _ => XS.ifNo X.here hx rfl (hb hby hd) rfl ((if0 _ _).trans (tlt q).2.2.2)) (hN q)
  · exact own_st (fun _ => XS.ifYes X.here hx rfl rfl (hb hby hd) rfl ((if0 _ _).trans (flt q).2.2.2) ho hp) (hY q)
theorem own_lcmp_le (X : Stand p l e R s m args below meth c T locs cells slots) (hx : p.tables.exec = Jvm.exec) (hby : c.code = code) {x y : Int64} {o : Int} {pc' : Nat} (hd : decode code pc = .ok (.lcmp, 1)) (hd2 : decode code (pc + 1) = .ok (.ifCond .le o, 3)) (ho : 0 ≤ ((pc + 1 : Nat) : Int) + o) (hp : (((pc + 1 : Nat) : Int) + o).toNat = pc') (hY : ¬ y < x → own_G p e below s Q k n (T.setTop (mkF m pc' Ls st))) (hN : y < x → own_G p e below s Q k n (T.setTop (mkF m (pc + 4) Ls st))) : own_G p e below s Q k n (T.setTop (mkF m pc Ls (.long y :: .long x :: st))) := by
  refine own_st (fun _ => XS.lcmp X.here hx rfl (hb hby hd) rfl) ?_
  exact own_if_le (x := lcmpW x y) X hx hby hd2 ho hp (fun q => hY (fun z => q ((lw_gt x y).mpr z))) (fun q => hN ((lw_gt x y).mp q))
theorem own_acmp_eq (X : Stand p l e R s m args below meth c T locs cells slots) (hx : p.tables.exec = Jvm.exec) (hby : c.code = code) {x y : Value} {o : Int} {pc' : Nat} (hx1 : x.isRef = true) (hy1 : y.isRef = true) (hd : decode code pc = .ok (.if_acmp .eq o, 3)) (ho : 0 ≤ (pc : Int) + o) (hp : ((pc : Int) + o).toNat = pc') (hY : x = y → own_G p e below s Q k n (T.setTop (mkF m pc' Ls st))) (hN : ¬ x = y → own_G p e below s Q k n (T.setTop (mkF m (pc + 3) Ls st))) : own_G p e below s Q k n (T.setTop (mkF m pc Ls (y :: x :: st))) := by
  by_cases q : x = y
  · exact own_st (fun _ => Jvm.Free.XT.acmpYes X.here hx rfl rfl (hb hby hd) rfl hx1 hy1 (decide_eq_true q) ho hp) (hY q)
  · exact own_st (fun _ => Jvm.Free.XT.acmpNo X.here hx rfl (hb hby hd) rfl hx1 hy1 (decide_eq_false q)) (hN q)
theorem own_acmp_ne (X : Stand p l e R s m args below meth c T locs cells slots) (hx : p.tables.exec = Jvm.exec) (hby : c.code = code) {x y : Value} {o : Int} {pc' : Nat} (hx1 : x.isRef = true) (hy1 : y.isRef = true) (hd : decode code pc = .ok (.if_acmp .ne o, 3)) (ho : 0 ≤ (pc : Int) + o) (hp : ((pc : Int) + o).toNat = pc') (hY : ¬ x = y → own_G p e below s Q k n (T.setTop (mkF m pc' Ls st))) (hN : x = y → own_G p e below s Q k n (T.setTop (mkF m (pc + 3) Ls st))) : own_G p e below s Q k n (T.setTop (mkF m pc Ls (y :: x :: st))) := by
  by_cases q : x = y
  · exact own_st (fun _ => Jvm.Free.XT.acmpNo X.here hx rfl (hb hby hd) rfl hx1 hy1 (decide_eq_false (fun z => z q))) (hN q)
  · exact own_st (fun _ => Jvm.Free.XT.acmpYes X.here hx rfl rfl (hb hby hd) rfl hx1 hy1 (decide_eq_true q) ho hp) (hY q)
theorem own_ifnullY (X : Stand p l e R s m args below meth c T locs cells slots) (hx : p.tables.exec = Jvm.exec) (hby : c.code = code) {o : Int} {pc' : Nat} (hd : decode code pc = .ok (.ifnull o, 3)) (ho : 0 ≤ (pc : Int) + o) (hp : ((pc : Int) + o).toNat = pc') (h : own_G p e below s Q k n (T.setTop (mkF m pc' Ls st))) : own_G p e below s Q k n (T.setTop (mkF m pc Ls (.null :: st))) := own_st (fun _ => XS.ifnullYes X.here hx rfl rfl (hb hby hd) rfl ho hp) h
theorem own_ifnullN (X : Stand p l e R s m args below meth c T locs cells slots) (hx : p.tables.exec = Jvm.exec) (hby : c.code = code) {o : Int} {b : Addr} (hd : decode code pc = .ok (.ifnull o, 3)) (h : own_G p e below s Q k n (T.setTop (mkF m (pc + 3) Ls st))) : own_G p e below s Q k n (T.setTop (mkF m pc Ls (.ref b :: st))) := own_st (fun _ => XS.ifnullNo X.here hx rfl (hb hby hd) rfl) h
theorem own_ifnonnullY (X : Stand p l e R s m args below meth c T locs cells slots) (hx : p.tables.exec = Jvm.exec) (hby : c.code = code) {o : Int} {b : Addr} {pc' : Nat} (hd : decode code pc = .ok (.ifnonnull o, 3)) (ho : 0 ≤ (pc : Int) + o) (hp : ((pc : Int) + o).toNat = pc') (h : own_G p e below s Q k n (T.setTop (mkF m pc' Ls st))) : own_G p e below s Q k n (T.setTop (mkF m pc Ls (.ref b :: st))) := own_st (fun _ => XS.ifnonnullYes X.here hx rfl rfl (hb hby hd) rfl ho hp) h
theorem own_ifnonnullN (X : Stand p l e R s m args below meth c T locs cells slots) (hx : p.tables.exec = Jvm.exec) (hby : c.code = code) {o : Int} (hd : decode code pc = .ok (.ifnonnull o, 3)) (h : own_G p e below s Q k n (T.setTop (mkF m (pc + 3) Ls st))) : own_G p e below s Q k n (T.setTop (mkF m pc Ls (.null :: st))) := own_st (fun _ => XS.ifnonnullNo X.here hx rfl (hb hby hd) rfl) h
theorem own_tswIn (X : Stand p l e R s m args below meth c T locs cells slots) (hx : p.tables.exec = Jvm.exec) (hby : c.code = code) {dflt low high : Int} {offs : Array Int} {len : Nat} {o : Int} {pc' : Nat} {i : Int32} (hd : decode code pc = .ok (.tableswitch dflt low high offs, len)) (hin : ¬ (i.toInt < low ∨ i.toInt > high)) (hoff : offs[(i.toInt - low).toNat]? = some o) (ho : 0 ≤ (pc : Int) + o) (hp : ((pc : Int) + o).toNat = pc') (h : own_G p e below s Q k n (T.setTop (mkF m pc' Ls st))) : own_G p e below s Q k n (T.setTop (mkF m pc Ls (.int i :: st))) := own_st (fun _ => XS.tswIn (g := mkF m pc Ls (.int i :: st)) (pc0 := pc) X.here hx rfl rfl (hb hby hd) rfl hin hoff ho hp) h
theorem own_ldcI (X : Stand p l e R s m args below meth c T locs cells slots) (hx : p.tables.exec = Jvm.exec) (hby : c.code = code) (hZ : Z.Warmed39 s.vm) {own : String} {i : Nat} {v : Int32} (hown : s.vm.findClass own = some m.cls) (w : (Cond.constant own i v).before a0 Z = true) (hd : decode code pc = .ok (.ldc i, 2)) (h : own_G p e below s Q k n (T.setTop (mkF m (pc + 2) Ls (.int v :: st)))) : own_G p e below s Q k n (T.setTop (mkF m pc Ls st)) := own_st (X.ldcInt hx hown (mvT hZ w) rfl (hb hby hd)) h
theorem own_ldcJ (X : Stand p l e R s m args below meth c T locs cells slots) (hx : p.tables.exec = Jvm.exec) (hby : c.code = code) (hZ : Z.Warmed39 s.vm) {own : String} {i : Nat} {v : Int64} (hown : s.vm.findClass own = some m.cls) (w : (Cond.constantLong own i v).before a0 Z = true) (hd : decode code pc = .ok (.ldc2_w i, 3)) (h : own_G p e below s Q k n (T.setTop (mkF m (pc + 3) Ls (.long v :: st)))) : own_G p e below s Q k n (T.setTop (mkF m pc Ls st)) := own_st (X.ldc2Long hx hown (mvT hZ w) rfl (hb hby hd)) h
theorem own_instNull (X : Stand p l e R s m args below meth c T locs cells slots) (hx : p.tables.exec = Jvm.exec) (hby : c.code = code) {i : Nat} (hd : decode code pc = .ok (.instanceof i, 3)) (h : own_G p e below s Q k n (T.setTop (mkF m (pc + 3) Ls (.int 0 :: st)))) : own_G p e below s Q k n (T.setTop (mkF m pc Ls (.null :: st))) := own_st (X.instanceofNull hx rfl rfl (hb hby hd)) h
theorem own_castNull (X : Stand p l e R s m args below meth c T locs cells slots) (hx : p.tables.exec = Jvm.exec) (hby : c.code = code) {i : Nat} (hd : decode code pc = .ok (.checkcast i, 3)) (h : own_G p e below s Q k n (T.setTop (mkF m (pc + 3) Ls (.null :: st)))) : own_G p e below s Q k n (T.setTop (mkF m pc Ls (.null :: st))) := own_st (X.checkcastNull hx rfl rfl (hb hby hd)) h
def own_Ar (Z : State) (h : Heap) (a : Addr) (ty : FieldType) (n : Nat) (f : Nat → Value) : Prop := ∃ c : Cell, Arr Z h a c ty ∧ c.slots.size = n ∧ n < 2 ^ 31 ∧ ∀ j, j < n → c.slots[j]? = some (f j)
def own_set (f : Nat → Value) (j : Nat) (v : Value) : Nat → Value := fun i => if i = j then v else f i
theorem own_set_same (f : Nat → Value) (j : Nat) (v : Value) : own_set f j v j = v := if_pos rfl
theorem own_set_ne (f : Nat → Value) {i j : Nat} (v : Value) (q : i ≠ j) : own_set f j v i = f i := if_neg q
theorem own_Ar.lt {a : Addr} {ty : FieldType} {N : Nat} {f : Nat → Value} (F : own_Ar Z h a ty N f) : a < h.size := by obtain ⟨c, A, -⟩ := F; exact A.lt
theorem own_Ar.small {a : Addr} {ty : FieldType} {N : Nat} {f : Nat → Value} (F : own_Ar Z h a ty N f) : N < 2 ^ 31 := by obtain ⟨c, -, -, q, -⟩ := F; exact q
theorem own_Ar.ext {h' : Heap} {a : Addr} {ty : FieldType} {N : Nat} {f : Nat → Value} (F : own_Ar Z h a ty N f) (E : Ext h h') : own_Ar Z h' a ty N f := by obtain ⟨c, A, r⟩ := F; exact ⟨c, A.ext E, r⟩
theorem own_Ar.other {h' : Heap} {a b : Addr} {sl : Nat} {v : Value} {ty : FieldType} {N : Nat} {f : Nat → Value} (F : own_Ar Z h b ty N f) (W : Wr h h' a sl v) (q : b ≠ a) : own_Ar Z h' b ty N f := by obtain ⟨c, A, r⟩ := F; exact ⟨c, A.other W q, r⟩
theorem own_Ar.keep {h' : Heap} {a : Addr} {ws : List Addr} {ty : FieldType} {N : Nat} {f : Nat → Value} (F : own_Ar Z h a ty N f) (K : Keep h h' ws) (q : a ∉ ws) : own_Ar Z h' a ty N f := by obtain ⟨c, A, r⟩ := F; exact ⟨c, ⟨K.2.1 a c A.1 q, A.2⟩, r⟩
theorem own_Ar.fn {a : Addr} {ty : FieldType} {N : Nat} {f g : Nat → Value} (F : own_Ar Z h a ty N f) (q : ∀ j, j < N → f j = g j) : own_Ar Z h a ty N g := by obtain ⟨c, A, r1, r2, r3⟩ := F; exact ⟨c, A, r1, r2, fun j hj => by rw [r3 j hj, q j hj]⟩
theorem own_Ar.store {h' : Heap} {a : Addr} {c : Cell} {ty : FieldType} {N j : Nat} {f : Nat → Value} {v : Value} (A : Arr Z h a c ty) (r1 : c.slots.size = N) (r2 : N < 2 ^ 31) (r3 : ∀ j, j < N → c.slots[j]? = some (f j)) (W : Wr h h' a j v) : own_Ar Z h' a ty N (own_set f j v) := by
  refine ⟨_, A.same W, by rw [sz_set]; exact r1, r2, fun i hi => ?_⟩
  by_cases e : i = j
  · subst e; rw [own_set_same]; simp [Cell.setSlot, r1, hi]
  · rw [own_set_ne _ _ e, ← r3 i hi]; exact Array.getElem?_setIfInBounds_ne (fun q => e q.symm)
theorem own_Ar.new {a : Addr} {ty : FieldType} {kc : ClassId} {z : Int32} (A : Arr Z h a (newA kc ty z) ty) (q : ¬ z < 0) : own_Ar Z h a ty z.toNatClampNeg (fun _ => defaultValue ty) :=
  ⟨_, A, sz_new _ _ _, (back32 q).2, fun j hj => by simp [newA, hj]⟩
theorem own_inb {N : Nat} {j : Int32} {i : Nat} (hj : j.toInt = i) (hi : i < N) : ¬ (j < 0 ∨ N ≤ j.toNatClampNeg) ∧ j.toNatClampNeg = i := by
  have q : j.toNatClampNeg = i := by simp only [Int32.toNatClampNeg, hj]; omega
  refine ⟨?_, q⟩
  rw [q]; simp only [Int32.lt_iff_toInt_lt, hj, Int32.reduceToInt]; omega
def own_Ov (Z : State) (h : Heap) (a : Addr) (C : String) : Prop := ∃ cell : Cell, h[a]? = some cell ∧ Ovr Z cell.cls C
theorem own_Ov.ext {h' : Heap} {a : Addr} {C : String} (F : own_Ov Z h a C) (E : Ext h h') : own_Ov Z h' a C := by obtain ⟨c, h1, h2⟩ := F; exact ⟨c, E.2 _ _ h1, h2⟩
theorem own_Ov.wr {h' : Heap} {a b : Addr} {sl : Nat} {v : Value} {C : String} (F : own_Ov Z h a C) (W : Wr h h' b sl v) : own_Ov Z h' a C := by obtain ⟨c, h1, h2⟩ := F; obtain ⟨c', e1, e2, -⟩ := wr_at W h1; exact ⟨c', e1, by rw [e2]; exact h2⟩
theorem own_Ov.keep {h' : Heap} {a : Addr} {ws : List Addr} {C : String} (F : own_Ov Z h a C) (K : Keep h h' ws) : own_Ov Z h' a C := by obtain ⟨c, h1, h2⟩ := F; obtain ⟨c', e1, e2, -⟩ := K.2.2 _ _ h1; exact ⟨c', e1, by rw [e2]; exact h2⟩
theorem own_sto {a y : Addr} {ty : FieldType} {N : Nat} {f : Nat → Value} {C : String} (F : own_Ar Z h a ty N f) (V : own_Ov Z h a C) (I : Ins Z h y C true) : Sto Z h a (.ref y) := by
  obtain ⟨c, A, -⟩ := F; obtain ⟨c', h1, h2⟩ := V; cases A.1.symm.trans h1; exact Sto.of A h2 I
theorem own_alen (X : Stand p l e R s m args below meth c T locs cells slots) (hx : p.tables.exec = Jvm.exec) (hby : c.code = code) (hZ : Z.Warmed39 s.vm) (eT : T.heap = h) {a : Addr} {ty : FieldType} {N : Nat} {f : Nat → Value} (F : own_Ar Z h a ty N f) (hd : decode code pc = .ok (.arraylength, 1)) (h2 : own_G p e below s Q k n (T.setTop (mkF m (pc + 1) Ls (.int N.toInt32 :: st)))) : own_G p e below s Q k n (T.setTop (mkF m pc Ls (.ref a :: st))) := by
  obtain ⟨cl, A, r1, r2, r3⟩ := F
  refine own_st (fun _ => X.arraylength hx (by rw [eT]; exact A.1) (State.isArrayOf_alike hZ.alike A.2.1) (g := mkF m pc Ls (.ref a :: st)) rfl rfl (hb hby hd) _) ?_
  rw [r1]; exact h2
theorem own_iaload (X : Stand p l e R s m args below meth c T locs cells slots) (hx : p.tables.exec = Jvm.exec) (hby : c.code = code) (hZ : Z.Warmed39 s.vm) (eT : T.heap = h) {a : Addr} {N : Nat} {f : Nat → Value} (F : own_Ar Z h a .int N f) {j : Int32} {i : Nat} (hj : j.toInt = i) (hi : i < N) (hd : decode code pc = .ok (.iaload, 1)) (h2 : own_G p e below s Q k n (T.setTop (mkF m (pc + 1) Ls (f i :: st)))) : own_G p e below s Q k n (T.setTop (mkF m pc Ls (.int j :: .ref a :: st))) := by
  obtain ⟨cl, A, r1, r2, r3⟩ := F
  obtain ⟨q1, q2⟩ := own_inb hj hi
  exact own_st (fun _ => X.iaload hx (v := f i) (by rw [eT]; exact A.1) (State.isArrayOf_alike hZ.alike A.2.1) A.2.2 (j := j) (by rw [r1]; exact q1) (by rw [q2]; exact r3 i hi) (g := mkF m pc Ls (.int j :: .ref a :: st)) rfl rfl (hb hby hd) _) h2
theorem own_laload (X : Stand p l e R s m args below meth c T locs cells slots) (hx : p.tables.exec = Jvm.exec) (hby : c.code = code) (hZ : Z.Warmed39 s.vm) (eT : T.heap = h) {a : Addr} {N : Nat} {f : Nat → Value} (F : own_Ar Z h a .long N f) {j : Int32} {i : Nat} (hj : j.toInt = i) (hi : i < N) (hd : decode code pc = .ok (.laload, 1)) (h2 : own_G p e below s Q k n (T.setTop (mkF m (pc + 1) Ls (f i :: st)))) : own_G p e below s Q k n (T.setTop (mkF m pc Ls (.int j :: .ref a :: st))) := by
  obtain ⟨cl, A, r1, r2, r3⟩ := F
  obtain ⟨q1, q2⟩ := own_inb hj hi
  exact own_st (fun _ => X.laload hx (v := f i) (by rw [eT]; exact A.1) (State.isArrayOf_alike hZ.alike A.2.1) A.2.2 (j := j) (by rw [r1]; exact q1) (by rw [q2]; exact r3 i hi) (g := mkF m pc Ls (.int j :: .ref a :: st)) rfl rfl (hb hby hd) _) h2
theorem own_baload (X : Stand p l e R s m args below meth c T locs cells slots) (hx : p.tables.exec = Jvm.exec) (hby : c.code = code) (hZ : Z.Warmed39 s.vm) (eT : T.heap = h) {a : Addr} {N : Nat} {f : Nat → Value} (F : own_Ar Z h a .byte N f) {j : Int32} {i : Nat} (hj : j.toInt = i) (hi : i < N) (hd : decode code pc = .ok (.baload, 1)) (h2 : own_G p e below s Q k n (T.setTop (mkF m (pc + 1) Ls (f i :: st)))) : own_G p e below s Q k n (T.setTop (mkF m pc Ls (.int j :: .ref a :: st))) := by
  obtain ⟨cl, A, r1, r2, r3⟩ := F
  obtain ⟨q1, q2⟩ := own_inb hj hi
  exact own_st (fun _ => X.baloadBytes hx (v := f i) (by rw [eT]; exact A.1) (State.isArrayOf_alike hZ.alike A.2.1) A.2.2 (j := j) (by rw [r1]; exact q1) (by rw [q2]; exact r3 i hi) (g := mkF m pc Ls (.int j :: .ref a :: st)) rfl rfl (hb hby hd) _) h2
theorem own_caload (X : Stand p l e R s m args below meth c T locs cells slots) (hx : p.tables.exec = Jvm.exec) (hby : c.code = code) (hZ : Z.Warmed39 s.vm) (eT : T.heap = h) {a : Addr} {N : Nat} {f : Nat → Value} (F : own_Ar Z h a .char N f) {j : Int32} {i : Nat} (hj : j.toInt = i) (hi : i < N) (hd : decode code pc = .ok (.caload, 1)) (h2 : own_G p e below s Q k n (T.setTop (mkF m (pc + 1) Ls (f i :: st)))) : own_G p e below s Q k n (T.setTop (mkF m pc Ls (.int j :: .ref a :: st))) := by
  obtain ⟨cl, A, r1, r2, r3⟩ := F
  obtain ⟨q1, q2⟩ := own_inb hj hi
  exact own_st (fun _ => X.caload hx (v := f i) (by rw [eT]; exact A.1) (State.isArrayOf_alike hZ.alike A.2.1) A.2.2 (j := j) (by rw [r1]; exact q1) (by rw [q2]; exact r3 i hi) (g := mkF m pc Ls (.int j :: .ref a :: st)) rfl rfl (hb hby hd) _) h2
theorem own_aaload (X : Stand p l e R s m args below meth c T locs cells slots) (hx : p.tables.exec = Jvm.exec) (hby : c.code = code) (hZ : Z.Warmed39 s.vm) (eT : T.heap = h) {a : Addr} {ty : FieldType} {N : Nat} {f : Nat → Value} (F : own_Ar Z h a ty N f) (hty : ty.isReference = true) {j : Int32} {i : Nat} (hj : j.toInt = i) (hi : i < N) (hd : decode code pc = .ok (.aaload, 1)) (h2 : own_G p e below s Q k n (T.setTop (mkF m (pc + 1) Ls (f i :: st)))) : own_G p e below s Q k n (T.setTop (mkF m pc Ls (.int j :: .ref a :: st))) := by
  obtain ⟨cl, A, r1, r2, r3⟩ := F
  obtain ⟨q1, q2⟩ := own_inb hj hi
  exact own_st (fun _ => X.aaload hx (v := f i) (by rw [eT]; exact A.1) (State.isArrayOf_alike hZ.alike A.2.1) hty A.2.2 (j := j) (by rw [r1]; exact q1) (by rw [q2]; exact r3 i hi) (g := mkF m pc Ls (.int j :: .ref a :: st)) rfl rfl (hb hby hd) _) h2
theorem own_iastore (X : Stand p l e R s m args below meth c T locs cells slots) (hx : p.tables.exec = Jvm.exec) (hby : c.code = code) (hZ : Z.Warmed39 s.vm) (eT : T.heap = h) {a : Addr} {N : Nat} {f : Nat → Value} (F : own_Ar Z h a .int N f) {j : Int32} {i : Nat} (hj : j.toInt = i) (hi : i < N) {x : Int32} (hd : decode code pc = .ok (.iastore, 1)) : ∃ T' h', Stand p l e R s m args below meth c T' (locs ++ [⟨a, i⟩]) cells slots ∧ T'.heap = h' ∧ Wr h h' a i (.int x) ∧ own_Ar Z h' a .int N (own_set f i (.int x)) ∧ ∀ target, Steps p.tables e below (T'.setTop (mkF m (pc + 1) Ls st)) target → Steps p.tables e below (T.setTop (mkF m pc Ls (.int x :: .int j :: .ref a :: st))) target := by
  obtain ⟨cl, A, r1, r2, r3⟩ := F
  obtain ⟨q1, q2⟩ := own_inb hj hi
  obtain ⟨T', h', X', e', W, stp⟩ := stI X hx hZ eT A (j := j) (by rw [r1]; exact q1) (g := mkF m pc Ls (.int x :: .int j :: .ref a :: st)) rfl rfl (hb hby hd)
  rw [q2] at X' W
  exact ⟨T', h', X', e', W, own_Ar.store A r1 r2 r3 W, stp⟩
theorem own_lastore (X : Stand p l e R s m args below meth c T locs cells slots) (hx : p.tables.exec = Jvm.exec) (hby : c.code = code) (hZ : Z.Warmed39 s.vm) (eT : T.heap = h) {a : Addr} {N : Nat} {f : Nat → Value} (F : own_Ar Z h a .long N f) {j : Int32} {i : Nat} (hj : j.toInt = i) (hi : i < N) {x : Int64} (hd : decode code pc = .ok (.lastore, 1)) : ∃ T' h', Stand p l e R s m args below meth c T' (locs ++ [⟨a, i⟩]) cells slots ∧ T'.heap = h' ∧ Wr h h' a i (.long x) ∧ own_Ar Z h' a .long N (own_set f i (.long x)) ∧ ∀ target, Steps p.tables e below (T'.setTop (mkF m (pc + 1) Ls st)) target → Steps p.tables e below (T.setTop (mkF m pc Ls (.long x :: .int j :: .ref a :: st))) target := by
  obtain ⟨cl, A, r1, r2, r3⟩ := F
  obtain ⟨q1, q2⟩ := own_inb hj hi
  obtain ⟨T', h', X', e', W, stp⟩ := stJ X hx hZ eT A (j := j) (by rw [r1]; exact q1) (g := mkF m pc Ls (.long x :: .int j :: .ref a :: st)) rfl rfl (hb hby hd)
  rw [q2] at X' W
  exact ⟨T', h', X', e', W, own_Ar.store A r1 r2 r3 W, stp⟩
theorem own_bastore (X : Stand p l e R s m args below meth c T locs cells slots) (hx : p.tables.exec = Jvm.exec) (hby : c.code = code) (hZ : Z.Warmed39 s.vm) (eT : T.heap = h) {a : Addr} {N : Nat} {f : Nat → Value} (F : own_Ar Z h a .byte N f) {j : Int32} {i : Nat} (hj : j.toInt = i) (hi : i < N) {x : Int32} (hd : decode code pc = .ok (.bastore, 1)) : ∃ T' h', Stand p l e R s m args below meth c T' (locs ++ [⟨a, i⟩]) cells slots ∧ T'.heap = h' ∧ Wr h h' a i (.int (nar .byte x)) ∧ own_Ar Z h' a .byte N (own_set f i (.int (nar .byte x))) ∧ ∀ target, Steps p.tables e below (T'.setTop (mkF m (pc + 1) Ls st)) target → Steps p.tables e below (T.setTop (mkF m pc Ls (.int x :: .int j :: .ref a :: st))) target := by
  obtain ⟨cl, A, r1, r2, r3⟩ := F
  obtain ⟨q1, q2⟩ := own_inb hj hi
  obtain ⟨T', h', X', e', W, stp⟩ := stB X hx hZ eT A (j := j) (by rw [r1]; exact q1) (g := mkF m pc Ls (.int x :: .int j :: .ref a :: st)) rfl rfl (hb hby hd)
  rw [q2] at X' W
  exact ⟨T', h', X', e', W, own_Ar.store A r1 r2 r3 W, stp⟩
theorem own_castore (X : Stand p l e R s m args below meth c T locs cells slots) (hx : p.tables.exec = Jvm.exec) (hby : c.code = code) (hZ : Z.Warmed39 s.vm) (eT : T.heap = h) {a : Addr} {N : Nat} {f : Nat → Value} (F : own_Ar Z h a .char N f) {j : Int32} {i : Nat} (hj : j.toInt = i) (hi : i < N) {x : Int32} (hd : decode code pc = .ok (.castore, 1)) : ∃ T' h', Stand p l e R s m args below meth c T' (locs ++ [⟨a, i⟩]) cells slots ∧ T'.heap = h' ∧ Wr h h' a i (.int (nar .char x)) ∧ own_Ar Z h' a .char N (own_set f i (.int (nar .char x))) ∧ ∀ target, Steps p.tables e below (T'.setTop (mkF m (pc + 1) Ls st)) target → Steps p.tables e below (T.setTop (mkF m pc Ls (.int x :: .int j :: .ref a :: st))) target := by
  obtain ⟨cl, A, r1, r2, r3⟩ := F
  obtain ⟨q1, q2⟩ := own_inb hj hi
  obtain ⟨T', h', X', e', W, stp⟩ := stC X hx hZ eT A (j := j) (by rw [r1]; exact q1) (g := mkF m pc Ls (.int x :: .int j :: .ref a :: st)) rfl rfl (hb hby hd)
  rw [q2] at X' W
  exact ⟨T', h', X', e', W, own_Ar.store A r1 r2 r3 W, stp⟩
theorem own_dastore (X : Stand p l e R s m args below meth c T locs cells slots) (hx : p.tables.exec = Jvm.exec) (hby : c.code = code) (hZ : Z.Warmed39 s.vm) (eT : T.heap = h) {a : Addr} {N : Nat} {f : Nat → Value} (F : own_Ar Z h a .double N f) {j : Int32} {i : Nat} (hj : j.toInt = i) (hi : i < N) {x : UInt64} (hd : decode code pc = .ok (.dastore, 1)) : ∃ T' h', Stand p l e R s m args below meth c T' (locs ++ [⟨a, i⟩]) cells slots ∧ T'.heap = h' ∧ Wr h h' a i (.double x) ∧ own_Ar Z h' a .double N (own_set f i (.double x)) ∧ ∀ target, Steps p.tables e below (T'.setTop (mkF m (pc + 1) Ls st)) target → Steps p.tables e below (T.setTop (mkF m pc Ls (.double x :: .int j :: .ref a :: st))) target := by
  obtain ⟨cl, A, r1, r2, r3⟩ := F
  obtain ⟨q1, q2⟩ := own_inb hj hi
  obtain ⟨T', h', X', e', W, stp⟩ := stD X hx hZ eT A (j := j) (by rw [r1]; exact q1) (g := mkF m pc Ls (.double x :: .int j :: .ref a :: st)) rfl rfl (hb hby hd)
  rw [q2] at X' W
  exact ⟨T', h', X', e', W, own_Ar.store A r1 r2 r3 W, stp⟩
theorem own_aastore (X : Stand p l e R s m args below meth c T locs cells slots) (hx : p.tables.exec = Jvm.exec) (hby : c.code = code) (hZ : Z.Warmed39 s.vm) (eT : T.heap = h) {a : Addr} {ty : FieldType} {N : Nat} {f : Nat → Value} (F : own_Ar Z h a ty N f) (hty : ty.isReference = true) {j : Int32} {i : Nat} (hj : j.toInt = i) (hi : i < N) {v : Value} (S : Sto Z h a v) (hd : decode code pc = .ok (.aastore, 1)) : ∃ T' h', Stand p l e R s m args below meth c T' (locs ++ [⟨a, i⟩]) cells slots ∧ T'.heap = h' ∧ Wr h h' a i v ∧ own_Ar Z h' a ty N (own_set f i v) ∧ ∀ target, Steps p.tables e below (T'.setTop (mkF m (pc + 1) Ls st)) target → Steps p.tables e below (T.setTop (mkF m pc Ls (v :: .int j :: .ref a :: st))) target := by
  obtain ⟨cl, A, r1, r2, r3⟩ := F
  obtain ⟨q1, q2⟩ := own_inb hj hi
  obtain ⟨T', h', X', e', W, stp⟩ := stR X hx hZ eT A (j := j) (by rw [r1]; exact q1) hty S (g := mkF m pc Ls (v :: .int j :: .ref a :: st)) rfl rfl (hb hby hd)
  rw [q2] at X' W
  exact ⟨T', h', X', e', W, own_Ar.store A r1 r2 r3 W, stp⟩
end OwnSteps
theorem own_narR {C : String} {v : Value} (h : v.isRef = true) : narrow (.object C) v = v := by rcases ref_cases h with rfl | ⟨z, rfl⟩ <;> rfl
theorem own_fitR {C : String} {v : Value} (h : v.isRef = true) : fits (.object C) v = true := by rcases ref_cases h with rfl | ⟨z, rfl⟩ <;> rfl
theorem own_irr {x : Int32} : ¬ x < x := by rw [Int32.lt_iff_toInt_lt]; omega
theorem own_irrL {x : Int64} : ¬ x < x := by rw [Int64.lt_iff_toInt_lt]; omega
theorem own_w0 {Z : State} {a0 : Array Value} (hw : ∀ d ∈ tables_1, d.before a0 Z = true) : (Jvm.Cond.methodLink "com/example/iron_log/ironlog/index/HeaderEqualsPinLaw" (7 : Nat) ({ cls := "com/example/iron_log/ironlog/index/HeaderEqualsPinLaw", name := "pickInt", desc := "(IIII)I" } : Jvm.MethodName)).before a0 Z = true := hw _ (List.mem_of_getElem? (i := 0) rfl)
theorem own_w1 {Z : State} {a0 : Array Value} (hw : ∀ d ∈ tables_1, d.before a0 Z = true) : (Jvm.Cond.static ({ cls := "com/example/iron_log/ironlog/index/HeaderEqualsPinLaw", name := "pickInt", desc := "(IIII)I" } : Jvm.MethodName)).before a0 Z = true := hw _ (List.mem_of_getElem? (i := 1) rfl)
theorem own_w2 {Z : State} {a0 : Array Value} (hw : ∀ d ∈ tables_1, d.before a0 Z = true) : (Jvm.Cond.initialized "com/example/iron_log/ironlog/index/HeaderEqualsPinLaw").before a0 Z = true := hw _ (List.mem_of_getElem? (i := 2) rfl)
theorem own_w3 {Z : State} {a0 : Array Value} (hw : ∀ d ∈ tables_1, d.before a0 Z = true) : (Jvm.Cond.code ({ cls := "com/example/iron_log/ironlog/index/HeaderEqualsPinLaw", name := "pickInt", desc := "(IIII)I" } : Jvm.MethodName) method_2_code (4 : Nat) (Option.some Jvm.ClassFile.FieldType.int)).before a0 Z = true := hw _ (List.mem_of_getElem? (i := 3) rfl)
theorem own_w4 {Z : State} {a0 : Array Value} (hw : ∀ d ∈ tables_1, d.before a0 Z = true) : (Jvm.Cond.methodLink "com/example/iron_log/ironlog/index/HeaderEqualsPinLaw" (13 : Nat) ({ cls := "com/example/iron_log/ironlog/index/HeaderEqualsPinLaw", name := "pickLong", desc := "(IIJJJ)J" } : Jvm.MethodName)).before a0 Z = true := hw _ (List.mem_of_getElem? (i := 4) rfl)
theorem own_w5 {Z : State} {a0 : Array Value} (hw : ∀ d ∈ tables_1, d.before a0 Z = true) : (Jvm.Cond.static ({ cls := "com/example/iron_log/ironlog/index/HeaderEqualsPinLaw", name := "pickLong", desc := "(IIJJJ)J" } : Jvm.MethodName)).before a0 Z = true := hw _ (List.mem_of_getElem? (i := 5) rfl)
theorem own_w6 {Z : State} {a0 : Array Value} (hw : ∀ d ∈ tables_1, d.before a0 Z = true) : (Jvm.Cond.code ({ cls := "com/example/iron_log/ironlog/index/HeaderEqualsPinLaw", name := "pickLong", desc := "(IIJJJ)J" } : Jvm.MethodName) method_3_code (9 : Nat) (Option.some Jvm.ClassFile.FieldType.long)).before a0 Z = true := hw _ (List.mem_of_getElem? (i := 6) rfl)
theorem own_w7 {Z : State} {a0 : Array Value} (hw : ∀ d ∈ tables_1, d.before a0 Z = true) : (Jvm.Cond.classLink "com/example/iron_log/ironlog/index/HeaderEqualsPinLaw" (17 : Nat) "com/example/iron_log/ironlog/index/IndexFile$Header").before a0 Z = true := hw _ (List.mem_of_getElem? (i := 7) rfl)
theorem own_w8 {Z : State} {a0 : Array Value} (hw : ∀ d ∈ tables_1, d.before a0 Z = true) : (Jvm.Cond.instantiable "com/example/iron_log/ironlog/index/IndexFile$Header" (6 : Nat)).before a0 Z = true := hw _ (List.mem_of_getElem? (i := 8) rfl)
theorem own_w9 {Z : State} {a0 : Array Value} (hw : ∀ d ∈ tables_1, d.before a0 Z = true) : (Jvm.Cond.initialized "com/example/iron_log/ironlog/index/IndexFile$Header").before a0 Z = true := hw _ (List.mem_of_getElem? (i := 9) rfl)
theorem own_w10 {Z : State} {a0 : Array Value} (hw : ∀ d ∈ tables_1, d.before a0 Z = true) : (Jvm.Cond.methodLink "com/example/iron_log/ironlog/index/HeaderEqualsPinLaw" (19 : Nat) ({ cls := "com/example/iron_log/ironlog/index/IndexFile$Header", name := "<init>", desc := "(IIJJJJ)V" } : Jvm.MethodName)).before a0 Z = true := hw _ (List.mem_of_getElem? (i := 10) rfl)
theorem own_w11 {Z : State} {a0 : Array Value} (hw : ∀ d ∈ tables_1, d.before a0 Z = true) : (Jvm.Cond.instanceMethod ({ cls := "com/example/iron_log/ironlog/index/IndexFile$Header", name := "<init>", desc := "(IIJJJJ)V" } : Jvm.MethodName)).before a0 Z = true := hw _ (List.mem_of_getElem? (i := 11) rfl)
theorem own_w12 {Z : State} {a0 : Array Value} (hw : ∀ d ∈ tables_1, d.before a0 Z = true) : (Jvm.Cond.code ({ cls := "com/example/iron_log/ironlog/index/IndexFile$Header", name := "<init>", desc := "(IIJJJJ)V" } : Jvm.MethodName) prog_48_method_1_code (11 : Nat) (Option.none : Option Jvm.ClassFile.FieldType)).before a0 Z = true := hw _ (List.mem_of_getElem? (i := 12) rfl)
theorem own_w13 {Z : State} {a0 : Array Value} (hw : ∀ d ∈ tables_1, d.before a0 Z = true) : (Jvm.Cond.methodLink "com/example/iron_log/ironlog/index/IndexFile$Header" (3 : Nat) ({ cls := "java/lang/Object", name := "<init>", desc := "()V" } : Jvm.MethodName)).before a0 Z = true := hw _ (List.mem_of_getElem? (i := 13) rfl)
theorem own_w14 {Z : State} {a0 : Array Value} (hw : ∀ d ∈ tables_1, d.before a0 Z = true) : (Jvm.Cond.instanceMethod ({ cls := "java/lang/Object", name := "<init>", desc := "()V" } : Jvm.MethodName)).before a0 Z = true := hw _ (List.mem_of_getElem? (i := 14) rfl)
theorem own_w15 {Z : State} {a0 : Array Value} (hw : ∀ d ∈ tables_1, d.before a0 Z = true) : (Jvm.Cond.code ({ cls := "java/lang/Object", name := "<init>", desc := "()V" } : Jvm.MethodName) object_method_1_code (1 : Nat) (Option.none : Option Jvm.ClassFile.FieldType)).before a0 Z = true := hw _ (List.mem_of_getElem? (i := 15) rfl)
theorem own_w16 {Z : State} {a0 : Array Value} (hw : ∀ d ∈ tables_1, d.before a0 Z = true) : (Jvm.Cond.fieldLink "com/example/iron_log/ironlog/index/IndexFile$Header" (9 : Nat) "com/example/iron_log/ironlog/index/IndexFile$Header" "slotCount" "I").before a0 Z = true := hw _ (List.mem_of_getElem? (i := 16) rfl)
theorem own_w17 {Z : State} {a0 : Array Value} (hw : ∀ d ∈ tables_1, d.before a0 Z = true) : (Jvm.Cond.laysFinal "com/example/iron_log/ironlog/index/IndexFile$Header" "com/example/iron_log/ironlog/index/IndexFile$Header" "slotCount" "I").before a0 Z = true := hw _ (List.mem_of_getElem? (i := 17) rfl)
theorem own_w18 {Z : State} {a0 : Array Value} (hw : ∀ d ∈ tables_1, d.before a0 Z = true) : (Jvm.Cond.fieldLink "com/example/iron_log/ironlog/index/IndexFile$Header" (15 : Nat) "com/example/iron_log/ironlog/index/IndexFile$Header" "count" "I").before a0 Z = true := hw _ (List.mem_of_getElem? (i := 18) rfl)
theorem own_w19 {Z : State} {a0 : Array Value} (hw : ∀ d ∈ tables_1, d.before a0 Z = true) : (Jvm.Cond.laysFinal "com/example/iron_log/ironlog/index/IndexFile$Header" "com/example/iron_log/ironlog/index/IndexFile$Header" "count" "I").before a0 Z = true := hw _ (List.mem_of_getElem? (i := 19) rfl)
theorem own_w20 {Z : State} {a0 : Array Value} (hw : ∀ d ∈ tables_1, d.before a0 Z = true) : (Jvm.Cond.fieldLink "com/example/iron_log/ironlog/index/IndexFile$Header" (18 : Nat) "com/example/iron_log/ironlog/index/IndexFile$Header" "beginTime" "J").before a0 Z = true := hw _ (List.mem_of_getElem? (i := 20) rfl)
theorem own_w21 {Z : State} {a0 : Array Value} (hw : ∀ d ∈ tables_1, d.before a0 Z = true) : (Jvm.Cond.laysFinal "com/example/iron_log/ironlog/index/IndexFile$Header" "com/example/iron_log/ironlog/index/IndexFile$Header" "beginTime" "J").before a0 Z = true := hw _ (List.mem_of_getElem? (i := 21) rfl)
theorem own_w22 {Z : State} {a0 : Array Value} (hw : ∀ d ∈ tables_1, d.before a0 Z = true) : (Jvm.Cond.fieldLink "com/example/iron_log/ironlog/index/IndexFile$Header" (22 : Nat) "com/example/iron_log/ironlog/index/IndexFile$Header" "endTime" "J").before a0 Z = true := hw _ (List.mem_of_getElem? (i := 22) rfl)
theorem own_w23 {Z : State} {a0 : Array Value} (hw : ∀ d ∈ tables_1, d.before a0 Z = true) : (Jvm.Cond.laysFinal "com/example/iron_log/ironlog/index/IndexFile$Header" "com/example/iron_log/ironlog/index/IndexFile$Header" "endTime" "J").before a0 Z = true := hw _ (List.mem_of_getElem? (i := 23) rfl)
theorem own_w24 {Z : State} {a0 : Array Value} (hw : ∀ d ∈ tables_1, d.before a0 Z = true) : (Jvm.Cond.fieldLink "com/example/iron_log/ironlog/index/IndexFile$Header" (25 : Nat) "com/example/iron_log/ironlog/index/IndexFile$Header" "beginOffset" "J").before a0 Z = true := hw _ (List.mem_of_getElem? (i := 24) rfl)
theorem own_w25 {Z : State} {a0 : Array Value} (hw : ∀ d ∈ tables_1, d.before a0 Z = true) : (Jvm.Cond.laysFinal "com/example/iron_log/ironlog/index/IndexFile$Header" "com/example/iron_log/ironlog/index/IndexFile$Header" "beginOffset" "J").before a0 Z = true := hw _ (List.mem_of_getElem? (i := 25) rfl)
theorem own_w26 {Z : State} {a0 : Array Value} (hw : ∀ d ∈ tables_1, d.before a0 Z = true) : (Jvm.Cond.fieldLink "com/example/iron_log/ironlog/index/IndexFile$Header" (28 : Nat) "com/example/iron_log/ironlog/index/IndexFile$Header" "endOffset" "J").before a0 Z = true := hw _ (List.mem_of_getElem? (i := 26) rfl)
theorem own_w27 {Z : State} {a0 : Array Value} (hw : ∀ d ∈ tables_1, d.before a0 Z = true) : (Jvm.Cond.laysFinal "com/example/iron_log/ironlog/index/IndexFile$Header" "com/example/iron_log/ironlog/index/IndexFile$Header" "endOffset" "J").before a0 Z = true := hw _ (List.mem_of_getElem? (i := 27) rfl)
theorem own_w28 {Z : State} {a0 : Array Value} (hw : ∀ d ∈ tables_1, d.before a0 Z = true) : (Jvm.Cond.methodLink "com/example/iron_log/ironlog/index/HeaderEqualsPinLaw" (22 : Nat) ({ cls := "com/example/iron_log/ironlog/index/IndexFile$Header", name := "equals", desc := "(Ljava/lang/Object;)Z" } : Jvm.MethodName)).before a0 Z = true := hw _ (List.mem_of_getElem? (i := 28) rfl)
theorem own_w29 {Z : State} {a0 : Array Value} (hw : ∀ d ∈ tables_1, d.before a0 Z = true) : (Jvm.Cond.declares ({ cls := "com/example/iron_log/ironlog/index/IndexFile$Header", name := "equals", desc := "(Ljava/lang/Object;)Z" } : Jvm.MethodName)).before a0 Z = true := hw _ (List.mem_of_getElem? (i := 29) rfl)
theorem own_w30 {Z : State} {a0 : Array Value} (hw : ∀ d ∈ tables_1, d.before a0 Z = true) : (Jvm.Cond.instanceMethod ({ cls := "com/example/iron_log/ironlog/index/IndexFile$Header", name := "equals", desc := "(Ljava/lang/Object;)Z" } : Jvm.MethodName)).before a0 Z = true := hw _ (List.mem_of_getElem? (i := 30) rfl)
theorem own_w31 {Z : State} {a0 : Array Value} (hw : ∀ d ∈ tables_1, d.before a0 Z = true) : (Jvm.Cond.selects "com/example/iron_log/ironlog/index/IndexFile$Header" ({ cls := "com/example/iron_log/ironlog/index/IndexFile$Header", name := "equals", desc := "(Ljava/lang/Object;)Z" } : Jvm.MethodName) ({ cls := "com/example/iron_log/ironlog/index/IndexFile$Header", name := "equals", desc := "(Ljava/lang/Object;)Z" } : Jvm.MethodName)).before a0 Z = true := hw _ (List.mem_of_getElem? (i := 31) rfl)
theorem own_w32 {Z : State} {a0 : Array Value} (hw : ∀ d ∈ tables_1, d.before a0 Z = true) : (Jvm.Cond.code ({ cls := "com/example/iron_log/ironlog/index/IndexFile$Header", name := "equals", desc := "(Ljava/lang/Object;)Z" } : Jvm.MethodName) prog_48_method_3_code (4 : Nat) (Option.some Jvm.ClassFile.FieldType.boolean)).before a0 Z = true := hw _ (List.mem_of_getElem? (i := 32) rfl)
theorem own_w33 {Z : State} {a0 : Array Value} (hw : ∀ d ∈ tables_1, d.before a0 Z = true) : (Jvm.Cond.classLink "com/example/iron_log/ironlog/index/IndexFile$Header" (10 : Nat) "com/example/iron_log/ironlog/index/IndexFile$Header").before a0 Z = true := hw _ (List.mem_of_getElem? (i := 33) rfl)
theorem own_w35 {Z : State} {a0 : Array Value} (hw : ∀ d ∈ tables_1, d.before a0 Z = true) : (Jvm.Cond.methodLink "com/example/iron_log/ironlog/index/HeaderEqualsPinLaw" (26 : Nat) ({ cls := "java/lang/Integer", name := "valueOf", desc := "(I)Ljava/lang/Integer;" } : Jvm.MethodName)).before a0 Z = true := hw _ (List.mem_of_getElem? (i := 35) rfl)
theorem own_w36 {Z : State} {a0 : Array Value} (hw : ∀ d ∈ tables_1, d.before a0 Z = true) : (Jvm.Cond.static ({ cls := "java/lang/Integer", name := "valueOf", desc := "(I)Ljava/lang/Integer;" } : Jvm.MethodName)).before a0 Z = true := hw _ (List.mem_of_getElem? (i := 36) rfl)
theorem own_w37 {Z : State} {a0 : Array Value} (hw : ∀ d ∈ tables_1, d.before a0 Z = true) : (Jvm.Cond.initialized "java/lang/Integer").before a0 Z = true := hw _ (List.mem_of_getElem? (i := 37) rfl)
theorem own_w38 {Z : State} {a0 : Array Value} (hw : ∀ d ∈ tables_1, d.before a0 Z = true) : (Jvm.Cond.code ({ cls := "java/lang/Integer", name := "valueOf", desc := "(I)Ljava/lang/Integer;" } : Jvm.MethodName) jdk_33_method_22_code (1 : Nat) (Option.some (Jvm.ClassFile.FieldType.object "java/lang/Integer"))).before a0 Z = true := hw _ (List.mem_of_getElem? (i := 38) rfl)
theorem own_w39 {Z : State} {a0 : Array Value} (hw : ∀ d ∈ tables_1, d.before a0 Z = true) : (Jvm.Cond.fieldLink "java/lang/Integer" (191 : Nat) "java/lang/Integer$IntegerCache" "high" "I").before a0 Z = true := hw _ (List.mem_of_getElem? (i := 39) rfl)
theorem own_w40 {Z : State} {a0 : Array Value} (hw : ∀ d ∈ tables_1, d.before a0 Z = true) : (Jvm.Cond.initialized "java/lang/Integer$IntegerCache").before a0 Z = true := hw _ (List.mem_of_getElem? (i := 40) rfl)
theorem own_w41 {Z : State} {a0 : Array Value} (hw : ∀ d ∈ tables_1, d.before a0 Z = true) : (Jvm.Cond.fieldLink "java/lang/Integer" (195 : Nat) "java/lang/Integer$IntegerCache" "cache" "[Ljava/lang/Integer;").before a0 Z = true := hw _ (List.mem_of_getElem? (i := 41) rfl)
theorem own_w42 {Z : State} {a0 : Array Value} (hw : ∀ d ∈ tables_1, d.before a0 Z = true) : (Jvm.Cond.superclass "java/lang/Integer" "java/lang/Number").before a0 Z = true := hw _ (List.mem_of_getElem? (i := 42) rfl)
theorem own_w43 {Z : State} {a0 : Array Value} (hw : ∀ d ∈ tables_1, d.before a0 Z = true) : (Jvm.Cond.superclass "java/lang/Number" "java/lang/Object").before a0 Z = true := hw _ (List.mem_of_getElem? (i := 43) rfl)
theorem own_w44 {Z : State} {a0 : Array Value} (hw : ∀ d ∈ tables_1, d.before a0 Z = true) : (Jvm.Cond.noSuperclass "java/lang/Object").before a0 Z = true := hw _ (List.mem_of_getElem? (i := 44) rfl)
theorem own_w45 {Z : State} {a0 : Array Value} (hw : ∀ d ∈ tables_1, d.before a0 Z = true) : (Jvm.Cond.classLink "java/lang/Integer" (1 : Nat) "java/lang/Integer").before a0 Z = true := hw _ (List.mem_of_getElem? (i := 45) rfl)
theorem own_w46 {Z : State} {a0 : Array Value} (hw : ∀ d ∈ tables_1, d.before a0 Z = true) : (Jvm.Cond.instantiable "java/lang/Integer" (1 : Nat)).before a0 Z = true := hw _ (List.mem_of_getElem? (i := 46) rfl)
theorem own_w47 {Z : State} {a0 : Array Value} (hw : ∀ d ∈ tables_1, d.before a0 Z = true) : (Jvm.Cond.methodLink "java/lang/Integer" (199 : Nat) ({ cls := "java/lang/Integer", name := "<init>", desc := "(I)V" } : Jvm.MethodName)).before a0 Z = true := hw _ (List.mem_of_getElem? (i := 47) rfl)
theorem own_w48 {Z : State} {a0 : Array Value} (hw : ∀ d ∈ tables_1, d.before a0 Z = true) : (Jvm.Cond.instanceMethod ({ cls := "java/lang/Integer", name := "<init>", desc := "(I)V" } : Jvm.MethodName)).before a0 Z = true := hw _ (List.mem_of_getElem? (i := 48) rfl)
theorem own_w50 {Z : State} {a0 : Array Value} (hw : ∀ d ∈ tables_1, d.before a0 Z = true) : (Jvm.Cond.code ({ cls := "java/lang/Integer", name := "<init>", desc := "(I)V" } : Jvm.MethodName) jdk_33_method_23_code (2 : Nat) (Option.none : Option Jvm.ClassFile.FieldType)).before a0 Z = true := hw _ (List.mem_of_getElem? (i := 50) rfl)
theorem own_w51 {Z : State} {a0 : Array Value} (hw : ∀ d ∈ tables_1, d.before a0 Z = true) : (Jvm.Cond.methodLink "java/lang/Integer" (202 : Nat) ({ cls := "java/lang/Number", name := "<init>", desc := "()V" } : Jvm.MethodName)).before a0 Z = true := hw _ (List.mem_of_getElem? (i := 51) rfl)
theorem own_w52 {Z : State} {a0 : Array Value} (hw : ∀ d ∈ tables_1, d.before a0 Z = true) : (Jvm.Cond.instanceMethod ({ cls := "java/lang/Number", name := "<init>", desc := "()V" } : Jvm.MethodName)).before a0 Z = true := hw _ (List.mem_of_getElem? (i := 52) rfl)
theorem own_w55 {Z : State} {a0 : Array Value} (hw : ∀ d ∈ tables_1, d.before a0 Z = true) : (Jvm.Cond.initialized "java/lang/Number").before a0 Z = true := hw _ (List.mem_of_getElem? (i := 55) rfl)
theorem own_w56 {Z : State} {a0 : Array Value} (hw : ∀ d ∈ tables_1, d.before a0 Z = true) : (Jvm.Cond.code ({ cls := "java/lang/Number", name := "<init>", desc := "()V" } : Jvm.MethodName) jdk_18_method_1_code (1 : Nat) (Option.none : Option Jvm.ClassFile.FieldType)).before a0 Z = true := hw _ (List.mem_of_getElem? (i := 56) rfl)
theorem own_w57 {Z : State} {a0 : Array Value} (hw : ∀ d ∈ tables_1, d.before a0 Z = true) : (Jvm.Cond.methodLink "java/lang/Number" (1 : Nat) ({ cls := "java/lang/Object", name := "<init>", desc := "()V" } : Jvm.MethodName)).before a0 Z = true := hw _ (List.mem_of_getElem? (i := 57) rfl)
theorem own_w58 {Z : State} {a0 : Array Value} (hw : ∀ d ∈ tables_1, d.before a0 Z = true) : (Jvm.Cond.fieldLink "java/lang/Integer" (205 : Nat) "java/lang/Integer" "value" "I").before a0 Z = true := hw _ (List.mem_of_getElem? (i := 58) rfl)
theorem own_w59 {Z : State} {a0 : Array Value} (hw : ∀ d ∈ tables_1, d.before a0 Z = true) : (Jvm.Cond.laysFinal "java/lang/Integer" "java/lang/Integer" "value" "I").before a0 Z = true := hw _ (List.mem_of_getElem? (i := 59) rfl)
theorem own_d1_0 : decode method_2_code 0 = .ok (.iload_n 0, 1) := by decide +kernel
theorem own_d1_1 : decode method_2_code 1 = .ok (.iload_n 1, 1) := by decide +kernel
theorem own_d1_2 : decode method_2_code 2 = .ok (.iushr, 1) := by decide +kernel
theorem own_d1_3 : decode method_2_code 3 = .ok (.iconst 1, 1) := by decide +kernel
theorem own_d1_4 : decode method_2_code 4 = .ok (.iand, 1) := by decide +kernel
theorem own_d1_5 : decode method_2_code 5 = .ok (.ifCond .ne 7, 3) := by decide +kernel
theorem own_d1_8 : decode method_2_code 8 = .ok (.iload_n 2, 1) := by decide +kernel
theorem own_d1_9 : decode method_2_code 9 = .ok (.goto 4, 3) := by decide +kernel
theorem own_d1_12 : decode method_2_code 12 = .ok (.iload_n 3, 1) := by decide +kernel
theorem own_d1_13 : decode method_2_code 13 = .ok (.ireturn, 1) := by decide +kernel
theorem own_d2_0 : decode method_3_code 0 = .ok (.iload_n 0, 1) := by decide +kernel
theorem own_d2_1 : decode method_3_code 1 = .ok (.iload_n 1, 1) := by decide +kernel
theorem own_d2_2 : decode method_3_code 2 = .ok (.iushr, 1) := by decide +kernel
theorem own_d2_3 : decode method_3_code 3 = .ok (.iconst 3, 1) := by decide +kernel
theorem own_d2_4 : decode method_3_code 4 = .ok (.iand, 1) := by decide +kernel
theorem own_d2_5 : decode method_3_code 5 = .ok (.istore 8, 2) := by decide +kernel
theorem own_d2_7 : decode method_3_code 7 = .ok (.iload 8, 2) := by decide +kernel
theorem own_d2_9 : decode method_3_code 9 = .ok (.ifCond .ne 5, 3) := by decide +kernel
theorem own_d2_12 : decode method_3_code 12 = .ok (.lload_n 2, 1) := by decide +kernel
theorem own_d2_13 : decode method_3_code 13 = .ok (.lreturn, 1) := by decide +kernel
theorem own_d2_14 : decode method_3_code 14 = .ok (.iload 8, 2) := by decide +kernel
theorem own_d2_16 : decode method_3_code 16 = .ok (.iconst 1, 1) := by decide +kernel
theorem own_d2_17 : decode method_3_code 17 = .ok (.if_icmp .ne 6, 3) := by decide +kernel
theorem own_d2_20 : decode method_3_code 20 = .ok (.lload 4, 2) := by decide +kernel
theorem own_d2_22 : decode method_3_code 22 = .ok (.lreturn, 1) := by decide +kernel
theorem own_d2_23 : decode method_3_code 23 = .ok (.lload 6, 2) := by decide +kernel
theorem own_d2_25 : decode method_3_code 25 = .ok (.lreturn, 1) := by decide +kernel
theorem own_d3_0 : decode prog_48_method_1_code 0 = .ok (.aload_n 0, 1) := by decide +kernel
theorem own_d3_1 : decode prog_48_method_1_code 1 = .ok (.invokespecial 3, 3) := by decide +kernel
theorem own_d3_4 : decode prog_48_method_1_code 4 = .ok (.aload_n 0, 1) := by decide +kernel
theorem own_d3_5 : decode prog_48_method_1_code 5 = .ok (.iload_n 1, 1) := by decide +kernel
theorem own_d3_6 : decode prog_48_method_1_code 6 = .ok (.putfield 9, 3) := by decide +kernel
theorem own_d3_9 : decode prog_48_method_1_code 9 = .ok (.aload_n 0, 1) := by decide +kernel
theorem own_d3_10 : decode prog_48_method_1_code 10 = .ok (.iload_n 2, 1) := by decide +kernel
theorem own_d3_11 : decode prog_48_method_1_code 11 = .ok (.putfield 15, 3) := by decide +kernel
theorem own_d3_14 : decode prog_48_method_1_code 14 = .ok (.aload_n 0, 1) := by decide +kernel
theorem own_d3_15 : decode prog_48_method_1_code 15 = .ok (.lload_n 3, 1) := by decide +kernel
theorem own_d3_16 : decode prog_48_method_1_code 16 = .ok (.putfield 18, 3) := by decide +kernel
theorem own_d3_19 : decode prog_48_method_1_code 19 = .ok (.aload_n 0, 1) := by decide +kernel
theorem own_d3_20 : decode prog_48_method_1_code 20 = .ok (.lload 5, 2) := by decide +kernel
theorem own_d3_22 : decode prog_48_method_1_code 22 = .ok (.putfield 22, 3) := by decide +kernel
theorem own_d3_25 : decode prog_48_method_1_code 25 = .ok (.aload_n 0, 1) := by decide +kernel
theorem own_d3_26 : decode prog_48_method_1_code 26 = .ok (.lload 7, 2) := by decide +kernel
theorem own_d3_28 : decode prog_48_method_1_code 28 = .ok (.putfield 25, 3) := by decide +kernel
theorem own_d3_31 : decode prog_48_method_1_code 31 = .ok (.aload_n 0, 1) := by decide +kernel
theorem own_d3_32 : decode prog_48_method_1_code 32 = .ok (.lload 9, 2) := by decide +kernel
theorem own_d3_34 : decode prog_48_method_1_code 34 = .ok (.putfield 28, 3) := by decide +kernel
theorem own_d3_37 : decode prog_48_method_1_code 37 = .ok (.return_, 1) := by decide +kernel
theorem own_d5_0 : decode prog_48_method_3_code 0 = .ok (.aload_n 1, 1) := by decide +kernel
theorem own_d5_1 : decode prog_48_method_3_code 1 = .ok (.aload_n 0, 1) := by decide +kernel
theorem own_d5_2 : decode prog_48_method_3_code 2 = .ok (.if_acmp .ne 7, 3) := by decide +kernel
theorem own_d5_5 : decode prog_48_method_3_code 5 = .ok (.iconst 1, 1) := by decide +kernel
theorem own_d5_6 : decode prog_48_method_3_code 6 = .ok (.goto 4, 3) := by decide +kernel
theorem own_d5_9 : decode prog_48_method_3_code 9 = .ok (.iconst 0, 1) := by decide +kernel
theorem own_d5_10 : decode prog_48_method_3_code 10 = .ok (.istore_n 2, 1) := by decide +kernel
theorem own_d5_11 : decode prog_48_method_3_code 11 = .ok (.iload_n 2, 1) := by decide +kernel
theorem own_d5_12 : decode prog_48_method_3_code 12 = .ok (.ifCond .ne 91, 3) := by decide +kernel
theorem own_d5_15 : decode prog_48_method_3_code 15 = .ok (.aload_n 1, 1) := by decide +kernel
theorem own_d5_16 : decode prog_48_method_3_code 16 = .ok (.instanceof 10, 3) := by decide +kernel
theorem own_d5_19 : decode prog_48_method_3_code 19 = .ok (.ifCond .eq 84, 3) := by decide +kernel
theorem own_d5_22 : decode prog_48_method_3_code 22 = .ok (.aload_n 1, 1) := by decide +kernel
theorem own_d5_23 : decode prog_48_method_3_code 23 = .ok (.checkcast 10, 3) := by decide +kernel
theorem own_d5_26 : decode prog_48_method_3_code 26 = .ok (.astore_n 3, 1) := by decide +kernel
theorem own_d5_27 : decode prog_48_method_3_code 27 = .ok (.aload_n 0, 1) := by decide +kernel
theorem own_d5_28 : decode prog_48_method_3_code 28 = .ok (.getfield 9, 3) := by decide +kernel
theorem own_d5_31 : decode prog_48_method_3_code 31 = .ok (.aload_n 3, 1) := by decide +kernel
theorem own_d5_32 : decode prog_48_method_3_code 32 = .ok (.getfield 9, 3) := by decide +kernel
theorem own_d5_35 : decode prog_48_method_3_code 35 = .ok (.if_icmp .ne 66, 3) := by decide +kernel
theorem own_d5_38 : decode prog_48_method_3_code 38 = .ok (.aload_n 0, 1) := by decide +kernel
theorem own_d5_39 : decode prog_48_method_3_code 39 = .ok (.getfield 15, 3) := by decide +kernel
theorem own_d5_42 : decode prog_48_method_3_code 42 = .ok (.aload_n 3, 1) := by decide +kernel
theorem own_d5_43 : decode prog_48_method_3_code 43 = .ok (.getfield 15, 3) := by decide +kernel
theorem own_d5_46 : decode prog_48_method_3_code 46 = .ok (.if_icmp .ne 55, 3) := by decide +kernel
theorem own_d5_49 : decode prog_48_method_3_code 49 = .ok (.aload_n 0, 1) := by decide +kernel
theorem own_d5_50 : decode prog_48_method_3_code 50 = .ok (.getfield 18, 3) := by decide +kernel
theorem own_d5_53 : decode prog_48_method_3_code 53 = .ok (.aload_n 3, 1) := by decide +kernel
theorem own_d5_54 : decode prog_48_method_3_code 54 = .ok (.getfield 18, 3) := by decide +kernel
theorem own_d5_57 : decode prog_48_method_3_code 57 = .ok (.lcmp, 1) := by decide +kernel
theorem own_d5_58 : decode prog_48_method_3_code 58 = .ok (.ifCond .ne 43, 3) := by decide +kernel
theorem own_d5_61 : decode prog_48_method_3_code 61 = .ok (.aload_n 0, 1) := by decide +kernel
theorem own_d5_62 : decode prog_48_method_3_code 62 = .ok (.getfield 22, 3) := by decide +kernel
theorem own_d5_65 : decode prog_48_method_3_code 65 = .ok (.aload_n 3, 1) := by decide +kernel
theorem own_d5_66 : decode prog_48_method_3_code 66 = .ok (.getfield 22, 3) := by decide +kernel
theorem own_d5_69 : decode prog_48_method_3_code 69 = .ok (.lcmp, 1) := by decide +kernel
theorem own_d5_70 : decode prog_48_method_3_code 70 = .ok (.ifCond .ne 31, 3) := by decide +kernel
theorem own_d5_73 : decode prog_48_method_3_code 73 = .ok (.aload_n 0, 1) := by decide +kernel
theorem own_d5_74 : decode prog_48_method_3_code 74 = .ok (.getfield 25, 3) := by decide +kernel
theorem own_d5_77 : decode prog_48_method_3_code 77 = .ok (.aload_n 3, 1) := by decide +kernel
theorem own_d5_78 : decode prog_48_method_3_code 78 = .ok (.getfield 25, 3) := by decide +kernel
theorem own_d5_81 : decode prog_48_method_3_code 81 = .ok (.lcmp, 1) := by decide +kernel
theorem own_d5_82 : decode prog_48_method_3_code 82 = .ok (.ifCond .ne 19, 3) := by decide +kernel
theorem own_d5_85 : decode prog_48_method_3_code 85 = .ok (.aload_n 0, 1) := by decide +kernel
theorem own_d5_86 : decode prog_48_method_3_code 86 = .ok (.getfield 28, 3) := by decide +kernel
theorem own_d5_89 : decode prog_48_method_3_code 89 = .ok (.aload_n 3, 1) := by decide +kernel
theorem own_d5_90 : decode prog_48_method_3_code 90 = .ok (.getfield 28, 3) := by decide +kernel
theorem own_d5_93 : decode prog_48_method_3_code 93 = .ok (.lcmp, 1) := by decide +kernel
theorem own_d5_94 : decode prog_48_method_3_code 94 = .ok (.ifCond .ne 7, 3) := by decide +kernel
theorem own_d5_97 : decode prog_48_method_3_code 97 = .ok (.iconst 1, 1) := by decide +kernel
theorem own_d5_98 : decode prog_48_method_3_code 98 = .ok (.goto 4, 3) := by decide +kernel
theorem own_d5_101 : decode prog_48_method_3_code 101 = .ok (.iconst 0, 1) := by decide +kernel
theorem own_d5_102 : decode prog_48_method_3_code 102 = .ok (.istore_n 2, 1) := by decide +kernel
theorem own_d5_103 : decode prog_48_method_3_code 103 = .ok (.iload_n 2, 1) := by decide +kernel
theorem own_d5_104 : decode prog_48_method_3_code 104 = .ok (.ireturn, 1) := by decide +kernel
theorem own_d6_0 : decode jdk_33_method_22_code 0 = .ok (.iload_n 0, 1) := by decide +kernel
theorem own_d6_1 : decode jdk_33_method_22_code 1 = .ok (.bipush (-128), 2) := by decide +kernel
theorem own_d6_3 : decode jdk_33_method_22_code 3 = .ok (.if_icmp .lt 20, 3) := by decide +kernel
theorem own_d6_6 : decode jdk_33_method_22_code 6 = .ok (.iload_n 0, 1) := by decide +kernel
theorem own_d6_7 : decode jdk_33_method_22_code 7 = .ok (.getstatic 191, 3) := by decide +kernel
theorem own_d6_10 : decode jdk_33_method_22_code 10 = .ok (.if_icmp .gt 13, 3) := by decide +kernel
theorem own_d6_13 : decode jdk_33_method_22_code 13 = .ok (.getstatic 195, 3) := by decide +kernel
theorem own_d6_16 : decode jdk_33_method_22_code 16 = .ok (.iload_n 0, 1) := by decide +kernel
theorem own_d6_17 : decode jdk_33_method_22_code 17 = .ok (.sipush 128, 3) := by decide +kernel
theorem own_d6_20 : decode jdk_33_method_22_code 20 = .ok (.iadd, 1) := by decide +kernel
theorem own_d6_21 : decode jdk_33_method_22_code 21 = .ok (.aaload, 1) := by decide +kernel
theorem own_d6_22 : decode jdk_33_method_22_code 22 = .ok (.areturn, 1) := by decide +kernel
theorem own_d6_23 : decode jdk_33_method_22_code 23 = .ok (.new 1, 3) := by decide +kernel
theorem own_d6_26 : decode jdk_33_method_22_code 26 = .ok (.dup, 1) := by decide +kernel
theorem own_d6_27 : decode jdk_33_method_22_code 27 = .ok (.iload_n 0, 1) := by decide +kernel
theorem own_d6_28 : decode jdk_33_method_22_code 28 = .ok (.invokespecial 199, 3) := by decide +kernel
theorem own_d6_31 : decode jdk_33_method_22_code 31 = .ok (.areturn, 1) := by decide +kernel
theorem own_d7_0 : decode jdk_33_method_23_code 0 = .ok (.aload_n 0, 1) := by decide +kernel
theorem own_d7_1 : decode jdk_33_method_23_code 1 = .ok (.invokespecial 202, 3) := by decide +kernel
theorem own_d7_4 : decode jdk_33_method_23_code 4 = .ok (.aload_n 0, 1) := by decide +kernel
theorem own_d7_5 : decode jdk_33_method_23_code 5 = .ok (.iload_n 1, 1) := by decide +kernel
theorem own_d7_6 : decode jdk_33_method_23_code 6 = .ok (.putfield 205, 3) := by decide +kernel
theorem own_d7_9 : decode jdk_33_method_23_code 9 = .ok (.return_, 1) := by decide +kernel
theorem own_d8_0 : decode jdk_18_method_1_code 0 = .ok (.aload_n 0, 1) := by decide +kernel
theorem own_d8_1 : decode jdk_18_method_1_code 1 = .ok (.invokespecial 1, 3) := by decide +kernel
theorem own_d8_4 : decode jdk_18_method_1_code 4 = .ok (.return_, 1) := by decide +kernel
theorem own_pd0 : parseMethodDescriptor "()V" = some ⟨[], none⟩ := by decide +kernel
theorem own_pd1 : parseMethodDescriptor "(I)V" = some ⟨[.int], none⟩ := by decide +kernel
theorem own_pd2 : parseMethodDescriptor "(IIII)I" = some ⟨[.int, .int, .int, .int], some .int⟩ := by decide +kernel
theorem own_pd3 : parseMethodDescriptor "(IIJJJ)J" = some ⟨[.int, .int, .long, .long, .long], some .long⟩ := by decide +kernel
theorem own_pd4 : parseMethodDescriptor "(IIJJJJ)V" = some ⟨[.int, .int, .long, .long, .long, .long], none⟩ := by decide +kernel
theorem own_pd5 : parseMethodDescriptor "(Ljava/lang/Object;)Z" = some ⟨[(.object "java/lang/Object")], some .boolean⟩ := by decide +kernel
theorem own_pd6 : parseMethodDescriptor "(I)Ljava/lang/Integer;" = some ⟨[.int], some (.object "java/lang/Integer")⟩ := by decide +kernel
theorem own_pn0 : plainName "com/example/iron_log/ironlog/index/HeaderEqualsPinLaw" = true := by first | (simp [plainName, overriddenIn]; done) | decide +kernel
theorem own_pn1 : plainName "com/example/iron_log/ironlog/index/IndexFile$Header" = true := by first | (simp [plainName, overriddenIn]; done) | decide +kernel
theorem own_pn2 : plainName "java/lang/Number" = true := by first | (simp [plainName, overriddenIn]; done) | decide +kernel
theorem own_pn3 : plainName "java/lang/Integer" = true := by first | (simp [plainName, overriddenIn]; done) | decide +kernel
def own_pi (q k a b : Int32) : Int32 := if ((q.toUInt32 >>> (k &&& 31).toUInt32).toInt32 &&& (1 : Int32)) = (0 : Int32) then a else b
def own_pl (q k : Int32) (a b c : Int64) : Int64 := if ((q.toUInt32 >>> (k &&& 31).toUInt32).toInt32 &&& (3 : Int32)) = (0 : Int32) then a else if ((q.toUInt32 >>> (k &&& 31).toUInt32).toInt32 &&& (3 : Int32)) = (1 : Int32) then b else c
def own_hd (u0 : Int32) (u1 : Int32) (u2 : Int64) (u3 : Int64) (u4 : Int64) (u5 : Int64) (v0 : Int32) (v1 : Int32) (v2 : Int64) (v3 : Int64) (v4 : Int64) (v5 : Int64) : Int32 := if u0 = v0 then if u1 = v1 then if u2 = v2 then if u3 = v3 then if u4 = v4 then if u5 = v5 then 1 else 0 else 0 else 0 else 0 else 0 else 0
theorem own_hd_symm (u0 : Int32) (u1 : Int32) (u2 : Int64) (u3 : Int64) (u4 : Int64) (u5 : Int64) (v0 : Int32) (v1 : Int32) (v2 : Int64) (v3 : Int64) (v4 : Int64) (v5 : Int64) : own_hd v0 v1 v2 v3 v4 v5 u0 u1 u2 u3 u4 u5 = own_hd u0 u1 u2 u3 u4 u5 v0 v1 v2 v3 v4 v5 := by
  simp only [own_hd, @eq_comm _ v0 u0, @eq_comm _ v1 u1, @eq_comm _ v2 u2, @eq_comm _ v3 u3, @eq_comm _ v4 u4, @eq_comm _ v5 u5]
theorem own_NSroot {Z : State} {a0 : Array Value} {O K : String} {n : Nat} (w : (Cond.noSuperclass O).before a0 Z = true) (wk : (Cond.instantiable K n).before a0 Z = true) (hn : O ≠ K) : NS Z O K := by
  obtain ⟨c, k, h1, h2, h3, -, -⟩ := Cond.noSuperclass_spec w
  obtain ⟨t, k', g1, -⟩ := Cond.instantiable_spec wk
  have ne := ids_ne h1 g1 hn
  refine ⟨c, t, h1, g1, fun fuel => ?_⟩
  cases fuel with
  | zero => rfl
  | succ f => simp [Vm.isSubclassAux, ne, h2, h3]
theorem own_NSno {Z : State} {a0 : Array Value} {C S K : String} {n : Nat} (w : (Cond.superclass C S).before a0 Z = true) (wk : (Cond.instantiable K n).before a0 Z = true) (nn : NS Z C K) (hn : C ≠ K) : ∃ c t, Z.vm.findClass C = some c ∧ Z.vm.findClass K = some t ∧ Z.vm.assignable c t = false := by
  obtain ⟨c, t, h0, g0, n3⟩ := nn
  obtain ⟨p, k, kp, h1, h2, h3, h4, h5, -, h7⟩ := Cond.superclass_spec h0 w
  obtain ⟨t', k', g1, g2, g5, g7, -⟩ := Cond.instantiable_spec wk
  cases g0.symm.trans g1
  have ne := ids_ne h0 g0 hn
  have g8 : k'.isInterface = false := (Bool.or_eq_false_iff.mp g7).1
  refine ⟨c, t, h0, g0, ?_⟩
  show Z.vm.assignableAux (255 + 1) c t = false
  simp [Vm.assignableAux, ne, h2, g2, h5, g5, g8, Vm.isSubclass, n3]
def own_Ca (Z : State) (C CC AD : String) (arr : Addr) (f : Nat → Value) : Prop := Sta Z Z.heap CC "cache" AD (.ref arr) ∧ own_Ar Z Z.heap arr (.object C) 256 f ∧ ∀ j, j < 256 → ∃ box, f j = .ref box ∧ Exa Z Z.heap box C
theorem own_cache {args : Array Value} {s : State} {C CC AD : String} {body : Jvm.Cond} (h1 : (Cond.initializedFor CC "cache" AD).before args s = true ∨ ((Cond.initialized CC).before args s = true ∧ (Cond.laysStatic CC "cache" AD).before args s = true)) (h2 : (Cond.arrayOf (.static CC "cache" AD) (.object C)).before args s = true) (h4 : (Cond.eq (.length (.static CC "cache" AD)) (.int 256)).before args s = true) (h5 : (Cond.all (.static CC "cache" AD) (.and (.exactly (.elem (.static CC "cache" AD) (.index 0)) C) body)).before args s = true) : ∃ arr f, own_Ca s C CC AD arr f := by
  have h2' := Cond.before_iff.mp h2
  obtain ⟨a, ev⟩ := arr_v h2'
  obtain ⟨c, A⟩ := Arr.start ev h2'
  obtain ⟨q1, q2⟩ := IntBox.length_fwd h4 ev A.1 A.2.1 A.2.2
  have hsz : c.slots.size = 256 := by
    have e1 := len_toInt q1; rw [q2] at e1
    have e2 : (256 : Int32).toInt = 256 := by decide
    omega
  have hat := IntBox.arrayAt_of A.1 A.2.1 A.2.2
  have hall := Cond.all_elim ev hat (Cond.before_iff.mp h5)
  refine ⟨a, fun j => (c.slots[j]?).getD .null, Sta.start ev h1, ⟨c, A, hsz, by decide, fun j hj => ?_⟩, fun j hj => ?_⟩
  · show c.slots[j]? = some ((c.slots[j]?).getD .null)
    rw [Array.getElem?_eq_getElem (by rw [hsz]; exact hj)]; rfl
  · obtain ⟨hex, -⟩ := and_e (hall j (by rw [hsz]; exact hj))
    have evj : (Term.static CC "cache" AD).eval args s none [j] s = some (.ref a) := ev
    obtain ⟨hnn, hback⟩ := IntBox.place_nonneg j hj
    have evalE : (Term.elem (.static CC "cache" AD) (.index 0)).eval args s none [j] s = c.slots[j]? := by
      have e1 : (Term.index 0).eval args s none [j] s = some (.int j.toInt32) := Term.index_eval _
      rw [elem_f evj e1 hat hnn, hback]
    obtain ⟨box, eb⟩ := exa_v hex
    refine ⟨box, ?_, exa_at eb hex⟩
    show (c.slots[j]?).getD .null = .ref box
    rw [← evalE, eb]; rfl
theorem own_cidxI {x : Int32} (h1 : ¬ x < (-128 : Int32)) (h2 : ¬ (127 : Int32) < x) : (x + (128 : Int32)).toInt = (((x.toInt + 128).toNat : Nat) : Int) ∧ (x.toInt + 128).toNat < 256 := by
  have q := c_iadd x (128 : Int32); have r := rng32 (x + (128 : Int32))
  have e1 : (-128 : Int32).toInt = -128 := by decide
  have e2 : (127 : Int32).toInt = 127 := by decide
  have e3 : (128 : Int32).toInt = 128 := by decide
  rw [Int32.lt_iff_toInt_lt] at h1 h2; rw [e1] at h1; rw [e2] at h2; rw [e3] at q; omega
theorem own_cidxJ {x : Int64} (h1 : ¬ x < (-128 : Int64)) (h2 : ¬ (127 : Int64) < x) : ((x.toInt32) + (128 : Int32)).toInt = (((x.toInt + 128).toNat : Nat) : Int) ∧ (x.toInt + 128).toNat < 256 := by
  have q := c_iadd x.toInt32 (128 : Int32); have r := rng32 (x.toInt32 + (128 : Int32)); have r2 := rng32 x.toInt32; have q2 := c_l2i x
  have e1 : (-128 : Int64).toInt = -128 := by decide
  have e2 : (127 : Int64).toInt = 127 := by decide
  have e3 : (128 : Int32).toInt = 128 := by decide
  rw [Int64.lt_iff_toInt_lt] at h1 h2; rw [e1] at h1; rw [e2] at h2; rw [e3] at q; omega
theorem own_high {args : Array Value} {s : State} {CC : String} {k : Int32} (h : (Cond.eq (.static CC "high" "I") (.int k)).before args s = true) (hi : (Cond.initializedFor CC "high" "I").before args s = true ∨ ((Cond.initialized CC).before args s = true ∧ (Cond.laysStatic CC "high" "I").before args s = true)) : Sta s s.heap CC "high" "I" (.int k) := by
  have h' := Cond.before_iff.mp h
  obtain ⟨x, y, e1, e2, k1, k2⟩ := cmp_v (Or.inl h')
  cases (show some (Value.int k) = some y from e2)
  obtain ⟨z, rfl⟩ := k2
  have q : z = k := by simp only [Cond.value] at h'; rw [e1, e2] at h'; simpa using h'
  subst q
  exact Sta.start e1 hi
theorem own_nes {α : Type} {x y : α} (h : ¬ x = y) : ¬ y = x := fun q => h q.symm

def own_rm1_Q (Z : State) (x0 : Int32) (x1 : Int32) (x2 : Int32) (x3 : Int32)  (h0 : Heap) (n0 : Nat) : Option Value → Heap → List Loc → Prop := fun v h L => v = some (Value.int (own_pi x0 x1 x2 x3)) ∧ h = h0 ∧ Fr n0 L
theorem own_rm1_ef (m : MethodId) (x0 : Int32) (x1 : Int32) (x2 : Int32) (x3 : Int32)  : entryFrame m #[(Value.int x0), (Value.int x1), (Value.int x2), (Value.int x3)] 4 = mkF m 0 #[.val (Value.int x0), .val (Value.int x1), .val (Value.int x2), .val (Value.int x3)] [] := by first | (simp [entryFrame, mkF, argsToLocals, Value.category]; done) | rfl
set_option maxRecDepth 65536 in
set_option maxHeartbeats 40000000 in
theorem own_rm1 (l : Launch) (Z : State) (a0 : Array Value) (hw : ∀ d ∈ tables_1, d.before a0 Z = true) (ws : List Jvm.Cond) (x0 : Int32) (x1 : Int32) (x2 : Int32) (x3 : Int32)  (h0 : Heap) (n0 : Nat) (O0 : Old Z n0 h0)  :
    MetFree l (⟨"com/example/iron_log/ironlog/index/HeaderEqualsPinLaw", "pickInt", "(IIII)I"⟩ : MethodName) (head1 (Jvm.Cond.code (⟨"com/example/iron_log/ironlog/index/HeaderEqualsPinLaw", "pickInt", "(IIII)I"⟩ : MethodName) method_2_code 4 (some .int) :: ws) ({ frames := 0, cells := 0, slots := 0, locals := 0 } : Room)) (fun aa_ U => aa_ = #[(Value.int x0), (Value.int x1), (Value.int x2), (Value.int x3)] ∧ Z.Warmed39 U.vm ∧ U.heap = h0) (fun _ _ _ _ _ => True) (fun _ UU_ oo_ UX_ => ∃ vv_ LL_, oo_ = .returned vv_ ∧ (own_rm1_Q Z x0 x1 x2 x3 h0 n0) vv_ UX_.heap LL_ ∧ FrameEnd UU_ oo_ UX_ LL_ ({ frames := 0, cells := 0, slots := 0, locals := 0 } : Room).cells ({ frames := 0, cells := 0, slots := 0, locals := 0 } : Room).slots) := by
  refine MetFree.of_bodySF (plainFor_of_name own_pn0) hisR ?_
  intro p e s m args below meth c s₁ Bd hml0 hP hK
  obtain ⟨rfl, hZ, hh⟩ := hP
  have hx := Bd.exec
  have hby := Bd.bytes
  have hml : c.maxLocals = 4 := hml0
  have hown : s.vm.findClass "com/example/iron_log/ironlog/index/HeaderEqualsPinLaw" = some m.cls := findClass_of_methodNamed Bd.named
  have hnm := (name_of_methodNamed Bd.named Bd.method).1
  have hlk : meth.locks = false := BodyLoose.notSynchronized Bd
  have X0 : Stand p l e ({ frames := 0, cells := 0, slots := 0, locals := 0 } : Room) s m #[(Value.int x0), (Value.int x1), (Value.int x2), (Value.int x3)] below meth c s₁ [] 0 0 := Stand.of_body Bd
  have e0 : s₁.heap = h0 := by rw [← hh, Bd.state]; rfl
  have N0 := Fr.nil n0
  show own_G p e below s (own_rm1_Q Z x0 x1 x2 x3 h0 n0) ({ frames := 0, cells := 0, slots := 0, locals := 0 } : Room).cells ({ frames := 0, cells := 0, slots := 0, locals := 0 } : Room).slots (s₁.setTop (entryFrame m #[(Value.int x0), (Value.int x1), (Value.int x2), (Value.int x3)] 4))
  refine own_cast (own_rm1_ef m x0 x1 x2 x3 ) ?_
  show own_G p e below s _ _ _ (s₁.setTop (mkF m 0 #[.val (Value.int x0), .val (Value.int x1), .val (Value.int x2), .val (Value.int x3)] []))
  refine own_iloadN X0 hx hby own_d1_0 rfl ?_
  show own_G p e below s _ _ _ (s₁.setTop (mkF m 1 #[.val (Value.int x0), .val (Value.int x1), .val (Value.int x2), .val (Value.int x3)] [(Value.int x0)]))
  refine own_iloadN X0 hx hby own_d1_1 rfl ?_
  show own_G p e below s _ _ _ (s₁.setTop (mkF m 2 #[.val (Value.int x0), .val (Value.int x1), .val (Value.int x2), .val (Value.int x3)] [(Value.int x1), (Value.int x0)]))
  refine own_iushr X0 hx hby own_d1_2 ?_
  show own_G p e below s _ _ _ (s₁.setTop (mkF m 3 #[.val (Value.int x0), .val (Value.int x1), .val (Value.int x2), .val (Value.int x3)] [(Value.int ((x0.toUInt32 >>> (x1 &&& 31).toUInt32).toInt32))]))
  refine own_iconst X0 hx hby own_d1_3 ?_
  show own_G p e below s _ _ _ (s₁.setTop (mkF m 4 #[.val (Value.int x0), .val (Value.int x1), .val (Value.int x2), .val (Value.int x3)] [(Value.int (1 : Int32)), (Value.int ((x0.toUInt32 >>> (x1 &&& 31).toUInt32).toInt32))]))
  refine own_iand X0 hx hby own_d1_4 ?_
  show own_G p e below s _ _ _ (s₁.setTop (mkF m 5 #[.val (Value.int x0), .val (Value.int x1), .val (Value.int x2), .val (Value.int x3)] [(Value.int (((x0.toUInt32 >>> (x1 &&& 31).toUInt32).toInt32) &&& (1 : Int32)))]))
  refine own_if_ne X0 hx hby own_d1_5 (pc' := 12) (by decide) (by decide) (fun hb1 => ?_) (fun hb1 => ?_)
  · show own_G p e below s _ _ _ (s₁.setTop (mkF m 12 #[.val (Value.int x0), .val (Value.int x1), .val (Value.int x2), .val (Value.int x3)] []))
    refine own_iloadN X0 hx hby own_d1_12 rfl ?_
    show own_G p e below s _ _ _ (s₁.setTop (mkF m 13 #[.val (Value.int x0), .val (Value.int x1), .val (Value.int x2), .val (Value.int x3)] [(Value.int x3)]))
    refine own_retI X0 hx hby hlk Bd.returns own_d1_13 (by decide) (by decide) ?_
    refine ⟨?_, e0, N0⟩
    show some (Value.int x3) = _
    simp only [own_pi, if_neg hb1]
  · show own_G p e below s _ _ _ (s₁.setTop (mkF m 8 #[.val (Value.int x0), .val (Value.int x1), .val (Value.int x2), .val (Value.int x3)] []))
    refine own_iloadN X0 hx hby own_d1_8 rfl ?_
    show own_G p e below s _ _ _ (s₁.setTop (mkF m 9 #[.val (Value.int x0), .val (Value.int x1), .val (Value.int x2), .val (Value.int x3)] [(Value.int x2)]))
    refine own_goto X0 hx hby own_d1_9 (pc' := 13) (by decide) (by decide) ?_
    show own_G p e below s _ _ _ (s₁.setTop (mkF m 13 #[.val (Value.int x0), .val (Value.int x1), .val (Value.int x2), .val (Value.int x3)] [(Value.int x2)]))
    refine own_retI X0 hx hby hlk Bd.returns own_d1_13 (by decide) (by decide) ?_
    refine ⟨?_, e0, N0⟩
    show some (Value.int x2) = _
    simp only [own_pi, if_pos hb1]
def own_rm2_Q (Z : State) (x0 : Int32) (x1 : Int32) (x2 : Int64) (x3 : Int64) (x4 : Int64)  (h0 : Heap) (n0 : Nat) : Option Value → Heap → List Loc → Prop := fun v h L => v = some (Value.long (own_pl x0 x1 x2 x3 x4)) ∧ h = h0 ∧ Fr n0 L
theorem own_rm2_ef (m : MethodId) (x0 : Int32) (x1 : Int32) (x2 : Int64) (x3 : Int64) (x4 : Int64)  : entryFrame m #[(Value.int x0), (Value.int x1), (Value.long x2), (Value.long x3), (Value.long x4)] 9 = mkF m 0 #[.val (Value.int x0), .val (Value.int x1), .val (Value.long x2), .second, .val (Value.long x3), .second, .val (Value.long x4), .second, .unset] [] := by first | (simp [entryFrame, mkF, argsToLocals, Value.category]; done) | rfl
set_option maxRecDepth 65536 in
set_option maxHeartbeats 40000000 in
theorem own_rm2 (l : Launch) (Z : State) (a0 : Array Value) (hw : ∀ d ∈ tables_1, d.before a0 Z = true) (ws : List Jvm.Cond) (x0 : Int32) (x1 : Int32) (x2 : Int64) (x3 : Int64) (x4 : Int64)  (h0 : Heap) (n0 : Nat) (O0 : Old Z n0 h0)  :
    MetFree l (⟨"com/example/iron_log/ironlog/index/HeaderEqualsPinLaw", "pickLong", "(IIJJJ)J"⟩ : MethodName) (head1 (Jvm.Cond.code (⟨"com/example/iron_log/ironlog/index/HeaderEqualsPinLaw", "pickLong", "(IIJJJ)J"⟩ : MethodName) method_3_code 9 (some .long) :: ws) ({ frames := 0, cells := 0, slots := 0, locals := 0 } : Room)) (fun aa_ U => aa_ = #[(Value.int x0), (Value.int x1), (Value.long x2), (Value.long x3), (Value.long x4)] ∧ Z.Warmed39 U.vm ∧ U.heap = h0) (fun _ _ _ _ _ => True) (fun _ UU_ oo_ UX_ => ∃ vv_ LL_, oo_ = .returned vv_ ∧ (own_rm2_Q Z x0 x1 x2 x3 x4 h0 n0) vv_ UX_.heap LL_ ∧ FrameEnd UU_ oo_ UX_ LL_ ({ frames := 0, cells := 0, slots := 0, locals := 0 } : Room).cells ({ frames := 0, cells := 0, slots := 0, locals := 0 } : Room).slots) := by
  refine MetFree.of_bodySF (plainFor_of_name own_pn0) hisR ?_
  intro p e s m args below meth c s₁ Bd hml0 hP hK
  obtain ⟨rfl, hZ, hh⟩ := hP
  have hx := Bd.exec
  have hby := Bd.bytes
  have hml : c.maxLocals = 9 := hml0
  have hown : s.vm.findClass "com/example/iron_log/ironlog/index/HeaderEqualsPinLaw" = some m.cls := findClass_of_methodNamed Bd.named
  have hnm := (name_of_methodNamed Bd.named Bd.method).1
  have hlk : meth.locks = false := BodyLoose.notSynchronized Bd
  have X0 : Stand p l e ({ frames := 0, cells := 0, slots := 0, locals := 0 } : Room) s m #[(Value.int x0), (Value.int x1), (Value.long x2), (Value.long x3), (Value.long x4)] below meth c s₁ [] 0 0 := Stand.of_body Bd
  have e0 : s₁.heap = h0 := by rw [← hh, Bd.state]; rfl
  have N0 := Fr.nil n0
  show own_G p e below s (own_rm2_Q Z x0 x1 x2 x3 x4 h0 n0) ({ frames := 0, cells := 0, slots := 0, locals := 0 } : Room).cells ({ frames := 0, cells := 0, slots := 0, locals := 0 } : Room).slots (s₁.setTop (entryFrame m #[(Value.int x0), (Value.int x1), (Value.long x2), (Value.long x3), (Value.long x4)] 9))
  refine own_cast (own_rm2_ef m x0 x1 x2 x3 x4 ) ?_
  show own_G p e below s _ _ _ (s₁.setTop (mkF m 0 #[.val (Value.int x0), .val (Value.int x1), .val (Value.long x2), .second, .val (Value.long x3), .second, .val (Value.long x4), .second, .unset] []))
  refine own_iloadN X0 hx hby own_d2_0 rfl ?_
  show own_G p e below s _ _ _ (s₁.setTop (mkF m 1 #[.val (Value.int x0), .val (Value.int x1), .val (Value.long x2), .second, .val (Value.long x3), .second, .val (Value.long x4), .second, .unset] [(Value.int x0)]))
  refine own_iloadN X0 hx hby own_d2_1 rfl ?_
  show own_G p e below s _ _ _ (s₁.setTop (mkF m 2 #[.val (Value.int x0), .val (Value.int x1), .val (Value.long x2), .second, .val (Value.long x3), .second, .val (Value.long x4), .second, .unset] [(Value.int x1), (Value.int x0)]))
  refine own_iushr X0 hx hby own_d2_2 ?_
  show own_G p e below s _ _ _ (s₁.setTop (mkF m 3 #[.val (Value.int x0), .val (Value.int x1), .val (Value.long x2), .second, .val (Value.long x3), .second, .val (Value.long x4), .second, .unset] [(Value.int ((x0.toUInt32 >>> (x1 &&& 31).toUInt32).toInt32))]))
  refine own_iconst X0 hx hby own_d2_3 ?_
  show own_G p e below s _ _ _ (s₁.setTop (mkF m 4 #[.val (Value.int x0), .val (Value.int x1), .val (Value.long x2), .second, .val (Value.long x3), .second, .val (Value.long x4), .second, .unset] [(Value.int (3 : Int32)), (Value.int ((x0.toUInt32 >>> (x1 &&& 31).toUInt32).toInt32))]))
  refine own_iand X0 hx hby own_d2_4 ?_
  show own_G p e below s _ _ _ (s₁.setTop (mkF m 5 #[.val (Value.int x0), .val (Value.int x1), .val (Value.long x2), .second, .val (Value.long x3), .second, .val (Value.long x4), .second, .unset] [(Value.int (((x0.toUInt32 >>> (x1 &&& 31).toUInt32).toInt32) &&& (3 : Int32)))]))
  refine own_istore X0 hx hby own_d2_5 (l' := #[.val (Value.int x0), .val (Value.int x1), .val (Value.long x2), .second, .val (Value.long x3), .second, .val (Value.long x4), .second, .val (Value.int (((x0.toUInt32 >>> (x1 &&& 31).toUInt32).toInt32) &&& (3 : Int32)))]) rfl ?_
  show own_G p e below s _ _ _ (s₁.setTop (mkF m 7 #[.val (Value.int x0), .val (Value.int x1), .val (Value.long x2), .second, .val (Value.long x3), .second, .val (Value.long x4), .second, .val (Value.int (((x0.toUInt32 >>> (x1 &&& 31).toUInt32).toInt32) &&& (3 : Int32)))] []))
  refine own_iload X0 hx hby own_d2_7 rfl ?_
  show own_G p e below s _ _ _ (s₁.setTop (mkF m 9 #[.val (Value.int x0), .val (Value.int x1), .val (Value.long x2), .second, .val (Value.long x3), .second, .val (Value.long x4), .second, .val (Value.int (((x0.toUInt32 >>> (x1 &&& 31).toUInt32).toInt32) &&& (3 : Int32)))] [(Value.int (((x0.toUInt32 >>> (x1 &&& 31).toUInt32).toInt32) &&& (3 : Int32)))]))
  refine own_if_ne X0 hx hby own_d2_9 (pc' := 14) (by decide) (by decide) (fun hb1 => ?_) (fun hb1 => ?_)
  · show own_G p e below s _ _ _ (s₁.setTop (mkF m 14 #[.val (Value.int x0), .val (Value.int x1), .val (Value.long x2), .second, .val (Value.long x3), .second, .val (Value.long x4), .second, .val (Value.int (((x0.toUInt32 >>> (x1 &&& 31).toUInt32).toInt32) &&& (3 : Int32)))] []))
    refine own_iload X0 hx hby own_d2_14 rfl ?_
    show own_G p e below s _ _ _ (s₁.setTop (mkF m 16 #[.val (Value.int x0), .val (Value.int x1), .val (Value.long x2), .second, .val (Value.long x3), .second, .val (Value.long x4), .second, .val (Value.int (((x0.toUInt32 >>> (x1 &&& 31).toUInt32).toInt32) &&& (3 : Int32)))] [(Value.int (((x0.toUInt32 >>> (x1 &&& 31).toUInt32).toInt32) &&& (3 : Int32)))]))
    refine own_iconst X0 hx hby own_d2_16 ?_
    show own_G p e below s _ _ _ (s₁.setTop (mkF m 17 #[.val (Value.int x0), .val (Value.int x1), .val (Value.long x2), .second, .val (Value.long x3), .second, .val (Value.long x4), .second, .val (Value.int (((x0.toUInt32 >>> (x1 &&& 31).toUInt32).toInt32) &&& (3 : Int32)))] [(Value.int (1 : Int32)), (Value.int (((x0.toUInt32 >>> (x1 &&& 31).toUInt32).toInt32) &&& (3 : Int32)))]))
    refine own_icmp_ne X0 hx hby own_d2_17 (pc' := 23) (by decide) (by decide) (fun hb2 => ?_) (fun hb2 => ?_)
    · show own_G p e below s _ _ _ (s₁.setTop (mkF m 23 #[.val (Value.int x0), .val (Value.int x1), .val (Value.long x2), .second, .val (Value.long x3), .second, .val (Value.long x4), .second, .val (Value.int (((x0.toUInt32 >>> (x1 &&& 31).toUInt32).toInt32) &&& (3 : Int32)))] []))
      refine own_lload X0 hx hby own_d2_23 rfl ?_
      show own_G p e below s _ _ _ (s₁.setTop (mkF m 25 #[.val (Value.int x0), .val (Value.int x1), .val (Value.long x2), .second, .val (Value.long x3), .second, .val (Value.long x4), .second, .val (Value.int (((x0.toUInt32 >>> (x1 &&& 31).toUInt32).toInt32) &&& (3 : Int32)))] [(Value.long x4)]))
      refine own_retJ X0 hx hby hlk Bd.returns own_d2_25 (by decide) (by decide) ?_
      refine ⟨?_, e0, N0⟩
      show some (Value.long x4) = _
      simp only [own_pl, if_neg hb1, if_neg hb2]
    · show own_G p e below s _ _ _ (s₁.setTop (mkF m 20 #[.val (Value.int x0), .val (Value.int x1), .val (Value.long x2), .second, .val (Value.long x3), .second, .val (Value.long x4), .second, .val (Value.int (((x0.toUInt32 >>> (x1 &&& 31).toUInt32).toInt32) &&& (3 : Int32)))] []))
      refine own_lload X0 hx hby own_d2_20 rfl ?_
      show own_G p e below s _ _ _ (s₁.setTop (mkF m 22 #[.val (Value.int x0), .val (Value.int x1), .val (Value.long x2), .second, .val (Value.long x3), .second, .val (Value.long x4), .second, .val (Value.int (((x0.toUInt32 >>> (x1 &&& 31).toUInt32).toInt32) &&& (3 : Int32)))] [(Value.long x3)]))
      refine own_retJ X0 hx hby hlk Bd.returns own_d2_22 (by decide) (by decide) ?_
      refine ⟨?_, e0, N0⟩
      show some (Value.long x3) = _
      simp only [own_pl, if_neg hb1, if_pos hb2]
  · show own_G p e below s _ _ _ (s₁.setTop (mkF m 12 #[.val (Value.int x0), .val (Value.int x1), .val (Value.long x2), .second, .val (Value.long x3), .second, .val (Value.long x4), .second, .val (Value.int (((x0.toUInt32 >>> (x1 &&& 31).toUInt32).toInt32) &&& (3 : Int32)))] []))
    refine own_lloadN X0 hx hby own_d2_12 rfl ?_
    show own_G p e below s _ _ _ (s₁.setTop (mkF m 13 #[.val (Value.int x0), .val (Value.int x1), .val (Value.long x2), .second, .val (Value.long x3), .second, .val (Value.long x4), .second, .val (Value.int (((x0.toUInt32 >>> (x1 &&& 31).toUInt32).toInt32) &&& (3 : Int32)))] [(Value.long x2)]))
    refine own_retJ X0 hx hby hlk Bd.returns own_d2_13 (by decide) (by decide) ?_
    refine ⟨?_, e0, N0⟩
    show some (Value.long x2) = _
    simp only [own_pl, if_pos hb1]
def own_rm3_Q (Z : State) (a : Addr) (x0 : Int32) (x1 : Int32) (x2 : Int64) (x3 : Int64) (x4 : Int64) (x5 : Int64)  (h0 : Heap) (n0 : Nat) : Option Value → Heap → List Loc → Prop := fun v h L => v = none ∧ Fr n0 L ∧ Keep h0 h [a] ∧ Exa Z h a "com/example/iron_log/ironlog/index/IndexFile$Header" ∧ Fld Z h a "com/example/iron_log/ironlog/index/IndexFile$Header" "slotCount" "I" (Value.int x0) ∧ Fld Z h a "com/example/iron_log/ironlog/index/IndexFile$Header" "count" "I" (Value.int x1) ∧ Fld Z h a "com/example/iron_log/ironlog/index/IndexFile$Header" "beginTime" "J" (Value.long x2) ∧ Fld Z h a "com/example/iron_log/ironlog/index/IndexFile$Header" "endTime" "J" (Value.long x3) ∧ Fld Z h a "com/example/iron_log/ironlog/index/IndexFile$Header" "beginOffset" "J" (Value.long x4) ∧ Fld Z h a "com/example/iron_log/ironlog/index/IndexFile$Header" "endOffset" "J" (Value.long x5)
theorem own_rm3_ef (m : MethodId) (a : Addr) (x0 : Int32) (x1 : Int32) (x2 : Int64) (x3 : Int64) (x4 : Int64) (x5 : Int64)  : entryFrame m #[(Value.ref a), (Value.int x0), (Value.int x1), (Value.long x2), (Value.long x3), (Value.long x4), (Value.long x5)] 11 = mkF m 0 #[.val (Value.ref a), .val (Value.int x0), .val (Value.int x1), .val (Value.long x2), .second, .val (Value.long x3), .second, .val (Value.long x4), .second, .val (Value.long x5), .second] [] := by first | (simp [entryFrame, mkF, argsToLocals, Value.category]; done) | rfl
set_option maxRecDepth 65536 in
set_option maxHeartbeats 40000000 in
theorem own_rm3 (l : Launch) (Z : State) (a0 : Array Value) (hw : ∀ d ∈ tables_1, d.before a0 Z = true) (ws : List Jvm.Cond) (a : Addr) (x0 : Int32) (x1 : Int32) (x2 : Int64) (x3 : Int64) (x4 : Int64) (x5 : Int64)  (h0 : Heap) (n0 : Nat) (O0 : Old Z n0 h0) (E_a : Exa Z h0 a "com/example/iron_log/ironlog/index/IndexFile$Header") (F_a_slotCount : Fld Z h0 a "com/example/iron_log/ironlog/index/IndexFile$Header" "slotCount" "I" (Value.int (0 : Int32))) (F_a_count : Fld Z h0 a "com/example/iron_log/ironlog/index/IndexFile$Header" "count" "I" (Value.int (0 : Int32))) (F_a_beginTime : Fld Z h0 a "com/example/iron_log/ironlog/index/IndexFile$Header" "beginTime" "J" (Value.long (0 : Int64))) (F_a_endTime : Fld Z h0 a "com/example/iron_log/ironlog/index/IndexFile$Header" "endTime" "J" (Value.long (0 : Int64))) (F_a_beginOffset : Fld Z h0 a "com/example/iron_log/ironlog/index/IndexFile$Header" "beginOffset" "J" (Value.long (0 : Int64))) (F_a_endOffset : Fld Z h0 a "com/example/iron_log/ironlog/index/IndexFile$Header" "endOffset" "J" (Value.long (0 : Int64))) (g_a : n0 ≤ a)  :
    MetFree l (⟨"com/example/iron_log/ironlog/index/IndexFile$Header", "<init>", "(IIJJJJ)V"⟩ : MethodName) (head1 (Jvm.Cond.code (⟨"com/example/iron_log/ironlog/index/IndexFile$Header", "<init>", "(IIJJJJ)V"⟩ : MethodName) prog_48_method_1_code 11 none :: ws) ({ frames := 1, cells := 0, slots := 0, locals := 12 } : Room)) (fun aa_ U => aa_ = #[(Value.ref a), (Value.int x0), (Value.int x1), (Value.long x2), (Value.long x3), (Value.long x4), (Value.long x5)] ∧ Z.Warmed39 U.vm ∧ U.heap = h0) (fun _ _ _ _ _ => True) (fun _ UU_ oo_ UX_ => ∃ vv_ LL_, oo_ = .returned vv_ ∧ (own_rm3_Q Z a x0 x1 x2 x3 x4 x5 h0 n0) vv_ UX_.heap LL_ ∧ FrameEnd UU_ oo_ UX_ LL_ ({ frames := 1, cells := 0, slots := 0, locals := 12 } : Room).cells ({ frames := 1, cells := 0, slots := 0, locals := 12 } : Room).slots) := by
  refine MetFree.of_bodySF (plainFor_of_name own_pn1) hisR ?_
  intro p e s m args below meth c s₁ Bd hml0 hP hK
  obtain ⟨rfl, hZ, hh⟩ := hP
  have hx := Bd.exec
  have hby := Bd.bytes
  have hml : c.maxLocals = 11 := hml0
  have hown : s.vm.findClass "com/example/iron_log/ironlog/index/IndexFile$Header" = some m.cls := findClass_of_methodNamed Bd.named
  have hnm := (name_of_methodNamed Bd.named Bd.method).1
  have hlk : meth.locks = false := BodyLoose.notSynchronized Bd
  have X0 : Stand p l e ({ frames := 1, cells := 0, slots := 0, locals := 12 } : Room) s m #[(Value.ref a), (Value.int x0), (Value.int x1), (Value.long x2), (Value.long x3), (Value.long x4), (Value.long x5)] below meth c s₁ [] 0 0 := Stand.of_body Bd
  have e0 : s₁.heap = h0 := by rw [← hh, Bd.state]; rfl
  have N0 := Fr.nil n0
  show own_G p e below s (own_rm3_Q Z a x0 x1 x2 x3 x4 x5 h0 n0) ({ frames := 1, cells := 0, slots := 0, locals := 12 } : Room).cells ({ frames := 1, cells := 0, slots := 0, locals := 12 } : Room).slots (s₁.setTop (entryFrame m #[(Value.ref a), (Value.int x0), (Value.int x1), (Value.long x2), (Value.long x3), (Value.long x4), (Value.long x5)] 11))
  refine own_cast (own_rm3_ef m a x0 x1 x2 x3 x4 x5 ) ?_
  show own_G p e below s _ _ _ (s₁.setTop (mkF m 0 #[.val (Value.ref a), .val (Value.int x0), .val (Value.int x1), .val (Value.long x2), .second, .val (Value.long x3), .second, .val (Value.long x4), .second, .val (Value.long x5), .second] []))
  refine own_aloadN X0 hx hby own_d3_0 rfl rfl ?_
  show own_G p e below s _ _ _ (s₁.setTop (mkF m 1 #[.val (Value.ref a), .val (Value.int x0), .val (Value.int x1), .val (Value.long x2), .second, .val (Value.long x3), .second, .val (Value.long x4), .second, .val (Value.long x5), .second] [(Value.ref a)]))
  obtain ⟨T1, X1, e1, st1⟩ := initO X0 hx hZ hown (own_w13 hw) (own_w14 hw) (own_w15 hw) e0 (g := (mkF m 1 #[.val (Value.ref a), .val (Value.int x0), .val (Value.int x1), .val (Value.long x2), .second, .val (Value.long x3), .second, .val (Value.long x4), .second, .val (Value.long x5), .second] [(Value.ref a)])) rfl (by rw [hml]; rfl) rfl (hb hby own_d3_1) (by decide) (W := 0) (by show 2 * 0 + _ ≤ _; exact Nat.le_of_eq rfl) (by decide)
  refine own_st st1 ?_
  show own_G p e below s _ _ _ (T1.setTop (mkF m 4 #[.val (Value.ref a), .val (Value.int x0), .val (Value.int x1), .val (Value.long x2), .second, .val (Value.long x3), .second, .val (Value.long x4), .second, .val (Value.long x5), .second] []))
  refine own_aloadN X1 hx hby own_d3_4 rfl rfl ?_
  show own_G p e below s _ _ _ (T1.setTop (mkF m 5 #[.val (Value.ref a), .val (Value.int x0), .val (Value.int x1), .val (Value.long x2), .second, .val (Value.long x3), .second, .val (Value.long x4), .second, .val (Value.long x5), .second] [(Value.ref a)]))
  refine own_iloadN X1 hx hby own_d3_5 rfl ?_
  show own_G p e below s _ _ _ (T1.setTop (mkF m 6 #[.val (Value.ref a), .val (Value.int x0), .val (Value.int x1), .val (Value.long x2), .second, .val (Value.long x3), .second, .val (Value.long x4), .second, .val (Value.long x5), .second] [(Value.int x0), (Value.ref a)]))
  obtain ⟨T2, h2, X2, e2, W2, st2⟩ := putF X1 hx hZ hown (host := "") (Or.inl (own_w16 hw)) Via.refl e1 F_a_slotCount E_a (Or.inr ⟨(own_w17 hw), rfl, hnm⟩) (own_w8 hw) (ty := .int) (by decide) rfl rfl (g := (mkF m 6 #[.val (Value.ref a), .val (Value.int x0), .val (Value.int x1), .val (Value.long x2), .second, .val (Value.long x3), .second, .val (Value.long x4), .second, .val (Value.long x5), .second] [(Value.int x0), (Value.ref a)])) rfl rfl (hb hby own_d3_6)
  have F3_a_count := Fld.other W2 F_a_count (Or.inr (slot_ne (C := "com/example/iron_log/ironlog/index/IndexFile$Header") (Or.inr (own_w19 hw)) (Or.inr (own_w17 hw)) (by decide) (t := .int) (t' := .int) (by decide) (by decide)))
  have F3_a_beginTime := Fld.other W2 F_a_beginTime (Or.inr (slot_ne (C := "com/example/iron_log/ironlog/index/IndexFile$Header") (Or.inr (own_w21 hw)) (Or.inr (own_w17 hw)) (by decide) (t := .long) (t' := .int) (by decide) (by decide)))
  have F3_a_endTime := Fld.other W2 F_a_endTime (Or.inr (slot_ne (C := "com/example/iron_log/ironlog/index/IndexFile$Header") (Or.inr (own_w23 hw)) (Or.inr (own_w17 hw)) (by decide) (t := .long) (t' := .int) (by decide) (by decide)))
  have F3_a_beginOffset := Fld.other W2 F_a_beginOffset (Or.inr (slot_ne (C := "com/example/iron_log/ironlog/index/IndexFile$Header") (Or.inr (own_w25 hw)) (Or.inr (own_w17 hw)) (by decide) (t := .long) (t' := .int) (by decide) (by decide)))
  have F3_a_endOffset := Fld.other W2 F_a_endOffset (Or.inr (slot_ne (C := "com/example/iron_log/ironlog/index/IndexFile$Header") (Or.inr (own_w27 hw)) (Or.inr (own_w17 hw)) (by decide) (t := .long) (t' := .int) (by decide) (by decide)))
  have E3_a := Exa.wr W2 E_a
  have O3 := Old.wr O0 W2 g_a
  have F2w := Fld.same W2 F_a_slotCount
  have K2 := Keep.wr (Keep.refl h0 [a]) W2 (Or.inl (List.mem_of_getElem? (i := 0) rfl))
  have N2 := Fr.snoc X2 N0 g_a
  refine own_st st2 ?_
  show own_G p e below s _ _ _ (T2.setTop (mkF m 9 #[.val (Value.ref a), .val (Value.int x0), .val (Value.int x1), .val (Value.long x2), .second, .val (Value.long x3), .second, .val (Value.long x4), .second, .val (Value.long x5), .second] []))
  refine own_aloadN X2 hx hby own_d3_9 rfl rfl ?_
  show own_G p e below s _ _ _ (T2.setTop (mkF m 10 #[.val (Value.ref a), .val (Value.int x0), .val (Value.int x1), .val (Value.long x2), .second, .val (Value.long x3), .second, .val (Value.long x4), .second, .val (Value.long x5), .second] [(Value.ref a)]))
  refine own_iloadN X2 hx hby own_d3_10 rfl ?_
  show own_G p e below s _ _ _ (T2.setTop (mkF m 11 #[.val (Value.ref a), .val (Value.int x0), .val (Value.int x1), .val (Value.long x2), .second, .val (Value.long x3), .second, .val (Value.long x4), .second, .val (Value.long x5), .second] [(Value.int x1), (Value.ref a)]))
  obtain ⟨T4, h4, X4, e4, W4, st4⟩ := putF X2 hx hZ hown (host := "") (Or.inl (own_w18 hw)) Via.refl e2 F3_a_count E3_a (Or.inr ⟨(own_w19 hw), rfl, hnm⟩) (own_w8 hw) (ty := .int) (by decide) rfl rfl (g := (mkF m 11 #[.val (Value.ref a), .val (Value.int x0), .val (Value.int x1), .val (Value.long x2), .second, .val (Value.long x3), .second, .val (Value.long x4), .second, .val (Value.long x5), .second] [(Value.int x1), (Value.ref a)])) rfl rfl (hb hby own_d3_11)
  have F5_a_slotCount := Fld.other W4 F2w (Or.inr (slot_ne (C := "com/example/iron_log/ironlog/index/IndexFile$Header") (Or.inr (own_w17 hw)) (Or.inr (own_w19 hw)) (by decide) (t := .int) (t' := .int) (by decide) (by decide)))
  have F5_a_beginTime := Fld.other W4 F3_a_beginTime (Or.inr (slot_ne (C := "com/example/iron_log/ironlog/index/IndexFile$Header") (Or.inr (own_w21 hw)) (Or.inr (own_w19 hw)) (by decide) (t := .long) (t' := .int) (by decide) (by decide)))
  have F5_a_endTime := Fld.other W4 F3_a_endTime (Or.inr (slot_ne (C := "com/example/iron_log/ironlog/index/IndexFile$Header") (Or.inr (own_w23 hw)) (Or.inr (own_w19 hw)) (by decide) (t := .long) (t' := .int) (by decide) (by decide)))
  have F5_a_beginOffset := Fld.other W4 F3_a_beginOffset (Or.inr (slot_ne (C := "com/example/iron_log/ironlog/index/IndexFile$Header") (Or.inr (own_w25 hw)) (Or.inr (own_w19 hw)) (by decide) (t := .long) (t' := .int) (by decide) (by decide)))
  have F5_a_endOffset := Fld.other W4 F3_a_endOffset (Or.inr (slot_ne (C := "com/example/iron_log/ironlog/index/IndexFile$Header") (Or.inr (own_w27 hw)) (Or.inr (own_w19 hw)) (by decide) (t := .long) (t' := .int) (by decide) (by decide)))
  have E5_a := Exa.wr W4 E3_a
  have O5 := Old.wr O3 W4 g_a
  have F4w := Fld.same W4 F3_a_count
  have K4 := Keep.wr K2 W4 (Or.inl (List.mem_of_getElem? (i := 0) rfl))
  have N4 := Fr.snoc X4 N2 g_a
  refine own_st st4 ?_
  show own_G p e below s _ _ _ (T4.setTop (mkF m 14 #[.val (Value.ref a), .val (Value.int x0), .val (Value.int x1), .val (Value.long x2), .second, .val (Value.long x3), .second, .val (Value.long x4), .second, .val (Value.long x5), .second] []))
  refine own_aloadN X4 hx hby own_d3_14 rfl rfl ?_
  show own_G p e below s _ _ _ (T4.setTop (mkF m 15 #[.val (Value.ref a), .val (Value.int x0), .val (Value.int x1), .val (Value.long x2), .second, .val (Value.long x3), .second, .val (Value.long x4), .second, .val (Value.long x5), .second] [(Value.ref a)]))
  refine own_lloadN X4 hx hby own_d3_15 rfl ?_
  show own_G p e below s _ _ _ (T4.setTop (mkF m 16 #[.val (Value.ref a), .val (Value.int x0), .val (Value.int x1), .val (Value.long x2), .second, .val (Value.long x3), .second, .val (Value.long x4), .second, .val (Value.long x5), .second] [(Value.long x2), (Value.ref a)]))
  obtain ⟨T6, h6, X6, e6, W6, st6⟩ := putF X4 hx hZ hown (host := "") (Or.inl (own_w20 hw)) Via.refl e4 F5_a_beginTime E5_a (Or.inr ⟨(own_w21 hw), rfl, hnm⟩) (own_w8 hw) (ty := .long) (by decide) rfl rfl (g := (mkF m 16 #[.val (Value.ref a), .val (Value.int x0), .val (Value.int x1), .val (Value.long x2), .second, .val (Value.long x3), .second, .val (Value.long x4), .second, .val (Value.long x5), .second] [(Value.long x2), (Value.ref a)])) rfl rfl (hb hby own_d3_16)
  have F7_a_slotCount := Fld.other W6 F5_a_slotCount (Or.inr (slot_ne (C := "com/example/iron_log/ironlog/index/IndexFile$Header") (Or.inr (own_w17 hw)) (Or.inr (own_w21 hw)) (by decide) (t := .int) (t' := .long) (by decide) (by decide)))
  have F7_a_count := Fld.other W6 F4w (Or.inr (slot_ne (C := "com/example/iron_log/ironlog/index/IndexFile$Header") (Or.inr (own_w19 hw)) (Or.inr (own_w21 hw)) (by decide) (t := .int) (t' := .long) (by decide) (by decide)))
  have F7_a_endTime := Fld.other W6 F5_a_endTime (Or.inr (slot_ne (C := "com/example/iron_log/ironlog/index/IndexFile$Header") (Or.inr (own_w23 hw)) (Or.inr (own_w21 hw)) (by decide) (t := .long) (t' := .long) (by decide) (by decide)))
  have F7_a_beginOffset := Fld.other W6 F5_a_beginOffset (Or.inr (slot_ne (C := "com/example/iron_log/ironlog/index/IndexFile$Header") (Or.inr (own_w25 hw)) (Or.inr (own_w21 hw)) (by decide) (t := .long) (t' := .long) (by decide) (by decide)))
  have F7_a_endOffset := Fld.other W6 F5_a_endOffset (Or.inr (slot_ne (C := "com/example/iron_log/ironlog/index/IndexFile$Header") (Or.inr (own_w27 hw)) (Or.inr (own_w21 hw)) (by decide) (t := .long) (t' := .long) (by decide) (by decide)))
  have E7_a := Exa.wr W6 E5_a
  have O7 := Old.wr O5 W6 g_a
  have F6w := Fld.same W6 F5_a_beginTime
  have K6 := Keep.wr K4 W6 (Or.inl (List.mem_of_getElem? (i := 0) rfl))
  have N6 := Fr.snoc X6 N4 g_a
  refine own_st st6 ?_
  show own_G p e below s _ _ _ (T6.setTop (mkF m 19 #[.val (Value.ref a), .val (Value.int x0), .val (Value.int x1), .val (Value.long x2), .second, .val (Value.long x3), .second, .val (Value.long x4), .second, .val (Value.long x5), .second] []))
  refine own_aloadN X6 hx hby own_d3_19 rfl rfl ?_
  show own_G p e below s _ _ _ (T6.setTop (mkF m 20 #[.val (Value.ref a), .val (Value.int x0), .val (Value.int x1), .val (Value.long x2), .second, .val (Value.long x3), .second, .val (Value.long x4), .second, .val (Value.long x5), .second] [(Value.ref a)]))
  refine own_lload X6 hx hby own_d3_20 rfl ?_
  show own_G p e below s _ _ _ (T6.setTop (mkF m 22 #[.val (Value.ref a), .val (Value.int x0), .val (Value.int x1), .val (Value.long x2), .second, .val (Value.long x3), .second, .val (Value.long x4), .second, .val (Value.long x5), .second] [(Value.long x3), (Value.ref a)]))
  obtain ⟨T8, h8, X8, e8, W8, st8⟩ := putF X6 hx hZ hown (host := "") (Or.inl (own_w22 hw)) Via.refl e6 F7_a_endTime E7_a (Or.inr ⟨(own_w23 hw), rfl, hnm⟩) (own_w8 hw) (ty := .long) (by decide) rfl rfl (g := (mkF m 22 #[.val (Value.ref a), .val (Value.int x0), .val (Value.int x1), .val (Value.long x2), .second, .val (Value.long x3), .second, .val (Value.long x4), .second, .val (Value.long x5), .second] [(Value.long x3), (Value.ref a)])) rfl rfl (hb hby own_d3_22)
  have F9_a_slotCount := Fld.other W8 F7_a_slotCount (Or.inr (slot_ne (C := "com/example/iron_log/ironlog/index/IndexFile$Header") (Or.inr (own_w17 hw)) (Or.inr (own_w23 hw)) (by decide) (t := .int) (t' := .long) (by decide) (by decide)))
  have F9_a_count := Fld.other W8 F7_a_count (Or.inr (slot_ne (C := "com/example/iron_log/ironlog/index/IndexFile$Header") (Or.inr (own_w19 hw)) (Or.inr (own_w23 hw)) (by decide) (t := .int) (t' := .long) (by decide) (by decide)))
  have F9_a_beginTime := Fld.other W8 F6w (Or.inr (slot_ne (C := "com/example/iron_log/ironlog/index/IndexFile$Header") (Or.inr (own_w21 hw)) (Or.inr (own_w23 hw)) (by decide) (t := .long) (t' := .long) (by decide) (by decide)))
  have F9_a_beginOffset := Fld.other W8 F7_a_beginOffset (Or.inr (slot_ne (C := "com/example/iron_log/ironlog/index/IndexFile$Header") (Or.inr (own_w25 hw)) (Or.inr (own_w23 hw)) (by decide) (t := .long) (t' := .long) (by decide) (by decide)))
  have F9_a_endOffset := Fld.other W8 F7_a_endOffset (Or.inr (slot_ne (C := "com/example/iron_log/ironlog/index/IndexFile$Header") (Or.inr (own_w27 hw)) (Or.inr (own_w23 hw)) (by decide) (t := .long) (t' := .long) (by decide) (by decide)))
  have E9_a := Exa.wr W8 E7_a
  have O9 := Old.wr O7 W8 g_a
  have F8w := Fld.same W8 F7_a_endTime
  have K8 := Keep.wr K6 W8 (Or.inl (List.mem_of_getElem? (i := 0) rfl))
  have N8 := Fr.snoc X8 N6 g_a
  refine own_st st8 ?_
  show own_G p e below s _ _ _ (T8.setTop (mkF m 25 #[.val (Value.ref a), .val (Value.int x0), .val (Value.int x1), .val (Value.long x2), .second, .val (Value.long x3), .second, .val (Value.long x4), .second, .val (Value.long x5), .second] []))
  refine own_aloadN X8 hx hby own_d3_25 rfl rfl ?_
  show own_G p e below s _ _ _ (T8.setTop (mkF m 26 #[.val (Value.ref a), .val (Value.int x0), .val (Value.int x1), .val (Value.long x2), .second, .val (Value.long x3), .second, .val (Value.long x4), .second, .val (Value.long x5), .second] [(Value.ref a)]))
  refine own_lload X8 hx hby own_d3_26 rfl ?_
  show own_G p e below s _ _ _ (T8.setTop (mkF m 28 #[.val (Value.ref a), .val (Value.int x0), .val (Value.int x1), .val (Value.long x2), .second, .val (Value.long x3), .second, .val (Value.long x4), .second, .val (Value.long x5), .second] [(Value.long x4), (Value.ref a)]))
  obtain ⟨T10, h10, X10, e10, W10, st10⟩ := putF X8 hx hZ hown (host := "") (Or.inl (own_w24 hw)) Via.refl e8 F9_a_beginOffset E9_a (Or.inr ⟨(own_w25 hw), rfl, hnm⟩) (own_w8 hw) (ty := .long) (by decide) rfl rfl (g := (mkF m 28 #[.val (Value.ref a), .val (Value.int x0), .val (Value.int x1), .val (Value.long x2), .second, .val (Value.long x3), .second, .val (Value.long x4), .second, .val (Value.long x5), .second] [(Value.long x4), (Value.ref a)])) rfl rfl (hb hby own_d3_28)
  have F11_a_slotCount := Fld.other W10 F9_a_slotCount (Or.inr (slot_ne (C := "com/example/iron_log/ironlog/index/IndexFile$Header") (Or.inr (own_w17 hw)) (Or.inr (own_w25 hw)) (by decide) (t := .int) (t' := .long) (by decide) (by decide)))
  have F11_a_count := Fld.other W10 F9_a_count (Or.inr (slot_ne (C := "com/example/iron_log/ironlog/index/IndexFile$Header") (Or.inr (own_w19 hw)) (Or.inr (own_w25 hw)) (by decide) (t := .int) (t' := .long) (by decide) (by decide)))
  have F11_a_beginTime := Fld.other W10 F9_a_beginTime (Or.inr (slot_ne (C := "com/example/iron_log/ironlog/index/IndexFile$Header") (Or.inr (own_w21 hw)) (Or.inr (own_w25 hw)) (by decide) (t := .long) (t' := .long) (by decide) (by decide)))
  have F11_a_endTime := Fld.other W10 F8w (Or.inr (slot_ne (C := "com/example/iron_log/ironlog/index/IndexFile$Header") (Or.inr (own_w23 hw)) (Or.inr (own_w25 hw)) (by decide) (t := .long) (t' := .long) (by decide) (by decide)))
  have F11_a_endOffset := Fld.other W10 F9_a_endOffset (Or.inr (slot_ne (C := "com/example/iron_log/ironlog/index/IndexFile$Header") (Or.inr (own_w27 hw)) (Or.inr (own_w25 hw)) (by decide) (t := .long) (t' := .long) (by decide) (by decide)))
  have E11_a := Exa.wr W10 E9_a
  have O11 := Old.wr O9 W10 g_a
  have F10w := Fld.same W10 F9_a_beginOffset
  have K10 := Keep.wr K8 W10 (Or.inl (List.mem_of_getElem? (i := 0) rfl))
  have N10 := Fr.snoc X10 N8 g_a
  refine own_st st10 ?_
  show own_G p e below s _ _ _ (T10.setTop (mkF m 31 #[.val (Value.ref a), .val (Value.int x0), .val (Value.int x1), .val (Value.long x2), .second, .val (Value.long x3), .second, .val (Value.long x4), .second, .val (Value.long x5), .second] []))
  refine own_aloadN X10 hx hby own_d3_31 rfl rfl ?_
  show own_G p e below s _ _ _ (T10.setTop (mkF m 32 #[.val (Value.ref a), .val (Value.int x0), .val (Value.int x1), .val (Value.long x2), .second, .val (Value.long x3), .second, .val (Value.long x4), .second, .val (Value.long x5), .second] [(Value.ref a)]))
  refine own_lload X10 hx hby own_d3_32 rfl ?_
  show own_G p e below s _ _ _ (T10.setTop (mkF m 34 #[.val (Value.ref a), .val (Value.int x0), .val (Value.int x1), .val (Value.long x2), .second, .val (Value.long x3), .second, .val (Value.long x4), .second, .val (Value.long x5), .second] [(Value.long x5), (Value.ref a)]))
  obtain ⟨T12, h12, X12, e12, W12, st12⟩ := putF X10 hx hZ hown (host := "") (Or.inl (own_w26 hw)) Via.refl e10 F11_a_endOffset E11_a (Or.inr ⟨(own_w27 hw), rfl, hnm⟩) (own_w8 hw) (ty := .long) (by decide) rfl rfl (g := (mkF m 34 #[.val (Value.ref a), .val (Value.int x0), .val (Value.int x1), .val (Value.long x2), .second, .val (Value.long x3), .second, .val (Value.long x4), .second, .val (Value.long x5), .second] [(Value.long x5), (Value.ref a)])) rfl rfl (hb hby own_d3_34)
  have F13_a_slotCount := Fld.other W12 F11_a_slotCount (Or.inr (slot_ne (C := "com/example/iron_log/ironlog/index/IndexFile$Header") (Or.inr (own_w17 hw)) (Or.inr (own_w27 hw)) (by decide) (t := .int) (t' := .long) (by decide) (by decide)))
  have F13_a_count := Fld.other W12 F11_a_count (Or.inr (slot_ne (C := "com/example/iron_log/ironlog/index/IndexFile$Header") (Or.inr (own_w19 hw)) (Or.inr (own_w27 hw)) (by decide) (t := .int) (t' := .long) (by decide) (by decide)))
  have F13_a_beginTime := Fld.other W12 F11_a_beginTime (Or.inr (slot_ne (C := "com/example/iron_log/ironlog/index/IndexFile$Header") (Or.inr (own_w21 hw)) (Or.inr (own_w27 hw)) (by decide) (t := .long) (t' := .long) (by decide) (by decide)))
  have F13_a_endTime := Fld.other W12 F11_a_endTime (Or.inr (slot_ne (C := "com/example/iron_log/ironlog/index/IndexFile$Header") (Or.inr (own_w23 hw)) (Or.inr (own_w27 hw)) (by decide) (t := .long) (t' := .long) (by decide) (by decide)))
  have F13_a_beginOffset := Fld.other W12 F10w (Or.inr (slot_ne (C := "com/example/iron_log/ironlog/index/IndexFile$Header") (Or.inr (own_w25 hw)) (Or.inr (own_w27 hw)) (by decide) (t := .long) (t' := .long) (by decide) (by decide)))
  have E13_a := Exa.wr W12 E11_a
  have O13 := Old.wr O11 W12 g_a
  have F12w := Fld.same W12 F11_a_endOffset
  have K12 := Keep.wr K10 W12 (Or.inl (List.mem_of_getElem? (i := 0) rfl))
  have N12 := Fr.snoc X12 N10 g_a
  refine own_st st12 ?_
  show own_G p e below s _ _ _ (T12.setTop (mkF m 37 #[.val (Value.ref a), .val (Value.int x0), .val (Value.int x1), .val (Value.long x2), .second, .val (Value.long x3), .second, .val (Value.long x4), .second, .val (Value.long x5), .second] []))
  refine own_ret0 X12 hx hby hlk Bd.returns own_d3_37 (by decide) (by decide) ?_
  show own_rm3_Q Z a x0 x1 x2 x3 x4 x5 h0 n0 none T12.heap _
  rw [e12]
  exact ⟨rfl, N12, K12, E13_a, F13_a_slotCount, F13_a_count, F13_a_beginTime, F13_a_endTime, F13_a_beginOffset, F12w⟩
def own_rm8_Q (Z : State) (a : Addr)  (h0 : Heap) (n0 : Nat) : Option Value → Heap → List Loc → Prop := fun v h L => v = none ∧ h = h0 ∧ Fr n0 L
theorem own_rm8_ef (m : MethodId) (a : Addr)  : entryFrame m #[(Value.ref a)] 1 = mkF m 0 #[.val (Value.ref a)] [] := by first | (simp [entryFrame, mkF, argsToLocals, Value.category]; done) | rfl
set_option maxRecDepth 65536 in
set_option maxHeartbeats 40000000 in
theorem own_rm8 (l : Launch) (Z : State) (a0 : Array Value) (hw : ∀ d ∈ tables_1, d.before a0 Z = true) (ws : List Jvm.Cond) (a : Addr)  (h0 : Heap) (n0 : Nat) (O0 : Old Z n0 h0)  :
    MetFree l (⟨"java/lang/Number", "<init>", "()V"⟩ : MethodName) (head1 (Jvm.Cond.code (⟨"java/lang/Number", "<init>", "()V"⟩ : MethodName) jdk_18_method_1_code 1 none :: ws) ({ frames := 1, cells := 0, slots := 0, locals := 12 } : Room)) (fun aa_ U => aa_ = #[(Value.ref a)] ∧ Z.Warmed39 U.vm ∧ U.heap = h0) (fun _ _ _ _ _ => True) (fun _ UU_ oo_ UX_ => ∃ vv_ LL_, oo_ = .returned vv_ ∧ (own_rm8_Q Z a h0 n0) vv_ UX_.heap LL_ ∧ FrameEnd UU_ oo_ UX_ LL_ ({ frames := 1, cells := 0, slots := 0, locals := 12 } : Room).cells ({ frames := 1, cells := 0, slots := 0, locals := 12 } : Room).slots) := by
  refine MetFree.of_bodySF (plainFor_of_name own_pn2) hisR ?_
  intro p e s m args below meth c s₁ Bd hml0 hP hK
  obtain ⟨rfl, hZ, hh⟩ := hP
  have hx := Bd.exec
  have hby := Bd.bytes
  have hml : c.maxLocals = 1 := hml0
  have hown : s.vm.findClass "java/lang/Number" = some m.cls := findClass_of_methodNamed Bd.named
  have hnm := (name_of_methodNamed Bd.named Bd.method).1
  have hlk : meth.locks = false := BodyLoose.notSynchronized Bd
  have X0 : Stand p l e ({ frames := 1, cells := 0, slots := 0, locals := 12 } : Room) s m #[(Value.ref a)] below meth c s₁ [] 0 0 := Stand.of_body Bd
  have e0 : s₁.heap = h0 := by rw [← hh, Bd.state]; rfl
  have N0 := Fr.nil n0
  show own_G p e below s (own_rm8_Q Z a h0 n0) ({ frames := 1, cells := 0, slots := 0, locals := 12 } : Room).cells ({ frames := 1, cells := 0, slots := 0, locals := 12 } : Room).slots (s₁.setTop (entryFrame m #[(Value.ref a)] 1))
  refine own_cast (own_rm8_ef m a ) ?_
  show own_G p e below s _ _ _ (s₁.setTop (mkF m 0 #[.val (Value.ref a)] []))
  refine own_aloadN X0 hx hby own_d8_0 rfl rfl ?_
  show own_G p e below s _ _ _ (s₁.setTop (mkF m 1 #[.val (Value.ref a)] [(Value.ref a)]))
  obtain ⟨T1, X1, e1, st1⟩ := initO X0 hx hZ hown (own_w57 hw) (own_w14 hw) (own_w15 hw) e0 (g := (mkF m 1 #[.val (Value.ref a)] [(Value.ref a)])) rfl (by rw [hml]; rfl) rfl (hb hby own_d8_1) (by decide) (W := 0) (by show 2 * 0 + _ ≤ _; exact Nat.le_of_eq rfl) (by decide)
  refine own_st st1 ?_
  show own_G p e below s _ _ _ (T1.setTop (mkF m 4 #[.val (Value.ref a)] []))
  refine own_ret0 X1 hx hby hlk Bd.returns own_d8_4 (by decide) (by decide) ?_
  refine ⟨?_, e1, N0⟩
  rfl
def own_rm7_Q (Z : State) (a : Addr) (x : Int32)  (h0 : Heap) (n0 : Nat) : Option Value → Heap → List Loc → Prop := fun v h L => v = none ∧ Fr n0 L ∧ Keep h0 h [a] ∧ Exa Z h a "java/lang/Integer" ∧ Fld Z h a "java/lang/Integer" "value" "I" (Value.int x)
theorem own_rm7_ef (m : MethodId) (a : Addr) (x : Int32)  : entryFrame m #[(Value.ref a), (Value.int x)] 2 = mkF m 0 #[.val (Value.ref a), .val (Value.int x)] [] := by first | (simp [entryFrame, mkF, argsToLocals, Value.category]; done) | rfl
set_option maxRecDepth 65536 in
set_option maxHeartbeats 40000000 in
theorem own_rm7 (l : Launch) (Z : State) (a0 : Array Value) (hw : ∀ d ∈ tables_1, d.before a0 Z = true) (ws : List Jvm.Cond) (a : Addr) (x : Int32)  (h0 : Heap) (n0 : Nat) (O0 : Old Z n0 h0) (E_a : Exa Z h0 a "java/lang/Integer") (F_a_value : Fld Z h0 a "java/lang/Integer" "value" "I" (Value.int (0 : Int32))) (g_a : n0 ≤ a)  :
    MetFree l (⟨"java/lang/Integer", "<init>", "(I)V"⟩ : MethodName) (head1 (Jvm.Cond.code (⟨"java/lang/Integer", "<init>", "(I)V"⟩ : MethodName) jdk_33_method_23_code 2 none :: ws) ({ frames := 2, cells := 0, slots := 0, locals := 24 } : Room)) (fun aa_ U => aa_ = #[(Value.ref a), (Value.int x)] ∧ Z.Warmed39 U.vm ∧ U.heap = h0) (fun _ _ _ _ _ => True) (fun _ UU_ oo_ UX_ => ∃ vv_ LL_, oo_ = .returned vv_ ∧ (own_rm7_Q Z a x h0 n0) vv_ UX_.heap LL_ ∧ FrameEnd UU_ oo_ UX_ LL_ ({ frames := 2, cells := 0, slots := 0, locals := 24 } : Room).cells ({ frames := 2, cells := 0, slots := 0, locals := 24 } : Room).slots) := by
  refine MetFree.of_bodySF (plainFor_of_name own_pn3) hisR ?_
  intro p e s m args below meth c s₁ Bd hml0 hP hK
  obtain ⟨rfl, hZ, hh⟩ := hP
  have hx := Bd.exec
  have hby := Bd.bytes
  have hml : c.maxLocals = 2 := hml0
  have hown : s.vm.findClass "java/lang/Integer" = some m.cls := findClass_of_methodNamed Bd.named
  have hnm := (name_of_methodNamed Bd.named Bd.method).1
  have hlk : meth.locks = false := BodyLoose.notSynchronized Bd
  have X0 : Stand p l e ({ frames := 2, cells := 0, slots := 0, locals := 24 } : Room) s m #[(Value.ref a), (Value.int x)] below meth c s₁ [] 0 0 := Stand.of_body Bd
  have e0 : s₁.heap = h0 := by rw [← hh, Bd.state]; rfl
  have N0 := Fr.nil n0
  show own_G p e below s (own_rm7_Q Z a x h0 n0) ({ frames := 2, cells := 0, slots := 0, locals := 24 } : Room).cells ({ frames := 2, cells := 0, slots := 0, locals := 24 } : Room).slots (s₁.setTop (entryFrame m #[(Value.ref a), (Value.int x)] 2))
  refine own_cast (own_rm7_ef m a x ) ?_
  show own_G p e below s _ _ _ (s₁.setTop (mkF m 0 #[.val (Value.ref a), .val (Value.int x)] []))
  refine own_aloadN X0 hx hby own_d7_0 rfl rfl ?_
  show own_G p e below s _ _ _ (s₁.setTop (mkF m 1 #[.val (Value.ref a), .val (Value.int x)] [(Value.ref a)]))
  obtain ⟨_, _, ⟨T1, L1, k1, n1⟩, -, X1, ⟨Lc1, hQ1, l1, y1, z1⟩, st1⟩ := X0.specialBack hx (y := (⟨"java/lang/Number", "<init>", "()V"⟩ : MethodName)) rfl hown (mvT hZ (own_w51 hw)) (mvT hZ (own_w52 hw)) (mvT hZ (own_w56 hw)) (by decide) (backOf (W := 0) (own_rm8 l Z a0 hw [] a  h0 n0 O0  ) hZ (own_w56 hw) (own_w55 hw) (by decide) (by decide)) (g := (mkF m 1 #[.val (Value.ref a), .val (Value.int x)] [(Value.ref a)])) rfl (by rw [hml]; rfl) (Steps.refl _) (a := a) (argsL := []) (rest := []) (lenOf own_pd0 rfl) rfl (by show 2 * 0 + _ ≤ _; exact Nat.le_of_eq rfl) (hb hby own_d7_1) (fun _ _ => ⟨rfl, e0, (by decide : (0 : Nat) + 0 ≤ _), (by decide : (0 : Nat) + 0 ≤ _)⟩)
  dsimp only [Pt.U, Pt.locs, Pt.cells, Pt.slots] at X1 l1 y1 z1 st1 hQ1
  subst l1 y1 z1
  obtain ⟨rfl, e1, Nq1⟩ := hQ1
  have N1 := Fr.app N0 Nq1
  refine own_tr st1 ?_
  show own_G p e below s _ _ _ (T1.setTop (mkF m 4 #[.val (Value.ref a), .val (Value.int x)] []))
  refine own_aloadN X1 hx hby own_d7_4 rfl rfl ?_
  show own_G p e below s _ _ _ (T1.setTop (mkF m 5 #[.val (Value.ref a), .val (Value.int x)] [(Value.ref a)]))
  refine own_iloadN X1 hx hby own_d7_5 rfl ?_
  show own_G p e below s _ _ _ (T1.setTop (mkF m 6 #[.val (Value.ref a), .val (Value.int x)] [(Value.int x), (Value.ref a)]))
  obtain ⟨T2, h2, X2, e2, W2, st2⟩ := putF X1 hx hZ hown (host := "") (Or.inl (own_w58 hw)) Via.refl e1 F_a_value E_a (Or.inr ⟨(own_w59 hw), rfl, hnm⟩) (own_w46 hw) (ty := .int) (by decide) rfl rfl (g := (mkF m 6 #[.val (Value.ref a), .val (Value.int x)] [(Value.int x), (Value.ref a)])) rfl rfl (hb hby own_d7_6)
  have E3_a := Exa.wr W2 E_a
  have O3 := Old.wr O0 W2 g_a
  have F2w := Fld.same W2 F_a_value
  have K2 := Keep.wr (Keep.refl h0 [a]) W2 (Or.inl (List.mem_of_getElem? (i := 0) rfl))
  have N2 := Fr.snoc X2 N1 g_a
  refine own_st st2 ?_
  show own_G p e below s _ _ _ (T2.setTop (mkF m 9 #[.val (Value.ref a), .val (Value.int x)] []))
  refine own_ret0 X2 hx hby hlk Bd.returns own_d7_9 (by decide) (by decide) ?_
  show own_rm7_Q Z a x h0 n0 none T2.heap _
  rw [e2]
  exact ⟨rfl, N2, K2, E3_a, F2w⟩
def own_rm6_Q (Z : State) (x : Int32) (arr : Addr) (f : Nat → Value) (h0 : Heap) (n0 : Nat) : Option Value → Heap → List Loc → Prop := fun v h L => ∃ r, v = some (.ref r) ∧ Fr n0 L ∧ Keep h0 h [] ∧ Exa Z h r "java/lang/Integer"
theorem own_rm6_ef (m : MethodId) (x : Int32)  : entryFrame m #[(Value.int x)] 1 = mkF m 0 #[.val (Value.int x)] [] := by first | (simp [entryFrame, mkF, argsToLocals, Value.category]; done) | rfl
set_option maxRecDepth 65536 in
set_option maxHeartbeats 40000000 in
theorem own_rm6 (l : Launch) (Z : State) (a0 : Array Value) (hw : ∀ d ∈ tables_1, d.before a0 Z = true) (ws : List Jvm.Cond) (x : Int32) (arr : Addr) (f : Nat → Value) (h0 : Heap) (n0 : Nat) (O0 : Old Z n0 h0) (hC : own_Ca Z "java/lang/Integer" "java/lang/Integer$IntegerCache" "[Ljava/lang/Integer;" arr f) (hH : Sta Z Z.heap "java/lang/Integer$IntegerCache" "high" "I" (.int 127)) :
    MetFree l (⟨"java/lang/Integer", "valueOf", "(I)Ljava/lang/Integer;"⟩ : MethodName) (head1 (Jvm.Cond.code (⟨"java/lang/Integer", "valueOf", "(I)Ljava/lang/Integer;"⟩ : MethodName) jdk_33_method_22_code 1 (some (.object "java/lang/Integer")) :: ws) ({ frames := 3, cells := 1, slots := 1, locals := 38 } : Room)) (fun aa_ U => aa_ = #[(Value.int x)] ∧ Z.Warmed39 U.vm ∧ U.heap = h0) (fun _ _ _ _ _ => True) (fun _ UU_ oo_ UX_ => ∃ vv_ LL_, oo_ = .returned vv_ ∧ (own_rm6_Q Z x arr f h0 n0) vv_ UX_.heap LL_ ∧ FrameEnd UU_ oo_ UX_ LL_ ({ frames := 3, cells := 1, slots := 1, locals := 38 } : Room).cells ({ frames := 3, cells := 1, slots := 1, locals := 38 } : Room).slots) := by
  refine MetFree.of_bodySF (plainFor_of_name own_pn3) hisR ?_
  intro p e s m args below meth c s₁ Bd hml0 hP hK
  obtain ⟨rfl, hZ, hh⟩ := hP
  have hx := Bd.exec
  have hby := Bd.bytes
  have hml : c.maxLocals = 1 := hml0
  have hown : s.vm.findClass "java/lang/Integer" = some m.cls := findClass_of_methodNamed Bd.named
  have hnm := (name_of_methodNamed Bd.named Bd.method).1
  have hlk : meth.locks = false := BodyLoose.notSynchronized Bd
  have X0 : Stand p l e ({ frames := 3, cells := 1, slots := 1, locals := 38 } : Room) s m #[(Value.int x)] below meth c s₁ [] 0 0 := Stand.of_body Bd
  have e0 : s₁.heap = h0 := by rw [← hh, Bd.state]; rfl
  have N0 := Fr.nil n0
  show own_G p e below s (own_rm6_Q Z x arr f h0 n0) ({ frames := 3, cells := 1, slots := 1, locals := 38 } : Room).cells ({ frames := 3, cells := 1, slots := 1, locals := 38 } : Room).slots (s₁.setTop (entryFrame m #[(Value.int x)] 1))
  refine own_cast (own_rm6_ef m x ) ?_
  show own_G p e below s _ _ _ (s₁.setTop (mkF m 0 #[.val (Value.int x)] []))
  refine own_iloadN X0 hx hby own_d6_0 rfl ?_
  show own_G p e below s _ _ _ (s₁.setTop (mkF m 1 #[.val (Value.int x)] [(Value.int x)]))
  refine own_bipush X0 hx hby own_d6_1 ?_
  show own_G p e below s _ _ _ (s₁.setTop (mkF m 3 #[.val (Value.int x)] [(Value.int (-128 : Int32)), (Value.int x)]))
  refine own_icmp_lt X0 hx hby own_d6_3 (pc' := 23) (by decide) (by decide) (fun hb1 => ?_) (fun hb1 => ?_)
  · show own_G p e below s _ _ _ (s₁.setTop (mkF m 23 #[.val (Value.int x)] []))
    obtain ⟨T2, h2, X2, e2, E2, A2, D2, -, st2⟩ := newO X0 hx hZ hown (own_w45 hw) (own_w46 hw) (own_w37 hw) e0 (g := (mkF m 23 #[.val (Value.int x)] [])) rfl (hb hby own_d6_23) (by decide) (by decide)
    obtain ⟨b2, g2⟩ : ∃ z, z = h0.size := ⟨_, rfl⟩
    rw [← g2] at A2 D2 st2
    have ne2_arr : arr ≠ b2 := by rw [g2]; exact Nat.ne_of_lt (own_Ar.ext hC.2.1 O0.2).lt
    have A3_arr := own_Ar.ext (own_Ar.ext hC.2.1 O0.2) E2
    have O3 := Old.ext O0 E2
    have g2n : n0 ≤ b2 := by rw [g2]; exact O0.1 ▸ O0.2.1
    have z2n : h0.size ≤ b2 := by rw [g2]; exact ((Keep.refl h0 [])).1
    have F2_value : Fld Z h2 b2 "java/lang/Integer" "value" "I" (Value.int (0 : Int32)) := D2 (Or.inr (own_w59 hw)) (ty := .int) (by decide)
    have K2 := Keep.ext (Keep.refl h0 []) E2
    refine own_st st2 ?_
    show own_G p e below s _ _ _ (T2.setTop (mkF m 26 #[.val (Value.int x)] [(Value.ref b2)]))
    refine own_dup X2 hx hby own_d6_26 rfl ?_
    show own_G p e below s _ _ _ (T2.setTop (mkF m 27 #[.val (Value.int x)] [(Value.ref b2), (Value.ref b2)]))
    refine own_iloadN X2 hx hby own_d6_27 rfl ?_
    show own_G p e below s _ _ _ (T2.setTop (mkF m 28 #[.val (Value.int x)] [(Value.int x), (Value.ref b2), (Value.ref b2)]))
    obtain ⟨_, _, ⟨T4, L4, k4, n4⟩, -, X4, ⟨Lc4, hQ4, l4, y4, z4⟩, st4⟩ := X2.specialBack hx (y := (⟨"java/lang/Integer", "<init>", "(I)V"⟩ : MethodName)) rfl hown (mvT hZ (own_w47 hw)) (mvT hZ (own_w48 hw)) (mvT hZ (own_w50 hw)) (by decide) (backOf (W := 1) (own_rm7 l Z a0 hw [] b2 x  h2 n0 O3  A2 F2_value g2n) hZ (own_w50 hw) (own_w37 hw) (by decide) (by decide)) (g := (mkF m 28 #[.val (Value.int x)] [(Value.int x), (Value.ref b2), (Value.ref b2)])) rfl (by rw [hml]; rfl) (Steps.refl _) (a := b2) (argsL := [(Value.int x)]) (rest := [(Value.ref b2)]) (lenOf own_pd1 rfl) rfl (by show 2 * 0 + _ ≤ _; exact Nat.le_of_eq rfl) (hb hby own_d6_28) (fun _ _ => ⟨rfl, e2, (by decide : (1 : Nat) + 0 ≤ _), (by decide : (1 : Nat) + 0 ≤ _)⟩)
    dsimp only [Pt.U, Pt.locs, Pt.cells, Pt.slots] at X4 l4 y4 z4 st4 hQ4
    subst l4 y4 z4
    obtain ⟨rfl, Nq4, Kq4, Eq4, Fq4_value⟩ := hQ4
    have N4 := Fr.app N0 Nq4
    have E5_b2 := Exa.keep A2 Kq4
    have A5_arr := own_Ar.keep A3_arr Kq4 (ninS ne2_arr nin0)
    have O5 := Old.keep O3 Kq4 (allS g2n all0)
    have K4 := Keep.trans K2 Kq4 (allS (Or.inr z2n) all0)
    refine own_tr st4 ?_
    show own_G p e below s _ _ _ (T4.setTop (mkF m 31 #[.val (Value.int x)] [(Value.ref b2)]))
    refine own_retA X4 hx hby hlk Bd.returns rfl rfl rfl own_d6_31 (by decide) (by decide) ?_
    show own_rm6_Q Z x arr f h0 n0 _ T4.heap _
    skip
    exact ⟨_, rfl, N4, K4, Eq4⟩
  · show own_G p e below s _ _ _ (s₁.setTop (mkF m 6 #[.val (Value.int x)] []))
    refine own_iloadN X0 hx hby own_d6_6 rfl ?_
    show own_G p e below s _ _ _ (s₁.setTop (mkF m 7 #[.val (Value.int x)] [(Value.int x)]))
    obtain ⟨T6, X6, e6, st6⟩ := getS2 X0 hx hZ hown (host := "") (Or.inl (own_w39 hw)) Via.refl e0 (Sta.ext O0.2 hH) (g := (mkF m 7 #[.val (Value.int x)] [(Value.int x)])) rfl (hb hby own_d6_7)
    refine own_st st6 ?_
    show own_G p e below s _ _ _ (T6.setTop (mkF m 10 #[.val (Value.int x)] [(Value.int (127 : Int32)), (Value.int x)]))
    refine own_icmp_gt X6 hx hby own_d6_10 (pc' := 23) (by decide) (by decide) (fun hb7 => ?_) (fun hb7 => ?_)
    · show own_G p e below s _ _ _ (T6.setTop (mkF m 23 #[.val (Value.int x)] []))
      obtain ⟨T8, h8, X8, e8, E8, A8, D8, -, st8⟩ := newO X6 hx hZ hown (own_w45 hw) (own_w46 hw) (own_w37 hw) e6 (g := (mkF m 23 #[.val (Value.int x)] [])) rfl (hb hby own_d6_23) (by decide) (by decide)
      obtain ⟨b8, g8⟩ : ∃ z, z = h0.size := ⟨_, rfl⟩
      rw [← g8] at A8 D8 st8
      have ne8_arr : arr ≠ b8 := by rw [g8]; exact Nat.ne_of_lt (own_Ar.ext hC.2.1 O0.2).lt
      have A9_arr := own_Ar.ext (own_Ar.ext hC.2.1 O0.2) E8
      have O9 := Old.ext O0 E8
      have g8n : n0 ≤ b8 := by rw [g8]; exact O0.1 ▸ O0.2.1
      have z8n : h0.size ≤ b8 := by rw [g8]; exact ((Keep.refl h0 [])).1
      have F8_value : Fld Z h8 b8 "java/lang/Integer" "value" "I" (Value.int (0 : Int32)) := D8 (Or.inr (own_w59 hw)) (ty := .int) (by decide)
      have K8 := Keep.ext (Keep.refl h0 []) E8
      refine own_st st8 ?_
      show own_G p e below s _ _ _ (T8.setTop (mkF m 26 #[.val (Value.int x)] [(Value.ref b8)]))
      refine own_dup X8 hx hby own_d6_26 rfl ?_
      show own_G p e below s _ _ _ (T8.setTop (mkF m 27 #[.val (Value.int x)] [(Value.ref b8), (Value.ref b8)]))
      refine own_iloadN X8 hx hby own_d6_27 rfl ?_
      show own_G p e below s _ _ _ (T8.setTop (mkF m 28 #[.val (Value.int x)] [(Value.int x), (Value.ref b8), (Value.ref b8)]))
      obtain ⟨_, _, ⟨T10, L10, k10, n10⟩, -, X10, ⟨Lc10, hQ10, l10, y10, z10⟩, st10⟩ := X8.specialBack hx (y := (⟨"java/lang/Integer", "<init>", "(I)V"⟩ : MethodName)) rfl hown (mvT hZ (own_w47 hw)) (mvT hZ (own_w48 hw)) (mvT hZ (own_w50 hw)) (by decide) (backOf (W := 1) (own_rm7 l Z a0 hw [] b8 x  h8 n0 O9  A8 F8_value g8n) hZ (own_w50 hw) (own_w37 hw) (by decide) (by decide)) (g := (mkF m 28 #[.val (Value.int x)] [(Value.int x), (Value.ref b8), (Value.ref b8)])) rfl (by rw [hml]; rfl) (Steps.refl _) (a := b8) (argsL := [(Value.int x)]) (rest := [(Value.ref b8)]) (lenOf own_pd1 rfl) rfl (by show 2 * 0 + _ ≤ _; exact Nat.le_of_eq rfl) (hb hby own_d6_28) (fun _ _ => ⟨rfl, e8, (by decide : (1 : Nat) + 0 ≤ _), (by decide : (1 : Nat) + 0 ≤ _)⟩)
      dsimp only [Pt.U, Pt.locs, Pt.cells, Pt.slots] at X10 l10 y10 z10 st10 hQ10
      subst l10 y10 z10
      obtain ⟨rfl, Nq10, Kq10, Eq10, Fq10_value⟩ := hQ10
      have N10 := Fr.app N0 Nq10
      have E11_b8 := Exa.keep A8 Kq10
      have A11_arr := own_Ar.keep A9_arr Kq10 (ninS ne8_arr nin0)
      have O11 := Old.keep O9 Kq10 (allS g8n all0)
      have K10 := Keep.trans K8 Kq10 (allS (Or.inr z8n) all0)
      refine own_tr st10 ?_
      show own_G p e below s _ _ _ (T10.setTop (mkF m 31 #[.val (Value.int x)] [(Value.ref b8)]))
      refine own_retA X10 hx hby hlk Bd.returns rfl rfl rfl own_d6_31 (by decide) (by decide) ?_
      show own_rm6_Q Z x arr f h0 n0 _ T10.heap _
      skip
      exact ⟨_, rfl, N10, K10, Eq10⟩
    · show own_G p e below s _ _ _ (T6.setTop (mkF m 13 #[.val (Value.int x)] []))
      obtain ⟨T12, X12, e12, st12⟩ := getS2 X6 hx hZ hown (host := "") (Or.inl (own_w41 hw)) Via.refl e6 (Sta.ext O0.2 hC.1) (g := (mkF m 13 #[.val (Value.int x)] [])) rfl (hb hby own_d6_13)
      refine own_st st12 ?_
      show own_G p e below s _ _ _ (T12.setTop (mkF m 16 #[.val (Value.int x)] [(Value.ref arr)]))
      refine own_iloadN X12 hx hby own_d6_16 rfl ?_
      show own_G p e below s _ _ _ (T12.setTop (mkF m 17 #[.val (Value.int x)] [(Value.int x), (Value.ref arr)]))
      refine own_sipush X12 hx hby own_d6_17 ?_
      show own_G p e below s _ _ _ (T12.setTop (mkF m 20 #[.val (Value.int x)] [(Value.int (128 : Int32)), (Value.int x), (Value.ref arr)]))
      refine own_iadd X12 hx hby own_d6_20 ?_
      show own_G p e below s _ _ _ (T12.setTop (mkF m 21 #[.val (Value.int x)] [(Value.int (x + (128 : Int32))), (Value.ref arr)]))
      have hi : (((x + (128 : Int32))).toInt) = (((x.toInt + 128).toNat : Nat) : Int) ∧ (x.toInt + 128).toNat < 256 := own_cidxI hb1 hb7
      obtain ⟨box, hbox, Ebox⟩ := hC.2.2 _ hi.2
      refine own_aaload X12 hx hby hZ e12 (own_Ar.ext hC.2.1 O0.2) rfl (j := (x + (128 : Int32))) (i := (x.toInt + 128).toNat) hi.1 hi.2 own_d6_21 ?_
      rw [hbox]
      show own_G p e below s _ _ _ (T12.setTop (mkF m 22 #[.val (Value.int x)] [(Value.ref box)]))
      refine own_retA X12 hx hby hlk Bd.returns rfl rfl rfl own_d6_22 (by decide) (by decide) ?_
      show own_rm6_Q Z x arr f h0 n0 _ T12.heap _
      rw [e12]
      exact ⟨_, rfl, N0, (Keep.refl h0 []), (Exa.ext O0.2 Ebox)⟩
def own_rmE_Q (Z : State) (a : Addr) (b : Addr) (u0 : Int32) (u1 : Int32) (u2 : Int64) (u3 : Int64) (u4 : Int64) (u5 : Int64) (v0 : Int32) (v1 : Int32) (v2 : Int64) (v3 : Int64) (v4 : Int64) (v5 : Int64) (h0 : Heap) (n0 : Nat) : Option Value → Heap → List Loc → Prop := fun v h L => v = some (Value.int (own_hd u0 u1 u2 u3 u4 u5 v0 v1 v2 v3 v4 v5)) ∧ h = h0 ∧ Fr n0 L
theorem own_rmE_ef (m : MethodId) (a : Addr) (b : Addr)  : entryFrame m #[(Value.ref a), (Value.ref b)] 4 = mkF m 0 #[.val (Value.ref a), .val (Value.ref b), .unset, .unset] [] := by first | (simp [entryFrame, mkF, argsToLocals, Value.category]; done) | rfl
set_option maxRecDepth 65536 in
set_option maxHeartbeats 40000000 in
theorem own_rmE (l : Launch) (Z : State) (a0 : Array Value) (hw : ∀ d ∈ tables_1, d.before a0 Z = true) (ws : List Jvm.Cond) (a : Addr) (b : Addr) (u0 : Int32) (u1 : Int32) (u2 : Int64) (u3 : Int64) (u4 : Int64) (u5 : Int64) (v0 : Int32) (v1 : Int32) (v2 : Int64) (v3 : Int64) (v4 : Int64) (v5 : Int64) (h0 : Heap) (n0 : Nat) (O0 : Old Z n0 h0) (F_a_slotCount : Fld Z h0 a "com/example/iron_log/ironlog/index/IndexFile$Header" "slotCount" "I" (Value.int u0)) (F_a_count : Fld Z h0 a "com/example/iron_log/ironlog/index/IndexFile$Header" "count" "I" (Value.int u1)) (F_a_beginTime : Fld Z h0 a "com/example/iron_log/ironlog/index/IndexFile$Header" "beginTime" "J" (Value.long u2)) (F_a_endTime : Fld Z h0 a "com/example/iron_log/ironlog/index/IndexFile$Header" "endTime" "J" (Value.long u3)) (F_a_beginOffset : Fld Z h0 a "com/example/iron_log/ironlog/index/IndexFile$Header" "beginOffset" "J" (Value.long u4)) (F_a_endOffset : Fld Z h0 a "com/example/iron_log/ironlog/index/IndexFile$Header" "endOffset" "J" (Value.long u5)) (E_b : Exa Z h0 b "com/example/iron_log/ironlog/index/IndexFile$Header") (F_b_slotCount : Fld Z h0 b "com/example/iron_log/ironlog/index/IndexFile$Header" "slotCount" "I" (Value.int v0)) (F_b_count : Fld Z h0 b "com/example/iron_log/ironlog/index/IndexFile$Header" "count" "I" (Value.int v1)) (F_b_beginTime : Fld Z h0 b "com/example/iron_log/ironlog/index/IndexFile$Header" "beginTime" "J" (Value.long v2)) (F_b_endTime : Fld Z h0 b "com/example/iron_log/ironlog/index/IndexFile$Header" "endTime" "J" (Value.long v3)) (F_b_beginOffset : Fld Z h0 b "com/example/iron_log/ironlog/index/IndexFile$Header" "beginOffset" "J" (Value.long v4)) (F_b_endOffset : Fld Z h0 b "com/example/iron_log/ironlog/index/IndexFile$Header" "endOffset" "J" (Value.long v5)) (hne : b ≠ a) :
    MetFree l (⟨"com/example/iron_log/ironlog/index/IndexFile$Header", "equals", "(Ljava/lang/Object;)Z"⟩ : MethodName) (head1 (Jvm.Cond.code (⟨"com/example/iron_log/ironlog/index/IndexFile$Header", "equals", "(Ljava/lang/Object;)Z"⟩ : MethodName) prog_48_method_3_code 4 (some .boolean) :: ws) ({ frames := 0, cells := 0, slots := 0, locals := 0 } : Room)) (fun aa_ U => aa_ = #[(Value.ref a), (Value.ref b)] ∧ Z.Warmed39 U.vm ∧ U.heap = h0) (fun _ _ _ _ _ => True) (fun _ UU_ oo_ UX_ => ∃ vv_ LL_, oo_ = .returned vv_ ∧ (own_rmE_Q Z a b u0 u1 u2 u3 u4 u5 v0 v1 v2 v3 v4 v5 h0 n0) vv_ UX_.heap LL_ ∧ FrameEnd UU_ oo_ UX_ LL_ ({ frames := 0, cells := 0, slots := 0, locals := 0 } : Room).cells ({ frames := 0, cells := 0, slots := 0, locals := 0 } : Room).slots) := by
  refine MetFree.of_bodySF (plainFor_of_name own_pn1) hisR ?_
  intro p e s m args below meth c s₁ Bd hml0 hP hK
  obtain ⟨rfl, hZ, hh⟩ := hP
  have hx := Bd.exec
  have hby := Bd.bytes
  have hml : c.maxLocals = 4 := hml0
  have hown : s.vm.findClass "com/example/iron_log/ironlog/index/IndexFile$Header" = some m.cls := findClass_of_methodNamed Bd.named
  have hnm := (name_of_methodNamed Bd.named Bd.method).1
  have hlk : meth.locks = false := BodyLoose.notSynchronized Bd
  have X0 : Stand p l e ({ frames := 0, cells := 0, slots := 0, locals := 0 } : Room) s m #[(Value.ref a), (Value.ref b)] below meth c s₁ [] 0 0 := Stand.of_body Bd
  have e0 : s₁.heap = h0 := by rw [← hh, Bd.state]; rfl
  have N0 := Fr.nil n0
  show own_G p e below s (own_rmE_Q Z a b u0 u1 u2 u3 u4 u5 v0 v1 v2 v3 v4 v5 h0 n0) ({ frames := 0, cells := 0, slots := 0, locals := 0 } : Room).cells ({ frames := 0, cells := 0, slots := 0, locals := 0 } : Room).slots (s₁.setTop (entryFrame m #[(Value.ref a), (Value.ref b)] 4))
  refine own_cast (own_rmE_ef m a b ) ?_
  show own_G p e below s _ _ _ (s₁.setTop (mkF m 0 #[.val (Value.ref a), .val (Value.ref b), .unset, .unset] []))
  refine own_aloadN X0 hx hby own_d5_0 rfl rfl ?_
  show own_G p e below s _ _ _ (s₁.setTop (mkF m 1 #[.val (Value.ref a), .val (Value.ref b), .unset, .unset] [(Value.ref b)]))
  refine own_aloadN X0 hx hby own_d5_1 rfl rfl ?_
  show own_G p e below s _ _ _ (s₁.setTop (mkF m 2 #[.val (Value.ref a), .val (Value.ref b), .unset, .unset] [(Value.ref a), (Value.ref b)]))
  refine own_acmp_ne X0 hx hby rfl rfl own_d5_2 (pc' := 9) (by decide) (by decide) (fun hb1 => ?_) (fun hb1 => by exfalso; exact hne (Value.ref.inj hb1))
  show own_G p e below s _ _ _ (s₁.setTop (mkF m 9 #[.val (Value.ref a), .val (Value.ref b), .unset, .unset] []))
  refine own_iconst X0 hx hby own_d5_9 ?_
  show own_G p e below s _ _ _ (s₁.setTop (mkF m 10 #[.val (Value.ref a), .val (Value.ref b), .unset, .unset] [(Value.int (0 : Int32))]))
  refine own_istoreN X0 hx hby own_d5_10 (l' := #[.val (Value.ref a), .val (Value.ref b), .val (Value.int (0 : Int32)), .unset]) rfl ?_
  show own_G p e below s _ _ _ (s₁.setTop (mkF m 11 #[.val (Value.ref a), .val (Value.ref b), .val (Value.int (0 : Int32)), .unset] []))
  refine own_iloadN X0 hx hby own_d5_11 rfl ?_
  show own_G p e below s _ _ _ (s₁.setTop (mkF m 12 #[.val (Value.ref a), .val (Value.ref b), .val (Value.int (0 : Int32)), .unset] [(Value.int (0 : Int32))]))
  refine own_if_ne X0 hx hby own_d5_12 (pc' := 103) (by decide) (by decide) (fun hb2 => by exfalso; revert hb2; decide) (fun hb2 => ?_)
  show own_G p e below s _ _ _ (s₁.setTop (mkF m 15 #[.val (Value.ref a), .val (Value.ref b), .val (Value.int (0 : Int32)), .unset] []))
  refine own_aloadN X0 hx hby own_d5_15 rfl rfl ?_
  show own_G p e below s _ _ _ (s₁.setTop (mkF m 16 #[.val (Value.ref a), .val (Value.ref b), .val (Value.int (0 : Int32)), .unset] [(Value.ref b)]))
  obtain ⟨T3, X3, e3, st3⟩ := instY X0 hx hZ hown (own_w33 hw) e0 (Ins.self E_b) (g := (mkF m 16 #[.val (Value.ref a), .val (Value.ref b), .val (Value.int (0 : Int32)), .unset] [(Value.ref b)])) rfl rfl (hb hby own_d5_16)
  refine own_st st3 ?_
  show own_G p e below s _ _ _ (T3.setTop (mkF m 19 #[.val (Value.ref a), .val (Value.ref b), .val (Value.int (0 : Int32)), .unset] [(Value.int (1 : Int32))]))
  refine own_if_eq X3 hx hby own_d5_19 (pc' := 103) (by decide) (by decide) (fun hb4 => by exfalso; revert hb4; decide) (fun hb4 => ?_)
  show own_G p e below s _ _ _ (T3.setTop (mkF m 22 #[.val (Value.ref a), .val (Value.ref b), .val (Value.int (0 : Int32)), .unset] []))
  refine own_aloadN X3 hx hby own_d5_22 rfl rfl ?_
  show own_G p e below s _ _ _ (T3.setTop (mkF m 23 #[.val (Value.ref a), .val (Value.ref b), .val (Value.int (0 : Int32)), .unset] [(Value.ref b)]))
  obtain ⟨T5, X5, e5, st5⟩ := castY X3 hx hZ hown (own_w33 hw) e3 (Ins.self E_b) (g := (mkF m 23 #[.val (Value.ref a), .val (Value.ref b), .val (Value.int (0 : Int32)), .unset] [(Value.ref b)])) rfl rfl (hb hby own_d5_23)
  refine own_st st5 ?_
  show own_G p e below s _ _ _ (T5.setTop (mkF m 26 #[.val (Value.ref a), .val (Value.ref b), .val (Value.int (0 : Int32)), .unset] [(Value.ref b)]))
  refine own_astoreN X5 hx hby own_d5_26 rfl (l' := #[.val (Value.ref a), .val (Value.ref b), .val (Value.int (0 : Int32)), .val (Value.ref b)]) rfl ?_
  show own_G p e below s _ _ _ (T5.setTop (mkF m 27 #[.val (Value.ref a), .val (Value.ref b), .val (Value.int (0 : Int32)), .val (Value.ref b)] []))
  refine own_aloadN X5 hx hby own_d5_27 rfl rfl ?_
  show own_G p e below s _ _ _ (T5.setTop (mkF m 28 #[.val (Value.ref a), .val (Value.ref b), .val (Value.int (0 : Int32)), .val (Value.ref b)] [(Value.ref a)]))
  obtain ⟨T6, X6, e6, st6⟩ := getF X5 hx hZ hown (host := "") (Or.inl (own_w16 hw)) Via.refl e5 F_a_slotCount (g := (mkF m 28 #[.val (Value.ref a), .val (Value.ref b), .val (Value.int (0 : Int32)), .val (Value.ref b)] [(Value.ref a)])) rfl rfl (hb hby own_d5_28)
  refine own_st st6 ?_
  show own_G p e below s _ _ _ (T6.setTop (mkF m 31 #[.val (Value.ref a), .val (Value.ref b), .val (Value.int (0 : Int32)), .val (Value.ref b)] [(Value.int u0)]))
  refine own_aloadN X6 hx hby own_d5_31 rfl rfl ?_
  show own_G p e below s _ _ _ (T6.setTop (mkF m 32 #[.val (Value.ref a), .val (Value.ref b), .val (Value.int (0 : Int32)), .val (Value.ref b)] [(Value.ref b), (Value.int u0)]))
  obtain ⟨T7, X7, e7, st7⟩ := getF X6 hx hZ hown (host := "") (Or.inl (own_w16 hw)) Via.refl e6 F_b_slotCount (g := (mkF m 32 #[.val (Value.ref a), .val (Value.ref b), .val (Value.int (0 : Int32)), .val (Value.ref b)] [(Value.ref b), (Value.int u0)])) rfl rfl (hb hby own_d5_32)
  refine own_st st7 ?_
  show own_G p e below s _ _ _ (T7.setTop (mkF m 35 #[.val (Value.ref a), .val (Value.ref b), .val (Value.int (0 : Int32)), .val (Value.ref b)] [(Value.int v0), (Value.int u0)]))
  refine own_icmp_ne X7 hx hby own_d5_35 (pc' := 101) (by decide) (by decide) (fun hb8 => ?_) (fun hb8 => ?_)
  · show own_G p e below s _ _ _ (T7.setTop (mkF m 101 #[.val (Value.ref a), .val (Value.ref b), .val (Value.int (0 : Int32)), .val (Value.ref b)] []))
    refine own_iconst X7 hx hby own_d5_101 ?_
    show own_G p e below s _ _ _ (T7.setTop (mkF m 102 #[.val (Value.ref a), .val (Value.ref b), .val (Value.int (0 : Int32)), .val (Value.ref b)] [(Value.int (0 : Int32))]))
    refine own_istoreN X7 hx hby own_d5_102 (l' := #[.val (Value.ref a), .val (Value.ref b), .val (Value.int (0 : Int32)), .val (Value.ref b)]) rfl ?_
    show own_G p e below s _ _ _ (T7.setTop (mkF m 103 #[.val (Value.ref a), .val (Value.ref b), .val (Value.int (0 : Int32)), .val (Value.ref b)] []))
    refine own_iloadN X7 hx hby own_d5_103 rfl ?_
    show own_G p e below s _ _ _ (T7.setTop (mkF m 104 #[.val (Value.ref a), .val (Value.ref b), .val (Value.int (0 : Int32)), .val (Value.ref b)] [(Value.int (0 : Int32))]))
    refine own_retN X7 hx hby hlk (t := .boolean) Bd.returns (by simp) own_d5_104 (by decide) (by decide) ?_
    refine ⟨?_, e7, N0⟩
    show some (Value.int (0 : Int32)) = _
    simp only [own_hd, if_neg hb8]
  · show own_G p e below s _ _ _ (T7.setTop (mkF m 38 #[.val (Value.ref a), .val (Value.ref b), .val (Value.int (0 : Int32)), .val (Value.ref b)] []))
    refine own_aloadN X7 hx hby own_d5_38 rfl rfl ?_
    show own_G p e below s _ _ _ (T7.setTop (mkF m 39 #[.val (Value.ref a), .val (Value.ref b), .val (Value.int (0 : Int32)), .val (Value.ref b)] [(Value.ref a)]))
    obtain ⟨T9, X9, e9, st9⟩ := getF X7 hx hZ hown (host := "") (Or.inl (own_w18 hw)) Via.refl e7 F_a_count (g := (mkF m 39 #[.val (Value.ref a), .val (Value.ref b), .val (Value.int (0 : Int32)), .val (Value.ref b)] [(Value.ref a)])) rfl rfl (hb hby own_d5_39)
    refine own_st st9 ?_
    show own_G p e below s _ _ _ (T9.setTop (mkF m 42 #[.val (Value.ref a), .val (Value.ref b), .val (Value.int (0 : Int32)), .val (Value.ref b)] [(Value.int u1)]))
    refine own_aloadN X9 hx hby own_d5_42 rfl rfl ?_
    show own_G p e below s _ _ _ (T9.setTop (mkF m 43 #[.val (Value.ref a), .val (Value.ref b), .val (Value.int (0 : Int32)), .val (Value.ref b)] [(Value.ref b), (Value.int u1)]))
    obtain ⟨T10, X10, e10, st10⟩ := getF X9 hx hZ hown (host := "") (Or.inl (own_w18 hw)) Via.refl e9 F_b_count (g := (mkF m 43 #[.val (Value.ref a), .val (Value.ref b), .val (Value.int (0 : Int32)), .val (Value.ref b)] [(Value.ref b), (Value.int u1)])) rfl rfl (hb hby own_d5_43)
    refine own_st st10 ?_
    show own_G p e below s _ _ _ (T10.setTop (mkF m 46 #[.val (Value.ref a), .val (Value.ref b), .val (Value.int (0 : Int32)), .val (Value.ref b)] [(Value.int v1), (Value.int u1)]))
    refine own_icmp_ne X10 hx hby own_d5_46 (pc' := 101) (by decide) (by decide) (fun hb11 => ?_) (fun hb11 => ?_)
    · show own_G p e below s _ _ _ (T10.setTop (mkF m 101 #[.val (Value.ref a), .val (Value.ref b), .val (Value.int (0 : Int32)), .val (Value.ref b)] []))
      refine own_iconst X10 hx hby own_d5_101 ?_
      show own_G p e below s _ _ _ (T10.setTop (mkF m 102 #[.val (Value.ref a), .val (Value.ref b), .val (Value.int (0 : Int32)), .val (Value.ref b)] [(Value.int (0 : Int32))]))
      refine own_istoreN X10 hx hby own_d5_102 (l' := #[.val (Value.ref a), .val (Value.ref b), .val (Value.int (0 : Int32)), .val (Value.ref b)]) rfl ?_
      show own_G p e below s _ _ _ (T10.setTop (mkF m 103 #[.val (Value.ref a), .val (Value.ref b), .val (Value.int (0 : Int32)), .val (Value.ref b)] []))
      refine own_iloadN X10 hx hby own_d5_103 rfl ?_
      show own_G p e below s _ _ _ (T10.setTop (mkF m 104 #[.val (Value.ref a), .val (Value.ref b), .val (Value.int (0 : Int32)), .val (Value.ref b)] [(Value.int (0 : Int32))]))
      refine own_retN X10 hx hby hlk (t := .boolean) Bd.returns (by simp) own_d5_104 (by decide) (by decide) ?_
      refine ⟨?_, e10, N0⟩
      show some (Value.int (0 : Int32)) = _
      simp only [own_hd, if_pos hb8, if_neg hb11]
    · show own_G p e below s _ _ _ (T10.setTop (mkF m 49 #[.val (Value.ref a), .val (Value.ref b), .val (Value.int (0 : Int32)), .val (Value.ref b)] []))
      refine own_aloadN X10 hx hby own_d5_49 rfl rfl ?_
      show own_G p e below s _ _ _ (T10.setTop (mkF m 50 #[.val (Value.ref a), .val (Value.ref b), .val (Value.int (0 : Int32)), .val (Value.ref b)] [(Value.ref a)]))
      obtain ⟨T12, X12, e12, st12⟩ := getF X10 hx hZ hown (host := "") (Or.inl (own_w20 hw)) Via.refl e10 F_a_beginTime (g := (mkF m 50 #[.val (Value.ref a), .val (Value.ref b), .val (Value.int (0 : Int32)), .val (Value.ref b)] [(Value.ref a)])) rfl rfl (hb hby own_d5_50)
      refine own_st st12 ?_
      show own_G p e below s _ _ _ (T12.setTop (mkF m 53 #[.val (Value.ref a), .val (Value.ref b), .val (Value.int (0 : Int32)), .val (Value.ref b)] [(Value.long u2)]))
      refine own_aloadN X12 hx hby own_d5_53 rfl rfl ?_
      show own_G p e below s _ _ _ (T12.setTop (mkF m 54 #[.val (Value.ref a), .val (Value.ref b), .val (Value.int (0 : Int32)), .val (Value.ref b)] [(Value.ref b), (Value.long u2)]))
      obtain ⟨T13, X13, e13, st13⟩ := getF X12 hx hZ hown (host := "") (Or.inl (own_w20 hw)) Via.refl e12 F_b_beginTime (g := (mkF m 54 #[.val (Value.ref a), .val (Value.ref b), .val (Value.int (0 : Int32)), .val (Value.ref b)] [(Value.ref b), (Value.long u2)])) rfl rfl (hb hby own_d5_54)
      refine own_st st13 ?_
      show own_G p e below s _ _ _ (T13.setTop (mkF m 57 #[.val (Value.ref a), .val (Value.ref b), .val (Value.int (0 : Int32)), .val (Value.ref b)] [(Value.long v2), (Value.long u2)]))
      refine own_lcmp_ne X13 hx hby own_d5_57 own_d5_58 (pc' := 101) (by decide) (by decide) (fun hb14 => ?_) (fun hb14 => ?_)
      · show own_G p e below s _ _ _ (T13.setTop (mkF m 101 #[.val (Value.ref a), .val (Value.ref b), .val (Value.int (0 : Int32)), .val (Value.ref b)] []))
        refine own_iconst X13 hx hby own_d5_101 ?_
        show own_G p e below s _ _ _ (T13.setTop (mkF m 102 #[.val (Value.ref a), .val (Value.ref b), .val (Value.int (0 : Int32)), .val (Value.ref b)] [(Value.int (0 : Int32))]))
        refine own_istoreN X13 hx hby own_d5_102 (l' := #[.val (Value.ref a), .val (Value.ref b), .val (Value.int (0 : Int32)), .val (Value.ref b)]) rfl ?_
        show own_G p e below s _ _ _ (T13.setTop (mkF m 103 #[.val (Value.ref a), .val (Value.ref b), .val (Value.int (0 : Int32)), .val (Value.ref b)] []))
        refine own_iloadN X13 hx hby own_d5_103 rfl ?_
        show own_G p e below s _ _ _ (T13.setTop (mkF m 104 #[.val (Value.ref a), .val (Value.ref b), .val (Value.int (0 : Int32)), .val (Value.ref b)] [(Value.int (0 : Int32))]))
        refine own_retN X13 hx hby hlk (t := .boolean) Bd.returns (by simp) own_d5_104 (by decide) (by decide) ?_
        refine ⟨?_, e13, N0⟩
        show some (Value.int (0 : Int32)) = _
        simp only [own_hd, if_pos hb8, if_pos hb11, if_neg hb14]
      · show own_G p e below s _ _ _ (T13.setTop (mkF m 61 #[.val (Value.ref a), .val (Value.ref b), .val (Value.int (0 : Int32)), .val (Value.ref b)] []))
        refine own_aloadN X13 hx hby own_d5_61 rfl rfl ?_
        show own_G p e below s _ _ _ (T13.setTop (mkF m 62 #[.val (Value.ref a), .val (Value.ref b), .val (Value.int (0 : Int32)), .val (Value.ref b)] [(Value.ref a)]))
        obtain ⟨T15, X15, e15, st15⟩ := getF X13 hx hZ hown (host := "") (Or.inl (own_w22 hw)) Via.refl e13 F_a_endTime (g := (mkF m 62 #[.val (Value.ref a), .val (Value.ref b), .val (Value.int (0 : Int32)), .val (Value.ref b)] [(Value.ref a)])) rfl rfl (hb hby own_d5_62)
        refine own_st st15 ?_
        show own_G p e below s _ _ _ (T15.setTop (mkF m 65 #[.val (Value.ref a), .val (Value.ref b), .val (Value.int (0 : Int32)), .val (Value.ref b)] [(Value.long u3)]))
        refine own_aloadN X15 hx hby own_d5_65 rfl rfl ?_
        show own_G p e below s _ _ _ (T15.setTop (mkF m 66 #[.val (Value.ref a), .val (Value.ref b), .val (Value.int (0 : Int32)), .val (Value.ref b)] [(Value.ref b), (Value.long u3)]))
        obtain ⟨T16, X16, e16, st16⟩ := getF X15 hx hZ hown (host := "") (Or.inl (own_w22 hw)) Via.refl e15 F_b_endTime (g := (mkF m 66 #[.val (Value.ref a), .val (Value.ref b), .val (Value.int (0 : Int32)), .val (Value.ref b)] [(Value.ref b), (Value.long u3)])) rfl rfl (hb hby own_d5_66)
        refine own_st st16 ?_
        show own_G p e below s _ _ _ (T16.setTop (mkF m 69 #[.val (Value.ref a), .val (Value.ref b), .val (Value.int (0 : Int32)), .val (Value.ref b)] [(Value.long v3), (Value.long u3)]))
        refine own_lcmp_ne X16 hx hby own_d5_69 own_d5_70 (pc' := 101) (by decide) (by decide) (fun hb17 => ?_) (fun hb17 => ?_)
        · show own_G p e below s _ _ _ (T16.setTop (mkF m 101 #[.val (Value.ref a), .val (Value.ref b), .val (Value.int (0 : Int32)), .val (Value.ref b)] []))
          refine own_iconst X16 hx hby own_d5_101 ?_
          show own_G p e below s _ _ _ (T16.setTop (mkF m 102 #[.val (Value.ref a), .val (Value.ref b), .val (Value.int (0 : Int32)), .val (Value.ref b)] [(Value.int (0 : Int32))]))
          refine own_istoreN X16 hx hby own_d5_102 (l' := #[.val (Value.ref a), .val (Value.ref b), .val (Value.int (0 : Int32)), .val (Value.ref b)]) rfl ?_
          show own_G p e below s _ _ _ (T16.setTop (mkF m 103 #[.val (Value.ref a), .val (Value.ref b), .val (Value.int (0 : Int32)), .val (Value.ref b)] []))
          refine own_iloadN X16 hx hby own_d5_103 rfl ?_
          show own_G p e below s _ _ _ (T16.setTop (mkF m 104 #[.val (Value.ref a), .val (Value.ref b), .val (Value.int (0 : Int32)), .val (Value.ref b)] [(Value.int (0 : Int32))]))
          refine own_retN X16 hx hby hlk (t := .boolean) Bd.returns (by simp) own_d5_104 (by decide) (by decide) ?_
          refine ⟨?_, e16, N0⟩
          show some (Value.int (0 : Int32)) = _
          simp only [own_hd, if_pos hb8, if_pos hb11, if_pos hb14, if_neg hb17]
        · show own_G p e below s _ _ _ (T16.setTop (mkF m 73 #[.val (Value.ref a), .val (Value.ref b), .val (Value.int (0 : Int32)), .val (Value.ref b)] []))
          refine own_aloadN X16 hx hby own_d5_73 rfl rfl ?_
          show own_G p e below s _ _ _ (T16.setTop (mkF m 74 #[.val (Value.ref a), .val (Value.ref b), .val (Value.int (0 : Int32)), .val (Value.ref b)] [(Value.ref a)]))
          obtain ⟨T18, X18, e18, st18⟩ := getF X16 hx hZ hown (host := "") (Or.inl (own_w24 hw)) Via.refl e16 F_a_beginOffset (g := (mkF m 74 #[.val (Value.ref a), .val (Value.ref b), .val (Value.int (0 : Int32)), .val (Value.ref b)] [(Value.ref a)])) rfl rfl (hb hby own_d5_74)
          refine own_st st18 ?_
          show own_G p e below s _ _ _ (T18.setTop (mkF m 77 #[.val (Value.ref a), .val (Value.ref b), .val (Value.int (0 : Int32)), .val (Value.ref b)] [(Value.long u4)]))
          refine own_aloadN X18 hx hby own_d5_77 rfl rfl ?_
          show own_G p e below s _ _ _ (T18.setTop (mkF m 78 #[.val (Value.ref a), .val (Value.ref b), .val (Value.int (0 : Int32)), .val (Value.ref b)] [(Value.ref b), (Value.long u4)]))
          obtain ⟨T19, X19, e19, st19⟩ := getF X18 hx hZ hown (host := "") (Or.inl (own_w24 hw)) Via.refl e18 F_b_beginOffset (g := (mkF m 78 #[.val (Value.ref a), .val (Value.ref b), .val (Value.int (0 : Int32)), .val (Value.ref b)] [(Value.ref b), (Value.long u4)])) rfl rfl (hb hby own_d5_78)
          refine own_st st19 ?_
          show own_G p e below s _ _ _ (T19.setTop (mkF m 81 #[.val (Value.ref a), .val (Value.ref b), .val (Value.int (0 : Int32)), .val (Value.ref b)] [(Value.long v4), (Value.long u4)]))
          refine own_lcmp_ne X19 hx hby own_d5_81 own_d5_82 (pc' := 101) (by decide) (by decide) (fun hb20 => ?_) (fun hb20 => ?_)
          · show own_G p e below s _ _ _ (T19.setTop (mkF m 101 #[.val (Value.ref a), .val (Value.ref b), .val (Value.int (0 : Int32)), .val (Value.ref b)] []))
            refine own_iconst X19 hx hby own_d5_101 ?_
            show own_G p e below s _ _ _ (T19.setTop (mkF m 102 #[.val (Value.ref a), .val (Value.ref b), .val (Value.int (0 : Int32)), .val (Value.ref b)] [(Value.int (0 : Int32))]))
            refine own_istoreN X19 hx hby own_d5_102 (l' := #[.val (Value.ref a), .val (Value.ref b), .val (Value.int (0 : Int32)), .val (Value.ref b)]) rfl ?_
            show own_G p e below s _ _ _ (T19.setTop (mkF m 103 #[.val (Value.ref a), .val (Value.ref b), .val (Value.int (0 : Int32)), .val (Value.ref b)] []))
            refine own_iloadN X19 hx hby own_d5_103 rfl ?_
            show own_G p e below s _ _ _ (T19.setTop (mkF m 104 #[.val (Value.ref a), .val (Value.ref b), .val (Value.int (0 : Int32)), .val (Value.ref b)] [(Value.int (0 : Int32))]))
            refine own_retN X19 hx hby hlk (t := .boolean) Bd.returns (by simp) own_d5_104 (by decide) (by decide) ?_
            refine ⟨?_, e19, N0⟩
            show some (Value.int (0 : Int32)) = _
            simp only [own_hd, if_pos hb8, if_pos hb11, if_pos hb14, if_pos hb17, if_neg hb20]
          · show own_G p e below s _ _ _ (T19.setTop (mkF m 85 #[.val (Value.ref a), .val (Value.ref b), .val (Value.int (0 : Int32)), .val (Value.ref b)] []))
            refine own_aloadN X19 hx hby own_d5_85 rfl rfl ?_
            show own_G p e below s _ _ _ (T19.setTop (mkF m 86 #[.val (Value.ref a), .val (Value.ref b), .val (Value.int (0 : Int32)), .val (Value.ref b)] [(Value.ref a)]))
            obtain ⟨T21, X21, e21, st21⟩ := getF X19 hx hZ hown (host := "") (Or.inl (own_w26 hw)) Via.refl e19 F_a_endOffset (g := (mkF m 86 #[.val (Value.ref a), .val (Value.ref b), .val (Value.int (0 : Int32)), .val (Value.ref b)] [(Value.ref a)])) rfl rfl (hb hby own_d5_86)
            refine own_st st21 ?_
            show own_G p e below s _ _ _ (T21.setTop (mkF m 89 #[.val (Value.ref a), .val (Value.ref b), .val (Value.int (0 : Int32)), .val (Value.ref b)] [(Value.long u5)]))
            refine own_aloadN X21 hx hby own_d5_89 rfl rfl ?_
            show own_G p e below s _ _ _ (T21.setTop (mkF m 90 #[.val (Value.ref a), .val (Value.ref b), .val (Value.int (0 : Int32)), .val (Value.ref b)] [(Value.ref b), (Value.long u5)]))
            obtain ⟨T22, X22, e22, st22⟩ := getF X21 hx hZ hown (host := "") (Or.inl (own_w26 hw)) Via.refl e21 F_b_endOffset (g := (mkF m 90 #[.val (Value.ref a), .val (Value.ref b), .val (Value.int (0 : Int32)), .val (Value.ref b)] [(Value.ref b), (Value.long u5)])) rfl rfl (hb hby own_d5_90)
            refine own_st st22 ?_
            show own_G p e below s _ _ _ (T22.setTop (mkF m 93 #[.val (Value.ref a), .val (Value.ref b), .val (Value.int (0 : Int32)), .val (Value.ref b)] [(Value.long v5), (Value.long u5)]))
            refine own_lcmp_ne X22 hx hby own_d5_93 own_d5_94 (pc' := 101) (by decide) (by decide) (fun hb23 => ?_) (fun hb23 => ?_)
            · show own_G p e below s _ _ _ (T22.setTop (mkF m 101 #[.val (Value.ref a), .val (Value.ref b), .val (Value.int (0 : Int32)), .val (Value.ref b)] []))
              refine own_iconst X22 hx hby own_d5_101 ?_
              show own_G p e below s _ _ _ (T22.setTop (mkF m 102 #[.val (Value.ref a), .val (Value.ref b), .val (Value.int (0 : Int32)), .val (Value.ref b)] [(Value.int (0 : Int32))]))
              refine own_istoreN X22 hx hby own_d5_102 (l' := #[.val (Value.ref a), .val (Value.ref b), .val (Value.int (0 : Int32)), .val (Value.ref b)]) rfl ?_
              show own_G p e below s _ _ _ (T22.setTop (mkF m 103 #[.val (Value.ref a), .val (Value.ref b), .val (Value.int (0 : Int32)), .val (Value.ref b)] []))
              refine own_iloadN X22 hx hby own_d5_103 rfl ?_
              show own_G p e below s _ _ _ (T22.setTop (mkF m 104 #[.val (Value.ref a), .val (Value.ref b), .val (Value.int (0 : Int32)), .val (Value.ref b)] [(Value.int (0 : Int32))]))
              refine own_retN X22 hx hby hlk (t := .boolean) Bd.returns (by simp) own_d5_104 (by decide) (by decide) ?_
              refine ⟨?_, e22, N0⟩
              show some (Value.int (0 : Int32)) = _
              simp only [own_hd, if_pos hb8, if_pos hb11, if_pos hb14, if_pos hb17, if_pos hb20, if_neg hb23]
            · show own_G p e below s _ _ _ (T22.setTop (mkF m 97 #[.val (Value.ref a), .val (Value.ref b), .val (Value.int (0 : Int32)), .val (Value.ref b)] []))
              refine own_iconst X22 hx hby own_d5_97 ?_
              show own_G p e below s _ _ _ (T22.setTop (mkF m 98 #[.val (Value.ref a), .val (Value.ref b), .val (Value.int (0 : Int32)), .val (Value.ref b)] [(Value.int (1 : Int32))]))
              refine own_goto X22 hx hby own_d5_98 (pc' := 102) (by decide) (by decide) ?_
              show own_G p e below s _ _ _ (T22.setTop (mkF m 102 #[.val (Value.ref a), .val (Value.ref b), .val (Value.int (0 : Int32)), .val (Value.ref b)] [(Value.int (1 : Int32))]))
              refine own_istoreN X22 hx hby own_d5_102 (l' := #[.val (Value.ref a), .val (Value.ref b), .val (Value.int (1 : Int32)), .val (Value.ref b)]) rfl ?_
              show own_G p e below s _ _ _ (T22.setTop (mkF m 103 #[.val (Value.ref a), .val (Value.ref b), .val (Value.int (1 : Int32)), .val (Value.ref b)] []))
              refine own_iloadN X22 hx hby own_d5_103 rfl ?_
              show own_G p e below s _ _ _ (T22.setTop (mkF m 104 #[.val (Value.ref a), .val (Value.ref b), .val (Value.int (1 : Int32)), .val (Value.ref b)] [(Value.int (1 : Int32))]))
              refine own_retN X22 hx hby hlk (t := .boolean) Bd.returns (by simp) own_d5_104 (by decide) (by decide) ?_
              refine ⟨?_, e22, N0⟩
              show some (Value.int (1 : Int32)) = _
              simp only [own_hd, if_pos hb8, if_pos hb11, if_pos hb14, if_pos hb17, if_pos hb20, if_pos hb23]
def own_rmN_Q (Z : State) (a : Addr)  (h0 : Heap) (n0 : Nat) : Option Value → Heap → List Loc → Prop := fun v h L => v = some (Value.int (0 : Int32)) ∧ h = h0 ∧ Fr n0 L
theorem own_rmN_ef (m : MethodId) (a : Addr)  : entryFrame m #[(Value.ref a), Value.null] 4 = mkF m 0 #[.val (Value.ref a), .val Value.null, .unset, .unset] [] := by first | (simp [entryFrame, mkF, argsToLocals, Value.category]; done) | rfl
set_option maxRecDepth 65536 in
set_option maxHeartbeats 40000000 in
theorem own_rmN (l : Launch) (Z : State) (a0 : Array Value) (hw : ∀ d ∈ tables_1, d.before a0 Z = true) (ws : List Jvm.Cond) (a : Addr)  (h0 : Heap) (n0 : Nat) (O0 : Old Z n0 h0)  :
    MetFree l (⟨"com/example/iron_log/ironlog/index/IndexFile$Header", "equals", "(Ljava/lang/Object;)Z"⟩ : MethodName) (head1 (Jvm.Cond.code (⟨"com/example/iron_log/ironlog/index/IndexFile$Header", "equals", "(Ljava/lang/Object;)Z"⟩ : MethodName) prog_48_method_3_code 4 (some .boolean) :: ws) ({ frames := 0, cells := 0, slots := 0, locals := 0 } : Room)) (fun aa_ U => aa_ = #[(Value.ref a), Value.null] ∧ Z.Warmed39 U.vm ∧ U.heap = h0) (fun _ _ _ _ _ => True) (fun _ UU_ oo_ UX_ => ∃ vv_ LL_, oo_ = .returned vv_ ∧ (own_rmN_Q Z a h0 n0) vv_ UX_.heap LL_ ∧ FrameEnd UU_ oo_ UX_ LL_ ({ frames := 0, cells := 0, slots := 0, locals := 0 } : Room).cells ({ frames := 0, cells := 0, slots := 0, locals := 0 } : Room).slots) := by
  refine MetFree.of_bodySF (plainFor_of_name own_pn1) hisR ?_
  intro p e s m args below meth c s₁ Bd hml0 hP hK
  obtain ⟨rfl, hZ, hh⟩ := hP
  have hx := Bd.exec
  have hby := Bd.bytes
  have hml : c.maxLocals = 4 := hml0
  have hown : s.vm.findClass "com/example/iron_log/ironlog/index/IndexFile$Header" = some m.cls := findClass_of_methodNamed Bd.named
  have hnm := (name_of_methodNamed Bd.named Bd.method).1
  have hlk : meth.locks = false := BodyLoose.notSynchronized Bd
  have X0 : Stand p l e ({ frames := 0, cells := 0, slots := 0, locals := 0 } : Room) s m #[(Value.ref a), Value.null] below meth c s₁ [] 0 0 := Stand.of_body Bd
  have e0 : s₁.heap = h0 := by rw [← hh, Bd.state]; rfl
  have N0 := Fr.nil n0
  show own_G p e below s (own_rmN_Q Z a h0 n0) ({ frames := 0, cells := 0, slots := 0, locals := 0 } : Room).cells ({ frames := 0, cells := 0, slots := 0, locals := 0 } : Room).slots (s₁.setTop (entryFrame m #[(Value.ref a), Value.null] 4))
  refine own_cast (own_rmN_ef m a ) ?_
  show own_G p e below s _ _ _ (s₁.setTop (mkF m 0 #[.val (Value.ref a), .val Value.null, .unset, .unset] []))
  refine own_aloadN X0 hx hby own_d5_0 rfl rfl ?_
  show own_G p e below s _ _ _ (s₁.setTop (mkF m 1 #[.val (Value.ref a), .val Value.null, .unset, .unset] [Value.null]))
  refine own_aloadN X0 hx hby own_d5_1 rfl rfl ?_
  show own_G p e below s _ _ _ (s₁.setTop (mkF m 2 #[.val (Value.ref a), .val Value.null, .unset, .unset] [(Value.ref a), Value.null]))
  refine own_acmp_ne X0 hx hby rfl rfl own_d5_2 (pc' := 9) (by decide) (by decide) (fun hb1 => ?_) (fun hb1 => by exfalso; cases hb1)
  show own_G p e below s _ _ _ (s₁.setTop (mkF m 9 #[.val (Value.ref a), .val Value.null, .unset, .unset] []))
  refine own_iconst X0 hx hby own_d5_9 ?_
  show own_G p e below s _ _ _ (s₁.setTop (mkF m 10 #[.val (Value.ref a), .val Value.null, .unset, .unset] [(Value.int (0 : Int32))]))
  refine own_istoreN X0 hx hby own_d5_10 (l' := #[.val (Value.ref a), .val Value.null, .val (Value.int (0 : Int32)), .unset]) rfl ?_
  show own_G p e below s _ _ _ (s₁.setTop (mkF m 11 #[.val (Value.ref a), .val Value.null, .val (Value.int (0 : Int32)), .unset] []))
  refine own_iloadN X0 hx hby own_d5_11 rfl ?_
  show own_G p e below s _ _ _ (s₁.setTop (mkF m 12 #[.val (Value.ref a), .val Value.null, .val (Value.int (0 : Int32)), .unset] [(Value.int (0 : Int32))]))
  refine own_if_ne X0 hx hby own_d5_12 (pc' := 103) (by decide) (by decide) (fun hb2 => by exfalso; revert hb2; decide) (fun hb2 => ?_)
  show own_G p e below s _ _ _ (s₁.setTop (mkF m 15 #[.val (Value.ref a), .val Value.null, .val (Value.int (0 : Int32)), .unset] []))
  refine own_aloadN X0 hx hby own_d5_15 rfl rfl ?_
  show own_G p e below s _ _ _ (s₁.setTop (mkF m 16 #[.val (Value.ref a), .val Value.null, .val (Value.int (0 : Int32)), .unset] [Value.null]))
  refine own_instNull X0 hx hby own_d5_16 ?_
  show own_G p e below s _ _ _ (s₁.setTop (mkF m 19 #[.val (Value.ref a), .val Value.null, .val (Value.int (0 : Int32)), .unset] [(Value.int (0 : Int32))]))
  refine own_if_eq X0 hx hby own_d5_19 (pc' := 103) (by decide) (by decide) (fun hb3 => ?_) (fun hb3 => by exfalso; revert hb3; decide)
  show own_G p e below s _ _ _ (s₁.setTop (mkF m 103 #[.val (Value.ref a), .val Value.null, .val (Value.int (0 : Int32)), .unset] []))
  refine own_iloadN X0 hx hby own_d5_103 rfl ?_
  show own_G p e below s _ _ _ (s₁.setTop (mkF m 104 #[.val (Value.ref a), .val Value.null, .val (Value.int (0 : Int32)), .unset] [(Value.int (0 : Int32))]))
  refine own_retN X0 hx hby hlk (t := .boolean) Bd.returns (by simp) own_d5_104 (by decide) (by decide) ?_
  refine ⟨?_, e0, N0⟩
  show some (Value.int (0 : Int32)) = _
  rfl
def own_rmL_Q (Z : State) (a : Addr) (b : Addr)  (h0 : Heap) (n0 : Nat) : Option Value → Heap → List Loc → Prop := fun v h L => v = some (Value.int (0 : Int32)) ∧ h = h0 ∧ Fr n0 L
theorem own_rmL_ef (m : MethodId) (a : Addr) (b : Addr)  : entryFrame m #[(Value.ref a), (Value.ref b)] 4 = mkF m 0 #[.val (Value.ref a), .val (Value.ref b), .unset, .unset] [] := by first | (simp [entryFrame, mkF, argsToLocals, Value.category]; done) | rfl
set_option maxRecDepth 65536 in
set_option maxHeartbeats 40000000 in
theorem own_rmL (l : Launch) (Z : State) (a0 : Array Value) (hw : ∀ d ∈ tables_1, d.before a0 Z = true) (ws : List Jvm.Cond) (a : Addr) (b : Addr)  (h0 : Heap) (n0 : Nat) (O0 : Old Z n0 h0) (E_b : Exa Z h0 b "java/lang/Integer") (hne : b ≠ a) :
    MetFree l (⟨"com/example/iron_log/ironlog/index/IndexFile$Header", "equals", "(Ljava/lang/Object;)Z"⟩ : MethodName) (head1 (Jvm.Cond.code (⟨"com/example/iron_log/ironlog/index/IndexFile$Header", "equals", "(Ljava/lang/Object;)Z"⟩ : MethodName) prog_48_method_3_code 4 (some .boolean) :: ws) ({ frames := 0, cells := 0, slots := 0, locals := 0 } : Room)) (fun aa_ U => aa_ = #[(Value.ref a), (Value.ref b)] ∧ Z.Warmed39 U.vm ∧ U.heap = h0) (fun _ _ _ _ _ => True) (fun _ UU_ oo_ UX_ => ∃ vv_ LL_, oo_ = .returned vv_ ∧ (own_rmL_Q Z a b h0 n0) vv_ UX_.heap LL_ ∧ FrameEnd UU_ oo_ UX_ LL_ ({ frames := 0, cells := 0, slots := 0, locals := 0 } : Room).cells ({ frames := 0, cells := 0, slots := 0, locals := 0 } : Room).slots) := by
  refine MetFree.of_bodySF (plainFor_of_name own_pn1) hisR ?_
  intro p e s m args below meth c s₁ Bd hml0 hP hK
  obtain ⟨rfl, hZ, hh⟩ := hP
  have hx := Bd.exec
  have hby := Bd.bytes
  have hml : c.maxLocals = 4 := hml0
  have hown : s.vm.findClass "com/example/iron_log/ironlog/index/IndexFile$Header" = some m.cls := findClass_of_methodNamed Bd.named
  have hnm := (name_of_methodNamed Bd.named Bd.method).1
  have hlk : meth.locks = false := BodyLoose.notSynchronized Bd
  have X0 : Stand p l e ({ frames := 0, cells := 0, slots := 0, locals := 0 } : Room) s m #[(Value.ref a), (Value.ref b)] below meth c s₁ [] 0 0 := Stand.of_body Bd
  have e0 : s₁.heap = h0 := by rw [← hh, Bd.state]; rfl
  have N0 := Fr.nil n0
  show own_G p e below s (own_rmL_Q Z a b h0 n0) ({ frames := 0, cells := 0, slots := 0, locals := 0 } : Room).cells ({ frames := 0, cells := 0, slots := 0, locals := 0 } : Room).slots (s₁.setTop (entryFrame m #[(Value.ref a), (Value.ref b)] 4))
  refine own_cast (own_rmL_ef m a b ) ?_
  show own_G p e below s _ _ _ (s₁.setTop (mkF m 0 #[.val (Value.ref a), .val (Value.ref b), .unset, .unset] []))
  refine own_aloadN X0 hx hby own_d5_0 rfl rfl ?_
  show own_G p e below s _ _ _ (s₁.setTop (mkF m 1 #[.val (Value.ref a), .val (Value.ref b), .unset, .unset] [(Value.ref b)]))
  refine own_aloadN X0 hx hby own_d5_1 rfl rfl ?_
  show own_G p e below s _ _ _ (s₁.setTop (mkF m 2 #[.val (Value.ref a), .val (Value.ref b), .unset, .unset] [(Value.ref a), (Value.ref b)]))
  refine own_acmp_ne X0 hx hby rfl rfl own_d5_2 (pc' := 9) (by decide) (by decide) (fun hb1 => ?_) (fun hb1 => by exfalso; exact hne (Value.ref.inj hb1))
  show own_G p e below s _ _ _ (s₁.setTop (mkF m 9 #[.val (Value.ref a), .val (Value.ref b), .unset, .unset] []))
  refine own_iconst X0 hx hby own_d5_9 ?_
  show own_G p e below s _ _ _ (s₁.setTop (mkF m 10 #[.val (Value.ref a), .val (Value.ref b), .unset, .unset] [(Value.int (0 : Int32))]))
  refine own_istoreN X0 hx hby own_d5_10 (l' := #[.val (Value.ref a), .val (Value.ref b), .val (Value.int (0 : Int32)), .unset]) rfl ?_
  show own_G p e below s _ _ _ (s₁.setTop (mkF m 11 #[.val (Value.ref a), .val (Value.ref b), .val (Value.int (0 : Int32)), .unset] []))
  refine own_iloadN X0 hx hby own_d5_11 rfl ?_
  show own_G p e below s _ _ _ (s₁.setTop (mkF m 12 #[.val (Value.ref a), .val (Value.ref b), .val (Value.int (0 : Int32)), .unset] [(Value.int (0 : Int32))]))
  refine own_if_ne X0 hx hby own_d5_12 (pc' := 103) (by decide) (by decide) (fun hb2 => by exfalso; revert hb2; decide) (fun hb2 => ?_)
  show own_G p e below s _ _ _ (s₁.setTop (mkF m 15 #[.val (Value.ref a), .val (Value.ref b), .val (Value.int (0 : Int32)), .unset] []))
  refine own_aloadN X0 hx hby own_d5_15 rfl rfl ?_
  show own_G p e below s _ _ _ (s₁.setTop (mkF m 16 #[.val (Value.ref a), .val (Value.ref b), .val (Value.int (0 : Int32)), .unset] [(Value.ref b)]))
  obtain ⟨T3, X3, e3, st3⟩ := instNo X0 hx hZ hown (own_w33 hw) e0 E_b (own_NSno (own_w42 hw) (own_w8 hw) (NS.step (own_w42 hw) (NS.step (own_w43 hw) (own_NSroot (own_w44 hw) (own_w8 hw) (by decide)) (by decide)) (by decide)) (by decide)) (g := (mkF m 16 #[.val (Value.ref a), .val (Value.ref b), .val (Value.int (0 : Int32)), .unset] [(Value.ref b)])) rfl rfl (hb hby own_d5_16)
  refine own_st st3 ?_
  show own_G p e below s _ _ _ (T3.setTop (mkF m 19 #[.val (Value.ref a), .val (Value.ref b), .val (Value.int (0 : Int32)), .unset] [(Value.int (0 : Int32))]))
  refine own_if_eq X3 hx hby own_d5_19 (pc' := 103) (by decide) (by decide) (fun hb4 => ?_) (fun hb4 => by exfalso; revert hb4; decide)
  show own_G p e below s _ _ _ (T3.setTop (mkF m 103 #[.val (Value.ref a), .val (Value.ref b), .val (Value.int (0 : Int32)), .unset] []))
  refine own_iloadN X3 hx hby own_d5_103 rfl ?_
  show own_G p e below s _ _ _ (T3.setTop (mkF m 104 #[.val (Value.ref a), .val (Value.ref b), .val (Value.int (0 : Int32)), .unset] [(Value.int (0 : Int32))]))
  refine own_retN X3 hx hby hlk (t := .boolean) Bd.returns (by simp) own_d5_104 (by decide) (by decide) ?_
  refine ⟨?_, e3, N0⟩
  show some (Value.int (0 : Int32)) = _
  rfl
def own_rmS_Q (Z : State) (a : Addr)  (h0 : Heap) (n0 : Nat) : Option Value → Heap → List Loc → Prop := fun v h L => v = some (Value.int (1 : Int32)) ∧ h = h0 ∧ Fr n0 L
theorem own_rmS_ef (m : MethodId) (a : Addr)  : entryFrame m #[(Value.ref a), (Value.ref a)] 4 = mkF m 0 #[.val (Value.ref a), .val (Value.ref a), .unset, .unset] [] := by first | (simp [entryFrame, mkF, argsToLocals, Value.category]; done) | rfl
set_option maxRecDepth 65536 in
set_option maxHeartbeats 40000000 in
theorem own_rmS (l : Launch) (Z : State) (a0 : Array Value) (hw : ∀ d ∈ tables_1, d.before a0 Z = true) (ws : List Jvm.Cond) (a : Addr)  (h0 : Heap) (n0 : Nat) (O0 : Old Z n0 h0)  :
    MetFree l (⟨"com/example/iron_log/ironlog/index/IndexFile$Header", "equals", "(Ljava/lang/Object;)Z"⟩ : MethodName) (head1 (Jvm.Cond.code (⟨"com/example/iron_log/ironlog/index/IndexFile$Header", "equals", "(Ljava/lang/Object;)Z"⟩ : MethodName) prog_48_method_3_code 4 (some .boolean) :: ws) ({ frames := 0, cells := 0, slots := 0, locals := 0 } : Room)) (fun aa_ U => aa_ = #[(Value.ref a), (Value.ref a)] ∧ Z.Warmed39 U.vm ∧ U.heap = h0) (fun _ _ _ _ _ => True) (fun _ UU_ oo_ UX_ => ∃ vv_ LL_, oo_ = .returned vv_ ∧ (own_rmS_Q Z a h0 n0) vv_ UX_.heap LL_ ∧ FrameEnd UU_ oo_ UX_ LL_ ({ frames := 0, cells := 0, slots := 0, locals := 0 } : Room).cells ({ frames := 0, cells := 0, slots := 0, locals := 0 } : Room).slots) := by
  refine MetFree.of_bodySF (plainFor_of_name own_pn1) hisR ?_
  intro p e s m args below meth c s₁ Bd hml0 hP hK
  obtain ⟨rfl, hZ, hh⟩ := hP
  have hx := Bd.exec
  have hby := Bd.bytes
  have hml : c.maxLocals = 4 := hml0
  have hown : s.vm.findClass "com/example/iron_log/ironlog/index/IndexFile$Header" = some m.cls := findClass_of_methodNamed Bd.named
  have hnm := (name_of_methodNamed Bd.named Bd.method).1
  have hlk : meth.locks = false := BodyLoose.notSynchronized Bd
  have X0 : Stand p l e ({ frames := 0, cells := 0, slots := 0, locals := 0 } : Room) s m #[(Value.ref a), (Value.ref a)] below meth c s₁ [] 0 0 := Stand.of_body Bd
  have e0 : s₁.heap = h0 := by rw [← hh, Bd.state]; rfl
  have N0 := Fr.nil n0
  show own_G p e below s (own_rmS_Q Z a h0 n0) ({ frames := 0, cells := 0, slots := 0, locals := 0 } : Room).cells ({ frames := 0, cells := 0, slots := 0, locals := 0 } : Room).slots (s₁.setTop (entryFrame m #[(Value.ref a), (Value.ref a)] 4))
  refine own_cast (own_rmS_ef m a ) ?_
  show own_G p e below s _ _ _ (s₁.setTop (mkF m 0 #[.val (Value.ref a), .val (Value.ref a), .unset, .unset] []))
  refine own_aloadN X0 hx hby own_d5_0 rfl rfl ?_
  show own_G p e below s _ _ _ (s₁.setTop (mkF m 1 #[.val (Value.ref a), .val (Value.ref a), .unset, .unset] [(Value.ref a)]))
  refine own_aloadN X0 hx hby own_d5_1 rfl rfl ?_
  show own_G p e below s _ _ _ (s₁.setTop (mkF m 2 #[.val (Value.ref a), .val (Value.ref a), .unset, .unset] [(Value.ref a), (Value.ref a)]))
  refine own_acmp_ne X0 hx hby rfl rfl own_d5_2 (pc' := 9) (by decide) (by decide) (fun hb1 => by exfalso; exact hb1 rfl) (fun hb1 => ?_)
  show own_G p e below s _ _ _ (s₁.setTop (mkF m 5 #[.val (Value.ref a), .val (Value.ref a), .unset, .unset] []))
  refine own_iconst X0 hx hby own_d5_5 ?_
  show own_G p e below s _ _ _ (s₁.setTop (mkF m 6 #[.val (Value.ref a), .val (Value.ref a), .unset, .unset] [(Value.int (1 : Int32))]))
  refine own_goto X0 hx hby own_d5_6 (pc' := 10) (by decide) (by decide) ?_
  show own_G p e below s _ _ _ (s₁.setTop (mkF m 10 #[.val (Value.ref a), .val (Value.ref a), .unset, .unset] [(Value.int (1 : Int32))]))
  refine own_istoreN X0 hx hby own_d5_10 (l' := #[.val (Value.ref a), .val (Value.ref a), .val (Value.int (1 : Int32)), .unset]) rfl ?_
  show own_G p e below s _ _ _ (s₁.setTop (mkF m 11 #[.val (Value.ref a), .val (Value.ref a), .val (Value.int (1 : Int32)), .unset] []))
  refine own_iloadN X0 hx hby own_d5_11 rfl ?_
  show own_G p e below s _ _ _ (s₁.setTop (mkF m 12 #[.val (Value.ref a), .val (Value.ref a), .val (Value.int (1 : Int32)), .unset] [(Value.int (1 : Int32))]))
  refine own_if_ne X0 hx hby own_d5_12 (pc' := 103) (by decide) (by decide) (fun hb2 => ?_) (fun hb2 => by exfalso; revert hb2; decide)
  show own_G p e below s _ _ _ (s₁.setTop (mkF m 103 #[.val (Value.ref a), .val (Value.ref a), .val (Value.int (1 : Int32)), .unset] []))
  refine own_iloadN X0 hx hby own_d5_103 rfl ?_
  show own_G p e below s _ _ _ (s₁.setTop (mkF m 104 #[.val (Value.ref a), .val (Value.ref a), .val (Value.int (1 : Int32)), .unset] [(Value.int (1 : Int32))]))
  refine own_retN X0 hx hby hlk (t := .boolean) Bd.returns (by simp) own_d5_104 (by decide) (by decide) ?_
  refine ⟨?_, e0, N0⟩
  show some (Value.int (1 : Int32)) = _
  rfl
def own_rm0_Q (Z : State) (x0 : Int32) (x1 : Int32) (x2 : Int64) (x3 : Int64) (x4 : Int64) (x5 : Int32) (arr : Addr) (f : Nat → Value) (h0 : Heap) (n0 : Nat) : Option Value → Heap → List Loc → Prop := fun v h L => v = some (.int 1) ∧ Fr n0 L
theorem own_rm0_ef (m : MethodId) (x0 : Int32) (x1 : Int32) (x2 : Int64) (x3 : Int64) (x4 : Int64) (x5 : Int32)  : entryFrame m #[(Value.int x0), (Value.int x1), (Value.long x2), (Value.long x3), (Value.long x4), (Value.int x5)] maxLocals = mkF m 0 #[.val (Value.int x0), .val (Value.int x1), .val (Value.long x2), .second, .val (Value.long x3), .second, .val (Value.long x4), .second, .val (Value.int x5), .unset, .unset, .unset, .unset, .unset, .unset, .unset, .unset, .unset, .unset, .unset, .unset, .unset, .unset, .unset, .unset, .unset, .unset, .unset, .unset, .unset, .unset, .unset, .unset, .unset, .unset] [] := by first | (simp [entryFrame, mkF, argsToLocals, Value.category, maxLocals]; done) | rfl
set_option maxRecDepth 65536 in
set_option maxHeartbeats 40000000 in
theorem own_rm0 (l : Launch) (Z : State) (a0 : Array Value) (hw : ∀ d ∈ tables_1, d.before a0 Z = true) (ws : List Jvm.Cond) (x0 : Int32) (x1 : Int32) (x2 : Int64) (x3 : Int64) (x4 : Int64) (x5 : Int32) (arr : Addr) (f : Nat → Value) (h0 : Heap) (n0 : Nat) (O0 : Old Z n0 h0) (hC : own_Ca Z "java/lang/Integer" "java/lang/Integer$IntegerCache" "[Ljava/lang/Integer;" arr f) (hH : Sta Z Z.heap "java/lang/Integer$IntegerCache" "high" "I" (.int 127)) :
    MetFree l x (head1 (Jvm.Cond.code x code maxLocals ret :: ws) room_1) (fun aa_ U => aa_ = #[(Value.int x0), (Value.int x1), (Value.long x2), (Value.long x3), (Value.long x4), (Value.int x5)] ∧ Z.Warmed39 U.vm ∧ U.heap = h0) (fun _ _ _ _ _ => True) (fun _ UU_ oo_ UX_ => ∃ vv_ LL_, oo_ = .returned vv_ ∧ (own_rm0_Q Z x0 x1 x2 x3 x4 x5 arr f h0 n0) vv_ UX_.heap LL_ ∧ FrameEnd UU_ oo_ UX_ LL_ 16 128) := by
  refine MetFree.of_bodySF (plainFor_of_name own_pn0) hisR ?_
  intro p e s m args below meth c s₁ Bd hml0 hP hK
  obtain ⟨rfl, hZ, hh⟩ := hP
  have hx := Bd.exec
  have hby := Bd.bytes
  have hml : c.maxLocals = 35 := hml0
  have hown : s.vm.findClass "com/example/iron_log/ironlog/index/HeaderEqualsPinLaw" = some m.cls := findClass_of_methodNamed Bd.named
  have hnm := (name_of_methodNamed Bd.named Bd.method).1
  have hlk : meth.locks = false := BodyLoose.notSynchronized Bd
  have X0 : Stand p l e room_1 s m #[(Value.int x0), (Value.int x1), (Value.long x2), (Value.long x3), (Value.long x4), (Value.int x5)] below meth c s₁ [] 0 0 := Stand.of_body Bd
  have e0 : s₁.heap = h0 := by rw [← hh, Bd.state]; rfl
  have N0 := Fr.nil n0
  show own_G p e below s (own_rm0_Q Z x0 x1 x2 x3 x4 x5 arr f h0 n0) 16 128 (s₁.setTop (entryFrame m #[(Value.int x0), (Value.int x1), (Value.long x2), (Value.long x3), (Value.long x4), (Value.int x5)] maxLocals))
  refine own_cast (own_rm0_ef m x0 x1 x2 x3 x4 x5 ) ?_
  show own_G p e below s _ _ _ (s₁.setTop (mkF m 0 #[.val (Value.int x0), .val (Value.int x1), .val (Value.long x2), .second, .val (Value.long x3), .second, .val (Value.long x4), .second, .val (Value.int x5), .unset, .unset, .unset, .unset, .unset, .unset, .unset, .unset, .unset, .unset, .unset, .unset, .unset, .unset, .unset, .unset, .unset, .unset, .unset, .unset, .unset, .unset, .unset, .unset, .unset, .unset] []))
  refine own_iload X0 hx hby at_0 rfl ?_
  show own_G p e below s _ _ _ (s₁.setTop (mkF m 2 #[.val (Value.int x0), .val (Value.int x1), .val (Value.long x2), .second, .val (Value.long x3), .second, .val (Value.long x4), .second, .val (Value.int x5), .unset, .unset, .unset, .unset, .unset, .unset, .unset, .unset, .unset, .unset, .unset, .unset, .unset, .unset, .unset, .unset, .unset, .unset, .unset, .unset, .unset, .unset, .unset, .unset, .unset, .unset] [(Value.int x5)]))
  refine own_iconst X0 hx hby at_2 ?_
  show own_G p e below s _ _ _ (s₁.setTop (mkF m 3 #[.val (Value.int x0), .val (Value.int x1), .val (Value.long x2), .second, .val (Value.long x3), .second, .val (Value.long x4), .second, .val (Value.int x5), .unset, .unset, .unset, .unset, .unset, .unset, .unset, .unset, .unset, .unset, .unset, .unset, .unset, .unset, .unset, .unset, .unset, .unset, .unset, .unset, .unset, .unset, .unset, .unset, .unset, .unset] [(Value.int (0 : Int32)), (Value.int x5)]))
  refine own_iloadN X0 hx hby at_3 rfl ?_
  show own_G p e below s _ _ _ (s₁.setTop (mkF m 4 #[.val (Value.int x0), .val (Value.int x1), .val (Value.long x2), .second, .val (Value.long x3), .second, .val (Value.long x4), .second, .val (Value.int x5), .unset, .unset, .unset, .unset, .unset, .unset, .unset, .unset, .unset, .unset, .unset, .unset, .unset, .unset, .unset, .unset, .unset, .unset, .unset, .unset, .unset, .unset, .unset, .unset, .unset, .unset] [(Value.int x0), (Value.int (0 : Int32)), (Value.int x5)]))
  refine own_iloadN X0 hx hby at_4 rfl ?_
  show own_G p e below s _ _ _ (s₁.setTop (mkF m 5 #[.val (Value.int x0), .val (Value.int x1), .val (Value.long x2), .second, .val (Value.long x3), .second, .val (Value.long x4), .second, .val (Value.int x5), .unset, .unset, .unset, .unset, .unset, .unset, .unset, .unset, .unset, .unset, .unset, .unset, .unset, .unset, .unset, .unset, .unset, .unset, .unset, .unset, .unset, .unset, .unset, .unset, .unset, .unset] [(Value.int x1), (Value.int x0), (Value.int (0 : Int32)), (Value.int x5)]))
  obtain ⟨_, _, ⟨T1, L1, k1, n1⟩, -, X1, ⟨Lc1, hQ1, l1, y1, z1⟩, st1⟩ := Jvm.LawKit.callS X0 hx (y := (⟨"com/example/iron_log/ironlog/index/HeaderEqualsPinLaw", "pickInt", "(IIII)I"⟩ : MethodName)) hown (mvT hZ (own_w0 hw)) (mvT hZ (own_w1 hw)) (mvT hZ (own_w2 hw)) (mvT hZ (own_w3 hw)) (by decide) (backOf (W := 0) (own_rm1 l Z a0 hw [] x5 (0 : Int32) x0 x1  h0 n0 O0  ) hZ (own_w3 hw) (own_w2 hw) (by decide) (by decide)) (g := (mkF m 5 #[.val (Value.int x0), .val (Value.int x1), .val (Value.long x2), .second, .val (Value.long x3), .second, .val (Value.long x4), .second, .val (Value.int x5), .unset, .unset, .unset, .unset, .unset, .unset, .unset, .unset, .unset, .unset, .unset, .unset, .unset, .unset, .unset, .unset, .unset, .unset, .unset, .unset, .unset, .unset, .unset, .unset, .unset, .unset] [(Value.int x1), (Value.int x0), (Value.int (0 : Int32)), (Value.int x5)])) rfl (by rw [hml]; rfl) (argsL := [(Value.int x5), (Value.int (0 : Int32)), (Value.int x0), (Value.int x1)]) (rest := []) (lenOf own_pd2 rfl) rfl (by show 2 * 0 + _ ≤ _; exact Nat.le_of_eq rfl) (hb hby at_5) (fun _ _ => ⟨rfl, e0, (by decide : (0 : Nat) + 0 ≤ _), (by decide : (0 : Nat) + 0 ≤ _)⟩)
  dsimp only [Pt.U, Pt.locs, Pt.cells, Pt.slots] at X1 l1 y1 z1 st1 hQ1
  subst l1 y1 z1
  obtain ⟨rfl, e1, Nq1⟩ := hQ1
  have N1 := Fr.app N0 Nq1
  refine own_st st1 ?_
  show own_G p e below s _ _ _ (T1.setTop (mkF m 8 #[.val (Value.int x0), .val (Value.int x1), .val (Value.long x2), .second, .val (Value.long x3), .second, .val (Value.long x4), .second, .val (Value.int x5), .unset, .unset, .unset, .unset, .unset, .unset, .unset, .unset, .unset, .unset, .unset, .unset, .unset, .unset, .unset, .unset, .unset, .unset, .unset, .unset, .unset, .unset, .unset, .unset, .unset, .unset] [(Value.int (own_pi x5 (0 : Int32) x0 x1))]))
  refine own_istore X1 hx hby at_8 (l' := #[.val (Value.int x0), .val (Value.int x1), .val (Value.long x2), .second, .val (Value.long x3), .second, .val (Value.long x4), .second, .val (Value.int x5), .val (Value.int (own_pi x5 (0 : Int32) x0 x1)), .unset, .unset, .unset, .unset, .unset, .unset, .unset, .unset, .unset, .unset, .unset, .unset, .unset, .unset, .unset, .unset, .unset, .unset, .unset, .unset, .unset, .unset, .unset, .unset, .unset]) rfl ?_
  show own_G p e below s _ _ _ (T1.setTop (mkF m 10 #[.val (Value.int x0), .val (Value.int x1), .val (Value.long x2), .second, .val (Value.long x3), .second, .val (Value.long x4), .second, .val (Value.int x5), .val (Value.int (own_pi x5 (0 : Int32) x0 x1)), .unset, .unset, .unset, .unset, .unset, .unset, .unset, .unset, .unset, .unset, .unset, .unset, .unset, .unset, .unset, .unset, .unset, .unset, .unset, .unset, .unset, .unset, .unset, .unset, .unset] []))
  refine own_iload X1 hx hby at_10 rfl ?_
  show own_G p e below s _ _ _ (T1.setTop (mkF m 12 #[.val (Value.int x0), .val (Value.int x1), .val (Value.long x2), .second, .val (Value.long x3), .second, .val (Value.long x4), .second, .val (Value.int x5), .val (Value.int (own_pi x5 (0 : Int32) x0 x1)), .unset, .unset, .unset, .unset, .unset, .unset, .unset, .unset, .unset, .unset, .unset, .unset, .unset, .unset, .unset, .unset, .unset, .unset, .unset, .unset, .unset, .unset, .unset, .unset, .unset] [(Value.int x5)]))
  refine own_iconst X1 hx hby at_12 ?_
  show own_G p e below s _ _ _ (T1.setTop (mkF m 13 #[.val (Value.int x0), .val (Value.int x1), .val (Value.long x2), .second, .val (Value.long x3), .second, .val (Value.long x4), .second, .val (Value.int x5), .val (Value.int (own_pi x5 (0 : Int32) x0 x1)), .unset, .unset, .unset, .unset, .unset, .unset, .unset, .unset, .unset, .unset, .unset, .unset, .unset, .unset, .unset, .unset, .unset, .unset, .unset, .unset, .unset, .unset, .unset, .unset, .unset] [(Value.int (1 : Int32)), (Value.int x5)]))
  refine own_iloadN X1 hx hby at_13 rfl ?_
  show own_G p e below s _ _ _ (T1.setTop (mkF m 14 #[.val (Value.int x0), .val (Value.int x1), .val (Value.long x2), .second, .val (Value.long x3), .second, .val (Value.long x4), .second, .val (Value.int x5), .val (Value.int (own_pi x5 (0 : Int32) x0 x1)), .unset, .unset, .unset, .unset, .unset, .unset, .unset, .unset, .unset, .unset, .unset, .unset, .unset, .unset, .unset, .unset, .unset, .unset, .unset, .unset, .unset, .unset, .unset, .unset, .unset] [(Value.int x0), (Value.int (1 : Int32)), (Value.int x5)]))
  refine own_iloadN X1 hx hby at_14 rfl ?_
  show own_G p e below s _ _ _ (T1.setTop (mkF m 15 #[.val (Value.int x0), .val (Value.int x1), .val (Value.long x2), .second, .val (Value.long x3), .second, .val (Value.long x4), .second, .val (Value.int x5), .val (Value.int (own_pi x5 (0 : Int32) x0 x1)), .unset, .unset, .unset, .unset, .unset, .unset, .unset, .unset, .unset, .unset, .unset, .unset, .unset, .unset, .unset, .unset, .unset, .unset, .unset, .unset, .unset, .unset, .unset, .unset, .unset] [(Value.int x1), (Value.int x0), (Value.int (1 : Int32)), (Value.int x5)]))
  obtain ⟨_, _, ⟨T2, L2, k2, n2⟩, -, X2, ⟨Lc2, hQ2, l2, y2, z2⟩, st2⟩ := Jvm.LawKit.callS X1 hx (y := (⟨"com/example/iron_log/ironlog/index/HeaderEqualsPinLaw", "pickInt", "(IIII)I"⟩ : MethodName)) hown (mvT hZ (own_w0 hw)) (mvT hZ (own_w1 hw)) (mvT hZ (own_w2 hw)) (mvT hZ (own_w3 hw)) (by decide) (backOf (W := 0) (own_rm1 l Z a0 hw [] x5 (1 : Int32) x0 x1  h0 n0 O0  ) hZ (own_w3 hw) (own_w2 hw) (by decide) (by decide)) (g := (mkF m 15 #[.val (Value.int x0), .val (Value.int x1), .val (Value.long x2), .second, .val (Value.long x3), .second, .val (Value.long x4), .second, .val (Value.int x5), .val (Value.int (own_pi x5 (0 : Int32) x0 x1)), .unset, .unset, .unset, .unset, .unset, .unset, .unset, .unset, .unset, .unset, .unset, .unset, .unset, .unset, .unset, .unset, .unset, .unset, .unset, .unset, .unset, .unset, .unset, .unset, .unset] [(Value.int x1), (Value.int x0), (Value.int (1 : Int32)), (Value.int x5)])) rfl (by rw [hml]; rfl) (argsL := [(Value.int x5), (Value.int (1 : Int32)), (Value.int x0), (Value.int x1)]) (rest := []) (lenOf own_pd2 rfl) rfl (by show 2 * 0 + _ ≤ _; exact Nat.le_of_eq rfl) (hb hby at_15) (fun _ _ => ⟨rfl, e1, (by decide : (0 : Nat) + 0 ≤ _), (by decide : (0 : Nat) + 0 ≤ _)⟩)
  dsimp only [Pt.U, Pt.locs, Pt.cells, Pt.slots] at X2 l2 y2 z2 st2 hQ2
  subst l2 y2 z2
  obtain ⟨rfl, e2, Nq2⟩ := hQ2
  have N2 := Fr.app N1 Nq2
  refine own_st st2 ?_
  show own_G p e below s _ _ _ (T2.setTop (mkF m 18 #[.val (Value.int x0), .val (Value.int x1), .val (Value.long x2), .second, .val (Value.long x3), .second, .val (Value.long x4), .second, .val (Value.int x5), .val (Value.int (own_pi x5 (0 : Int32) x0 x1)), .unset, .unset, .unset, .unset, .unset, .unset, .unset, .unset, .unset, .unset, .unset, .unset, .unset, .unset, .unset, .unset, .unset, .unset, .unset, .unset, .unset, .unset, .unset, .unset, .unset] [(Value.int (own_pi x5 (1 : Int32) x0 x1))]))
  refine own_istore X2 hx hby at_18 (l' := #[.val (Value.int x0), .val (Value.int x1), .val (Value.long x2), .second, .val (Value.long x3), .second, .val (Value.long x4), .second, .val (Value.int x5), .val (Value.int (own_pi x5 (0 : Int32) x0 x1)), .val (Value.int (own_pi x5 (1 : Int32) x0 x1)), .unset, .unset, .unset, .unset, .unset, .unset, .unset, .unset, .unset, .unset, .unset, .unset, .unset, .unset, .unset, .unset, .unset, .unset, .unset, .unset, .unset, .unset, .unset, .unset]) rfl ?_
  show own_G p e below s _ _ _ (T2.setTop (mkF m 20 #[.val (Value.int x0), .val (Value.int x1), .val (Value.long x2), .second, .val (Value.long x3), .second, .val (Value.long x4), .second, .val (Value.int x5), .val (Value.int (own_pi x5 (0 : Int32) x0 x1)), .val (Value.int (own_pi x5 (1 : Int32) x0 x1)), .unset, .unset, .unset, .unset, .unset, .unset, .unset, .unset, .unset, .unset, .unset, .unset, .unset, .unset, .unset, .unset, .unset, .unset, .unset, .unset, .unset, .unset, .unset, .unset] []))
  refine own_iload X2 hx hby at_20 rfl ?_
  show own_G p e below s _ _ _ (T2.setTop (mkF m 22 #[.val (Value.int x0), .val (Value.int x1), .val (Value.long x2), .second, .val (Value.long x3), .second, .val (Value.long x4), .second, .val (Value.int x5), .val (Value.int (own_pi x5 (0 : Int32) x0 x1)), .val (Value.int (own_pi x5 (1 : Int32) x0 x1)), .unset, .unset, .unset, .unset, .unset, .unset, .unset, .unset, .unset, .unset, .unset, .unset, .unset, .unset, .unset, .unset, .unset, .unset, .unset, .unset, .unset, .unset, .unset, .unset] [(Value.int x5)]))
  refine own_iconst X2 hx hby at_22 ?_
  show own_G p e below s _ _ _ (T2.setTop (mkF m 23 #[.val (Value.int x0), .val (Value.int x1), .val (Value.long x2), .second, .val (Value.long x3), .second, .val (Value.long x4), .second, .val (Value.int x5), .val (Value.int (own_pi x5 (0 : Int32) x0 x1)), .val (Value.int (own_pi x5 (1 : Int32) x0 x1)), .unset, .unset, .unset, .unset, .unset, .unset, .unset, .unset, .unset, .unset, .unset, .unset, .unset, .unset, .unset, .unset, .unset, .unset, .unset, .unset, .unset, .unset, .unset, .unset] [(Value.int (2 : Int32)), (Value.int x5)]))
  refine own_lloadN X2 hx hby at_23 rfl ?_
  show own_G p e below s _ _ _ (T2.setTop (mkF m 24 #[.val (Value.int x0), .val (Value.int x1), .val (Value.long x2), .second, .val (Value.long x3), .second, .val (Value.long x4), .second, .val (Value.int x5), .val (Value.int (own_pi x5 (0 : Int32) x0 x1)), .val (Value.int (own_pi x5 (1 : Int32) x0 x1)), .unset, .unset, .unset, .unset, .unset, .unset, .unset, .unset, .unset, .unset, .unset, .unset, .unset, .unset, .unset, .unset, .unset, .unset, .unset, .unset, .unset, .unset, .unset, .unset] [(Value.long x2), (Value.int (2 : Int32)), (Value.int x5)]))
  refine own_lload X2 hx hby at_24 rfl ?_
  show own_G p e below s _ _ _ (T2.setTop (mkF m 26 #[.val (Value.int x0), .val (Value.int x1), .val (Value.long x2), .second, .val (Value.long x3), .second, .val (Value.long x4), .second, .val (Value.int x5), .val (Value.int (own_pi x5 (0 : Int32) x0 x1)), .val (Value.int (own_pi x5 (1 : Int32) x0 x1)), .unset, .unset, .unset, .unset, .unset, .unset, .unset, .unset, .unset, .unset, .unset, .unset, .unset, .unset, .unset, .unset, .unset, .unset, .unset, .unset, .unset, .unset, .unset, .unset] [(Value.long x3), (Value.long x2), (Value.int (2 : Int32)), (Value.int x5)]))
  refine own_lload X2 hx hby at_26 rfl ?_
  show own_G p e below s _ _ _ (T2.setTop (mkF m 28 #[.val (Value.int x0), .val (Value.int x1), .val (Value.long x2), .second, .val (Value.long x3), .second, .val (Value.long x4), .second, .val (Value.int x5), .val (Value.int (own_pi x5 (0 : Int32) x0 x1)), .val (Value.int (own_pi x5 (1 : Int32) x0 x1)), .unset, .unset, .unset, .unset, .unset, .unset, .unset, .unset, .unset, .unset, .unset, .unset, .unset, .unset, .unset, .unset, .unset, .unset, .unset, .unset, .unset, .unset, .unset, .unset] [(Value.long x4), (Value.long x3), (Value.long x2), (Value.int (2 : Int32)), (Value.int x5)]))
  obtain ⟨_, _, ⟨T3, L3, k3, n3⟩, -, X3, ⟨Lc3, hQ3, l3, y3, z3⟩, st3⟩ := Jvm.LawKit.callS X2 hx (y := (⟨"com/example/iron_log/ironlog/index/HeaderEqualsPinLaw", "pickLong", "(IIJJJ)J"⟩ : MethodName)) hown (mvT hZ (own_w4 hw)) (mvT hZ (own_w5 hw)) (mvT hZ (own_w2 hw)) (mvT hZ (own_w6 hw)) (by decide) (backOf (W := 0) (own_rm2 l Z a0 hw [] x5 (2 : Int32) x2 x3 x4  h0 n0 O0  ) hZ (own_w6 hw) (own_w2 hw) (by decide) (by decide)) (g := (mkF m 28 #[.val (Value.int x0), .val (Value.int x1), .val (Value.long x2), .second, .val (Value.long x3), .second, .val (Value.long x4), .second, .val (Value.int x5), .val (Value.int (own_pi x5 (0 : Int32) x0 x1)), .val (Value.int (own_pi x5 (1 : Int32) x0 x1)), .unset, .unset, .unset, .unset, .unset, .unset, .unset, .unset, .unset, .unset, .unset, .unset, .unset, .unset, .unset, .unset, .unset, .unset, .unset, .unset, .unset, .unset, .unset, .unset] [(Value.long x4), (Value.long x3), (Value.long x2), (Value.int (2 : Int32)), (Value.int x5)])) rfl (by rw [hml]; rfl) (argsL := [(Value.int x5), (Value.int (2 : Int32)), (Value.long x2), (Value.long x3), (Value.long x4)]) (rest := []) (lenOf own_pd3 rfl) rfl (by show 2 * 0 + _ ≤ _; exact Nat.le_of_eq rfl) (hb hby at_28) (fun _ _ => ⟨rfl, e2, (by decide : (0 : Nat) + 0 ≤ _), (by decide : (0 : Nat) + 0 ≤ _)⟩)
  dsimp only [Pt.U, Pt.locs, Pt.cells, Pt.slots] at X3 l3 y3 z3 st3 hQ3
  subst l3 y3 z3
  obtain ⟨rfl, e3, Nq3⟩ := hQ3
  have N3 := Fr.app N2 Nq3
  refine own_st st3 ?_
  show own_G p e below s _ _ _ (T3.setTop (mkF m 31 #[.val (Value.int x0), .val (Value.int x1), .val (Value.long x2), .second, .val (Value.long x3), .second, .val (Value.long x4), .second, .val (Value.int x5), .val (Value.int (own_pi x5 (0 : Int32) x0 x1)), .val (Value.int (own_pi x5 (1 : Int32) x0 x1)), .unset, .unset, .unset, .unset, .unset, .unset, .unset, .unset, .unset, .unset, .unset, .unset, .unset, .unset, .unset, .unset, .unset, .unset, .unset, .unset, .unset, .unset, .unset, .unset] [(Value.long (own_pl x5 (2 : Int32) x2 x3 x4))]))
  refine own_lstore X3 hx hby at_31 (l' := #[.val (Value.int x0), .val (Value.int x1), .val (Value.long x2), .second, .val (Value.long x3), .second, .val (Value.long x4), .second, .val (Value.int x5), .val (Value.int (own_pi x5 (0 : Int32) x0 x1)), .val (Value.int (own_pi x5 (1 : Int32) x0 x1)), .val (Value.long (own_pl x5 (2 : Int32) x2 x3 x4)), .second, .unset, .unset, .unset, .unset, .unset, .unset, .unset, .unset, .unset, .unset, .unset, .unset, .unset, .unset, .unset, .unset, .unset, .unset, .unset, .unset, .unset, .unset]) rfl ?_
  show own_G p e below s _ _ _ (T3.setTop (mkF m 33 #[.val (Value.int x0), .val (Value.int x1), .val (Value.long x2), .second, .val (Value.long x3), .second, .val (Value.long x4), .second, .val (Value.int x5), .val (Value.int (own_pi x5 (0 : Int32) x0 x1)), .val (Value.int (own_pi x5 (1 : Int32) x0 x1)), .val (Value.long (own_pl x5 (2 : Int32) x2 x3 x4)), .second, .unset, .unset, .unset, .unset, .unset, .unset, .unset, .unset, .unset, .unset, .unset, .unset, .unset, .unset, .unset, .unset, .unset, .unset, .unset, .unset, .unset, .unset] []))
  refine own_iload X3 hx hby at_33 rfl ?_
  show own_G p e below s _ _ _ (T3.setTop (mkF m 35 #[.val (Value.int x0), .val (Value.int x1), .val (Value.long x2), .second, .val (Value.long x3), .second, .val (Value.long x4), .second, .val (Value.int x5), .val (Value.int (own_pi x5 (0 : Int32) x0 x1)), .val (Value.int (own_pi x5 (1 : Int32) x0 x1)), .val (Value.long (own_pl x5 (2 : Int32) x2 x3 x4)), .second, .unset, .unset, .unset, .unset, .unset, .unset, .unset, .unset, .unset, .unset, .unset, .unset, .unset, .unset, .unset, .unset, .unset, .unset, .unset, .unset, .unset, .unset] [(Value.int x5)]))
  refine own_iconst X3 hx hby at_35 ?_
  show own_G p e below s _ _ _ (T3.setTop (mkF m 36 #[.val (Value.int x0), .val (Value.int x1), .val (Value.long x2), .second, .val (Value.long x3), .second, .val (Value.long x4), .second, .val (Value.int x5), .val (Value.int (own_pi x5 (0 : Int32) x0 x1)), .val (Value.int (own_pi x5 (1 : Int32) x0 x1)), .val (Value.long (own_pl x5 (2 : Int32) x2 x3 x4)), .second, .unset, .unset, .unset, .unset, .unset, .unset, .unset, .unset, .unset, .unset, .unset, .unset, .unset, .unset, .unset, .unset, .unset, .unset, .unset, .unset, .unset, .unset] [(Value.int (4 : Int32)), (Value.int x5)]))
  refine own_lloadN X3 hx hby at_36 rfl ?_
  show own_G p e below s _ _ _ (T3.setTop (mkF m 37 #[.val (Value.int x0), .val (Value.int x1), .val (Value.long x2), .second, .val (Value.long x3), .second, .val (Value.long x4), .second, .val (Value.int x5), .val (Value.int (own_pi x5 (0 : Int32) x0 x1)), .val (Value.int (own_pi x5 (1 : Int32) x0 x1)), .val (Value.long (own_pl x5 (2 : Int32) x2 x3 x4)), .second, .unset, .unset, .unset, .unset, .unset, .unset, .unset, .unset, .unset, .unset, .unset, .unset, .unset, .unset, .unset, .unset, .unset, .unset, .unset, .unset, .unset, .unset] [(Value.long x2), (Value.int (4 : Int32)), (Value.int x5)]))
  refine own_lload X3 hx hby at_37 rfl ?_
  show own_G p e below s _ _ _ (T3.setTop (mkF m 39 #[.val (Value.int x0), .val (Value.int x1), .val (Value.long x2), .second, .val (Value.long x3), .second, .val (Value.long x4), .second, .val (Value.int x5), .val (Value.int (own_pi x5 (0 : Int32) x0 x1)), .val (Value.int (own_pi x5 (1 : Int32) x0 x1)), .val (Value.long (own_pl x5 (2 : Int32) x2 x3 x4)), .second, .unset, .unset, .unset, .unset, .unset, .unset, .unset, .unset, .unset, .unset, .unset, .unset, .unset, .unset, .unset, .unset, .unset, .unset, .unset, .unset, .unset, .unset] [(Value.long x3), (Value.long x2), (Value.int (4 : Int32)), (Value.int x5)]))
  refine own_lload X3 hx hby at_39 rfl ?_
  show own_G p e below s _ _ _ (T3.setTop (mkF m 41 #[.val (Value.int x0), .val (Value.int x1), .val (Value.long x2), .second, .val (Value.long x3), .second, .val (Value.long x4), .second, .val (Value.int x5), .val (Value.int (own_pi x5 (0 : Int32) x0 x1)), .val (Value.int (own_pi x5 (1 : Int32) x0 x1)), .val (Value.long (own_pl x5 (2 : Int32) x2 x3 x4)), .second, .unset, .unset, .unset, .unset, .unset, .unset, .unset, .unset, .unset, .unset, .unset, .unset, .unset, .unset, .unset, .unset, .unset, .unset, .unset, .unset, .unset, .unset] [(Value.long x4), (Value.long x3), (Value.long x2), (Value.int (4 : Int32)), (Value.int x5)]))
  obtain ⟨_, _, ⟨T4, L4, k4, n4⟩, -, X4, ⟨Lc4, hQ4, l4, y4, z4⟩, st4⟩ := Jvm.LawKit.callS X3 hx (y := (⟨"com/example/iron_log/ironlog/index/HeaderEqualsPinLaw", "pickLong", "(IIJJJ)J"⟩ : MethodName)) hown (mvT hZ (own_w4 hw)) (mvT hZ (own_w5 hw)) (mvT hZ (own_w2 hw)) (mvT hZ (own_w6 hw)) (by decide) (backOf (W := 0) (own_rm2 l Z a0 hw [] x5 (4 : Int32) x2 x3 x4  h0 n0 O0  ) hZ (own_w6 hw) (own_w2 hw) (by decide) (by decide)) (g := (mkF m 41 #[.val (Value.int x0), .val (Value.int x1), .val (Value.long x2), .second, .val (Value.long x3), .second, .val (Value.long x4), .second, .val (Value.int x5), .val (Value.int (own_pi x5 (0 : Int32) x0 x1)), .val (Value.int (own_pi x5 (1 : Int32) x0 x1)), .val (Value.long (own_pl x5 (2 : Int32) x2 x3 x4)), .second, .unset, .unset, .unset, .unset, .unset, .unset, .unset, .unset, .unset, .unset, .unset, .unset, .unset, .unset, .unset, .unset, .unset, .unset, .unset, .unset, .unset, .unset] [(Value.long x4), (Value.long x3), (Value.long x2), (Value.int (4 : Int32)), (Value.int x5)])) rfl (by rw [hml]; rfl) (argsL := [(Value.int x5), (Value.int (4 : Int32)), (Value.long x2), (Value.long x3), (Value.long x4)]) (rest := []) (lenOf own_pd3 rfl) rfl (by show 2 * 0 + _ ≤ _; exact Nat.le_of_eq rfl) (hb hby at_41) (fun _ _ => ⟨rfl, e3, (by decide : (0 : Nat) + 0 ≤ _), (by decide : (0 : Nat) + 0 ≤ _)⟩)
  dsimp only [Pt.U, Pt.locs, Pt.cells, Pt.slots] at X4 l4 y4 z4 st4 hQ4
  subst l4 y4 z4
  obtain ⟨rfl, e4, Nq4⟩ := hQ4
  have N4 := Fr.app N3 Nq4
  refine own_st st4 ?_
  show own_G p e below s _ _ _ (T4.setTop (mkF m 44 #[.val (Value.int x0), .val (Value.int x1), .val (Value.long x2), .second, .val (Value.long x3), .second, .val (Value.long x4), .second, .val (Value.int x5), .val (Value.int (own_pi x5 (0 : Int32) x0 x1)), .val (Value.int (own_pi x5 (1 : Int32) x0 x1)), .val (Value.long (own_pl x5 (2 : Int32) x2 x3 x4)), .second, .unset, .unset, .unset, .unset, .unset, .unset, .unset, .unset, .unset, .unset, .unset, .unset, .unset, .unset, .unset, .unset, .unset, .unset, .unset, .unset, .unset, .unset] [(Value.long (own_pl x5 (4 : Int32) x2 x3 x4))]))
  refine own_lstore X4 hx hby at_44 (l' := #[.val (Value.int x0), .val (Value.int x1), .val (Value.long x2), .second, .val (Value.long x3), .second, .val (Value.long x4), .second, .val (Value.int x5), .val (Value.int (own_pi x5 (0 : Int32) x0 x1)), .val (Value.int (own_pi x5 (1 : Int32) x0 x1)), .val (Value.long (own_pl x5 (2 : Int32) x2 x3 x4)), .second, .val (Value.long (own_pl x5 (4 : Int32) x2 x3 x4)), .second, .unset, .unset, .unset, .unset, .unset, .unset, .unset, .unset, .unset, .unset, .unset, .unset, .unset, .unset, .unset, .unset, .unset, .unset, .unset, .unset]) rfl ?_
  show own_G p e below s _ _ _ (T4.setTop (mkF m 46 #[.val (Value.int x0), .val (Value.int x1), .val (Value.long x2), .second, .val (Value.long x3), .second, .val (Value.long x4), .second, .val (Value.int x5), .val (Value.int (own_pi x5 (0 : Int32) x0 x1)), .val (Value.int (own_pi x5 (1 : Int32) x0 x1)), .val (Value.long (own_pl x5 (2 : Int32) x2 x3 x4)), .second, .val (Value.long (own_pl x5 (4 : Int32) x2 x3 x4)), .second, .unset, .unset, .unset, .unset, .unset, .unset, .unset, .unset, .unset, .unset, .unset, .unset, .unset, .unset, .unset, .unset, .unset, .unset, .unset, .unset] []))
  refine own_iload X4 hx hby at_46 rfl ?_
  show own_G p e below s _ _ _ (T4.setTop (mkF m 48 #[.val (Value.int x0), .val (Value.int x1), .val (Value.long x2), .second, .val (Value.long x3), .second, .val (Value.long x4), .second, .val (Value.int x5), .val (Value.int (own_pi x5 (0 : Int32) x0 x1)), .val (Value.int (own_pi x5 (1 : Int32) x0 x1)), .val (Value.long (own_pl x5 (2 : Int32) x2 x3 x4)), .second, .val (Value.long (own_pl x5 (4 : Int32) x2 x3 x4)), .second, .unset, .unset, .unset, .unset, .unset, .unset, .unset, .unset, .unset, .unset, .unset, .unset, .unset, .unset, .unset, .unset, .unset, .unset, .unset, .unset] [(Value.int x5)]))
  refine own_bipush X4 hx hby at_48 ?_
  show own_G p e below s _ _ _ (T4.setTop (mkF m 50 #[.val (Value.int x0), .val (Value.int x1), .val (Value.long x2), .second, .val (Value.long x3), .second, .val (Value.long x4), .second, .val (Value.int x5), .val (Value.int (own_pi x5 (0 : Int32) x0 x1)), .val (Value.int (own_pi x5 (1 : Int32) x0 x1)), .val (Value.long (own_pl x5 (2 : Int32) x2 x3 x4)), .second, .val (Value.long (own_pl x5 (4 : Int32) x2 x3 x4)), .second, .unset, .unset, .unset, .unset, .unset, .unset, .unset, .unset, .unset, .unset, .unset, .unset, .unset, .unset, .unset, .unset, .unset, .unset, .unset, .unset] [(Value.int (6 : Int32)), (Value.int x5)]))
  refine own_lloadN X4 hx hby at_50 rfl ?_
  show own_G p e below s _ _ _ (T4.setTop (mkF m 51 #[.val (Value.int x0), .val (Value.int x1), .val (Value.long x2), .second, .val (Value.long x3), .second, .val (Value.long x4), .second, .val (Value.int x5), .val (Value.int (own_pi x5 (0 : Int32) x0 x1)), .val (Value.int (own_pi x5 (1 : Int32) x0 x1)), .val (Value.long (own_pl x5 (2 : Int32) x2 x3 x4)), .second, .val (Value.long (own_pl x5 (4 : Int32) x2 x3 x4)), .second, .unset, .unset, .unset, .unset, .unset, .unset, .unset, .unset, .unset, .unset, .unset, .unset, .unset, .unset, .unset, .unset, .unset, .unset, .unset, .unset] [(Value.long x2), (Value.int (6 : Int32)), (Value.int x5)]))
  refine own_lload X4 hx hby at_51 rfl ?_
  show own_G p e below s _ _ _ (T4.setTop (mkF m 53 #[.val (Value.int x0), .val (Value.int x1), .val (Value.long x2), .second, .val (Value.long x3), .second, .val (Value.long x4), .second, .val (Value.int x5), .val (Value.int (own_pi x5 (0 : Int32) x0 x1)), .val (Value.int (own_pi x5 (1 : Int32) x0 x1)), .val (Value.long (own_pl x5 (2 : Int32) x2 x3 x4)), .second, .val (Value.long (own_pl x5 (4 : Int32) x2 x3 x4)), .second, .unset, .unset, .unset, .unset, .unset, .unset, .unset, .unset, .unset, .unset, .unset, .unset, .unset, .unset, .unset, .unset, .unset, .unset, .unset, .unset] [(Value.long x3), (Value.long x2), (Value.int (6 : Int32)), (Value.int x5)]))
  refine own_lload X4 hx hby at_53 rfl ?_
  show own_G p e below s _ _ _ (T4.setTop (mkF m 55 #[.val (Value.int x0), .val (Value.int x1), .val (Value.long x2), .second, .val (Value.long x3), .second, .val (Value.long x4), .second, .val (Value.int x5), .val (Value.int (own_pi x5 (0 : Int32) x0 x1)), .val (Value.int (own_pi x5 (1 : Int32) x0 x1)), .val (Value.long (own_pl x5 (2 : Int32) x2 x3 x4)), .second, .val (Value.long (own_pl x5 (4 : Int32) x2 x3 x4)), .second, .unset, .unset, .unset, .unset, .unset, .unset, .unset, .unset, .unset, .unset, .unset, .unset, .unset, .unset, .unset, .unset, .unset, .unset, .unset, .unset] [(Value.long x4), (Value.long x3), (Value.long x2), (Value.int (6 : Int32)), (Value.int x5)]))
  obtain ⟨_, _, ⟨T5, L5, k5, n5⟩, -, X5, ⟨Lc5, hQ5, l5, y5, z5⟩, st5⟩ := Jvm.LawKit.callS X4 hx (y := (⟨"com/example/iron_log/ironlog/index/HeaderEqualsPinLaw", "pickLong", "(IIJJJ)J"⟩ : MethodName)) hown (mvT hZ (own_w4 hw)) (mvT hZ (own_w5 hw)) (mvT hZ (own_w2 hw)) (mvT hZ (own_w6 hw)) (by decide) (backOf (W := 0) (own_rm2 l Z a0 hw [] x5 (6 : Int32) x2 x3 x4  h0 n0 O0  ) hZ (own_w6 hw) (own_w2 hw) (by decide) (by decide)) (g := (mkF m 55 #[.val (Value.int x0), .val (Value.int x1), .val (Value.long x2), .second, .val (Value.long x3), .second, .val (Value.long x4), .second, .val (Value.int x5), .val (Value.int (own_pi x5 (0 : Int32) x0 x1)), .val (Value.int (own_pi x5 (1 : Int32) x0 x1)), .val (Value.long (own_pl x5 (2 : Int32) x2 x3 x4)), .second, .val (Value.long (own_pl x5 (4 : Int32) x2 x3 x4)), .second, .unset, .unset, .unset, .unset, .unset, .unset, .unset, .unset, .unset, .unset, .unset, .unset, .unset, .unset, .unset, .unset, .unset, .unset, .unset, .unset] [(Value.long x4), (Value.long x3), (Value.long x2), (Value.int (6 : Int32)), (Value.int x5)])) rfl (by rw [hml]; rfl) (argsL := [(Value.int x5), (Value.int (6 : Int32)), (Value.long x2), (Value.long x3), (Value.long x4)]) (rest := []) (lenOf own_pd3 rfl) rfl (by show 2 * 0 + _ ≤ _; exact Nat.le_of_eq rfl) (hb hby at_55) (fun _ _ => ⟨rfl, e4, (by decide : (0 : Nat) + 0 ≤ _), (by decide : (0 : Nat) + 0 ≤ _)⟩)
  dsimp only [Pt.U, Pt.locs, Pt.cells, Pt.slots] at X5 l5 y5 z5 st5 hQ5
  subst l5 y5 z5
  obtain ⟨rfl, e5, Nq5⟩ := hQ5
  have N5 := Fr.app N4 Nq5
  refine own_st st5 ?_
  show own_G p e below s _ _ _ (T5.setTop (mkF m 58 #[.val (Value.int x0), .val (Value.int x1), .val (Value.long x2), .second, .val (Value.long x3), .second, .val (Value.long x4), .second, .val (Value.int x5), .val (Value.int (own_pi x5 (0 : Int32) x0 x1)), .val (Value.int (own_pi x5 (1 : Int32) x0 x1)), .val (Value.long (own_pl x5 (2 : Int32) x2 x3 x4)), .second, .val (Value.long (own_pl x5 (4 : Int32) x2 x3 x4)), .second, .unset, .unset, .unset, .unset, .unset, .unset, .unset, .unset, .unset, .unset, .unset, .unset, .unset, .unset, .unset, .unset, .unset, .unset, .unset, .unset] [(Value.long (own_pl x5 (6 : Int32) x2 x3 x4))]))
  refine own_lstore X5 hx hby at_58 (l' := #[.val (Value.int x0), .val (Value.int x1), .val (Value.long x2), .second, .val (Value.long x3), .second, .val (Value.long x4), .second, .val (Value.int x5), .val (Value.int (own_pi x5 (0 : Int32) x0 x1)), .val (Value.int (own_pi x5 (1 : Int32) x0 x1)), .val (Value.long (own_pl x5 (2 : Int32) x2 x3 x4)), .second, .val (Value.long (own_pl x5 (4 : Int32) x2 x3 x4)), .second, .val (Value.long (own_pl x5 (6 : Int32) x2 x3 x4)), .second, .unset, .unset, .unset, .unset, .unset, .unset, .unset, .unset, .unset, .unset, .unset, .unset, .unset, .unset, .unset, .unset, .unset, .unset]) rfl ?_
  show own_G p e below s _ _ _ (T5.setTop (mkF m 60 #[.val (Value.int x0), .val (Value.int x1), .val (Value.long x2), .second, .val (Value.long x3), .second, .val (Value.long x4), .second, .val (Value.int x5), .val (Value.int (own_pi x5 (0 : Int32) x0 x1)), .val (Value.int (own_pi x5 (1 : Int32) x0 x1)), .val (Value.long (own_pl x5 (2 : Int32) x2 x3 x4)), .second, .val (Value.long (own_pl x5 (4 : Int32) x2 x3 x4)), .second, .val (Value.long (own_pl x5 (6 : Int32) x2 x3 x4)), .second, .unset, .unset, .unset, .unset, .unset, .unset, .unset, .unset, .unset, .unset, .unset, .unset, .unset, .unset, .unset, .unset, .unset, .unset] []))
  refine own_iload X5 hx hby at_60 rfl ?_
  show own_G p e below s _ _ _ (T5.setTop (mkF m 62 #[.val (Value.int x0), .val (Value.int x1), .val (Value.long x2), .second, .val (Value.long x3), .second, .val (Value.long x4), .second, .val (Value.int x5), .val (Value.int (own_pi x5 (0 : Int32) x0 x1)), .val (Value.int (own_pi x5 (1 : Int32) x0 x1)), .val (Value.long (own_pl x5 (2 : Int32) x2 x3 x4)), .second, .val (Value.long (own_pl x5 (4 : Int32) x2 x3 x4)), .second, .val (Value.long (own_pl x5 (6 : Int32) x2 x3 x4)), .second, .unset, .unset, .unset, .unset, .unset, .unset, .unset, .unset, .unset, .unset, .unset, .unset, .unset, .unset, .unset, .unset, .unset, .unset] [(Value.int x5)]))
  refine own_bipush X5 hx hby at_62 ?_
  show own_G p e below s _ _ _ (T5.setTop (mkF m 64 #[.val (Value.int x0), .val (Value.int x1), .val (Value.long x2), .second, .val (Value.long x3), .second, .val (Value.long x4), .second, .val (Value.int x5), .val (Value.int (own_pi x5 (0 : Int32) x0 x1)), .val (Value.int (own_pi x5 (1 : Int32) x0 x1)), .val (Value.long (own_pl x5 (2 : Int32) x2 x3 x4)), .second, .val (Value.long (own_pl x5 (4 : Int32) x2 x3 x4)), .second, .val (Value.long (own_pl x5 (6 : Int32) x2 x3 x4)), .second, .unset, .unset, .unset, .unset, .unset, .unset, .unset, .unset, .unset, .unset, .unset, .unset, .unset, .unset, .unset, .unset, .unset, .unset] [(Value.int (8 : Int32)), (Value.int x5)]))
  refine own_lloadN X5 hx hby at_64 rfl ?_
  show own_G p e below s _ _ _ (T5.setTop (mkF m 65 #[.val (Value.int x0), .val (Value.int x1), .val (Value.long x2), .second, .val (Value.long x3), .second, .val (Value.long x4), .second, .val (Value.int x5), .val (Value.int (own_pi x5 (0 : Int32) x0 x1)), .val (Value.int (own_pi x5 (1 : Int32) x0 x1)), .val (Value.long (own_pl x5 (2 : Int32) x2 x3 x4)), .second, .val (Value.long (own_pl x5 (4 : Int32) x2 x3 x4)), .second, .val (Value.long (own_pl x5 (6 : Int32) x2 x3 x4)), .second, .unset, .unset, .unset, .unset, .unset, .unset, .unset, .unset, .unset, .unset, .unset, .unset, .unset, .unset, .unset, .unset, .unset, .unset] [(Value.long x2), (Value.int (8 : Int32)), (Value.int x5)]))
  refine own_lload X5 hx hby at_65 rfl ?_
  show own_G p e below s _ _ _ (T5.setTop (mkF m 67 #[.val (Value.int x0), .val (Value.int x1), .val (Value.long x2), .second, .val (Value.long x3), .second, .val (Value.long x4), .second, .val (Value.int x5), .val (Value.int (own_pi x5 (0 : Int32) x0 x1)), .val (Value.int (own_pi x5 (1 : Int32) x0 x1)), .val (Value.long (own_pl x5 (2 : Int32) x2 x3 x4)), .second, .val (Value.long (own_pl x5 (4 : Int32) x2 x3 x4)), .second, .val (Value.long (own_pl x5 (6 : Int32) x2 x3 x4)), .second, .unset, .unset, .unset, .unset, .unset, .unset, .unset, .unset, .unset, .unset, .unset, .unset, .unset, .unset, .unset, .unset, .unset, .unset] [(Value.long x3), (Value.long x2), (Value.int (8 : Int32)), (Value.int x5)]))
  refine own_lload X5 hx hby at_67 rfl ?_
  show own_G p e below s _ _ _ (T5.setTop (mkF m 69 #[.val (Value.int x0), .val (Value.int x1), .val (Value.long x2), .second, .val (Value.long x3), .second, .val (Value.long x4), .second, .val (Value.int x5), .val (Value.int (own_pi x5 (0 : Int32) x0 x1)), .val (Value.int (own_pi x5 (1 : Int32) x0 x1)), .val (Value.long (own_pl x5 (2 : Int32) x2 x3 x4)), .second, .val (Value.long (own_pl x5 (4 : Int32) x2 x3 x4)), .second, .val (Value.long (own_pl x5 (6 : Int32) x2 x3 x4)), .second, .unset, .unset, .unset, .unset, .unset, .unset, .unset, .unset, .unset, .unset, .unset, .unset, .unset, .unset, .unset, .unset, .unset, .unset] [(Value.long x4), (Value.long x3), (Value.long x2), (Value.int (8 : Int32)), (Value.int x5)]))
  obtain ⟨_, _, ⟨T6, L6, k6, n6⟩, -, X6, ⟨Lc6, hQ6, l6, y6, z6⟩, st6⟩ := Jvm.LawKit.callS X5 hx (y := (⟨"com/example/iron_log/ironlog/index/HeaderEqualsPinLaw", "pickLong", "(IIJJJ)J"⟩ : MethodName)) hown (mvT hZ (own_w4 hw)) (mvT hZ (own_w5 hw)) (mvT hZ (own_w2 hw)) (mvT hZ (own_w6 hw)) (by decide) (backOf (W := 0) (own_rm2 l Z a0 hw [] x5 (8 : Int32) x2 x3 x4  h0 n0 O0  ) hZ (own_w6 hw) (own_w2 hw) (by decide) (by decide)) (g := (mkF m 69 #[.val (Value.int x0), .val (Value.int x1), .val (Value.long x2), .second, .val (Value.long x3), .second, .val (Value.long x4), .second, .val (Value.int x5), .val (Value.int (own_pi x5 (0 : Int32) x0 x1)), .val (Value.int (own_pi x5 (1 : Int32) x0 x1)), .val (Value.long (own_pl x5 (2 : Int32) x2 x3 x4)), .second, .val (Value.long (own_pl x5 (4 : Int32) x2 x3 x4)), .second, .val (Value.long (own_pl x5 (6 : Int32) x2 x3 x4)), .second, .unset, .unset, .unset, .unset, .unset, .unset, .unset, .unset, .unset, .unset, .unset, .unset, .unset, .unset, .unset, .unset, .unset, .unset] [(Value.long x4), (Value.long x3), (Value.long x2), (Value.int (8 : Int32)), (Value.int x5)])) rfl (by rw [hml]; rfl) (argsL := [(Value.int x5), (Value.int (8 : Int32)), (Value.long x2), (Value.long x3), (Value.long x4)]) (rest := []) (lenOf own_pd3 rfl) rfl (by show 2 * 0 + _ ≤ _; exact Nat.le_of_eq rfl) (hb hby at_69) (fun _ _ => ⟨rfl, e5, (by decide : (0 : Nat) + 0 ≤ _), (by decide : (0 : Nat) + 0 ≤ _)⟩)
  dsimp only [Pt.U, Pt.locs, Pt.cells, Pt.slots] at X6 l6 y6 z6 st6 hQ6
  subst l6 y6 z6
  obtain ⟨rfl, e6, Nq6⟩ := hQ6
  have N6 := Fr.app N5 Nq6
  refine own_st st6 ?_
  show own_G p e below s _ _ _ (T6.setTop (mkF m 72 #[.val (Value.int x0), .val (Value.int x1), .val (Value.long x2), .second, .val (Value.long x3), .second, .val (Value.long x4), .second, .val (Value.int x5), .val (Value.int (own_pi x5 (0 : Int32) x0 x1)), .val (Value.int (own_pi x5 (1 : Int32) x0 x1)), .val (Value.long (own_pl x5 (2 : Int32) x2 x3 x4)), .second, .val (Value.long (own_pl x5 (4 : Int32) x2 x3 x4)), .second, .val (Value.long (own_pl x5 (6 : Int32) x2 x3 x4)), .second, .unset, .unset, .unset, .unset, .unset, .unset, .unset, .unset, .unset, .unset, .unset, .unset, .unset, .unset, .unset, .unset, .unset, .unset] [(Value.long (own_pl x5 (8 : Int32) x2 x3 x4))]))
  refine own_lstore X6 hx hby at_72 (l' := #[.val (Value.int x0), .val (Value.int x1), .val (Value.long x2), .second, .val (Value.long x3), .second, .val (Value.long x4), .second, .val (Value.int x5), .val (Value.int (own_pi x5 (0 : Int32) x0 x1)), .val (Value.int (own_pi x5 (1 : Int32) x0 x1)), .val (Value.long (own_pl x5 (2 : Int32) x2 x3 x4)), .second, .val (Value.long (own_pl x5 (4 : Int32) x2 x3 x4)), .second, .val (Value.long (own_pl x5 (6 : Int32) x2 x3 x4)), .second, .val (Value.long (own_pl x5 (8 : Int32) x2 x3 x4)), .second, .unset, .unset, .unset, .unset, .unset, .unset, .unset, .unset, .unset, .unset, .unset, .unset, .unset, .unset, .unset, .unset]) rfl ?_
  show own_G p e below s _ _ _ (T6.setTop (mkF m 74 #[.val (Value.int x0), .val (Value.int x1), .val (Value.long x2), .second, .val (Value.long x3), .second, .val (Value.long x4), .second, .val (Value.int x5), .val (Value.int (own_pi x5 (0 : Int32) x0 x1)), .val (Value.int (own_pi x5 (1 : Int32) x0 x1)), .val (Value.long (own_pl x5 (2 : Int32) x2 x3 x4)), .second, .val (Value.long (own_pl x5 (4 : Int32) x2 x3 x4)), .second, .val (Value.long (own_pl x5 (6 : Int32) x2 x3 x4)), .second, .val (Value.long (own_pl x5 (8 : Int32) x2 x3 x4)), .second, .unset, .unset, .unset, .unset, .unset, .unset, .unset, .unset, .unset, .unset, .unset, .unset, .unset, .unset, .unset, .unset] []))
  refine own_iload X6 hx hby at_74 rfl ?_
  show own_G p e below s _ _ _ (T6.setTop (mkF m 76 #[.val (Value.int x0), .val (Value.int x1), .val (Value.long x2), .second, .val (Value.long x3), .second, .val (Value.long x4), .second, .val (Value.int x5), .val (Value.int (own_pi x5 (0 : Int32) x0 x1)), .val (Value.int (own_pi x5 (1 : Int32) x0 x1)), .val (Value.long (own_pl x5 (2 : Int32) x2 x3 x4)), .second, .val (Value.long (own_pl x5 (4 : Int32) x2 x3 x4)), .second, .val (Value.long (own_pl x5 (6 : Int32) x2 x3 x4)), .second, .val (Value.long (own_pl x5 (8 : Int32) x2 x3 x4)), .second, .unset, .unset, .unset, .unset, .unset, .unset, .unset, .unset, .unset, .unset, .unset, .unset, .unset, .unset, .unset, .unset] [(Value.int x5)]))
  refine own_bipush X6 hx hby at_76 ?_
  show own_G p e below s _ _ _ (T6.setTop (mkF m 78 #[.val (Value.int x0), .val (Value.int x1), .val (Value.long x2), .second, .val (Value.long x3), .second, .val (Value.long x4), .second, .val (Value.int x5), .val (Value.int (own_pi x5 (0 : Int32) x0 x1)), .val (Value.int (own_pi x5 (1 : Int32) x0 x1)), .val (Value.long (own_pl x5 (2 : Int32) x2 x3 x4)), .second, .val (Value.long (own_pl x5 (4 : Int32) x2 x3 x4)), .second, .val (Value.long (own_pl x5 (6 : Int32) x2 x3 x4)), .second, .val (Value.long (own_pl x5 (8 : Int32) x2 x3 x4)), .second, .unset, .unset, .unset, .unset, .unset, .unset, .unset, .unset, .unset, .unset, .unset, .unset, .unset, .unset, .unset, .unset] [(Value.int (10 : Int32)), (Value.int x5)]))
  refine own_iloadN X6 hx hby at_78 rfl ?_
  show own_G p e below s _ _ _ (T6.setTop (mkF m 79 #[.val (Value.int x0), .val (Value.int x1), .val (Value.long x2), .second, .val (Value.long x3), .second, .val (Value.long x4), .second, .val (Value.int x5), .val (Value.int (own_pi x5 (0 : Int32) x0 x1)), .val (Value.int (own_pi x5 (1 : Int32) x0 x1)), .val (Value.long (own_pl x5 (2 : Int32) x2 x3 x4)), .second, .val (Value.long (own_pl x5 (4 : Int32) x2 x3 x4)), .second, .val (Value.long (own_pl x5 (6 : Int32) x2 x3 x4)), .second, .val (Value.long (own_pl x5 (8 : Int32) x2 x3 x4)), .second, .unset, .unset, .unset, .unset, .unset, .unset, .unset, .unset, .unset, .unset, .unset, .unset, .unset, .unset, .unset, .unset] [(Value.int x0), (Value.int (10 : Int32)), (Value.int x5)]))
  refine own_iloadN X6 hx hby at_79 rfl ?_
  show own_G p e below s _ _ _ (T6.setTop (mkF m 80 #[.val (Value.int x0), .val (Value.int x1), .val (Value.long x2), .second, .val (Value.long x3), .second, .val (Value.long x4), .second, .val (Value.int x5), .val (Value.int (own_pi x5 (0 : Int32) x0 x1)), .val (Value.int (own_pi x5 (1 : Int32) x0 x1)), .val (Value.long (own_pl x5 (2 : Int32) x2 x3 x4)), .second, .val (Value.long (own_pl x5 (4 : Int32) x2 x3 x4)), .second, .val (Value.long (own_pl x5 (6 : Int32) x2 x3 x4)), .second, .val (Value.long (own_pl x5 (8 : Int32) x2 x3 x4)), .second, .unset, .unset, .unset, .unset, .unset, .unset, .unset, .unset, .unset, .unset, .unset, .unset, .unset, .unset, .unset, .unset] [(Value.int x1), (Value.int x0), (Value.int (10 : Int32)), (Value.int x5)]))
  obtain ⟨_, _, ⟨T7, L7, k7, n7⟩, -, X7, ⟨Lc7, hQ7, l7, y7, z7⟩, st7⟩ := Jvm.LawKit.callS X6 hx (y := (⟨"com/example/iron_log/ironlog/index/HeaderEqualsPinLaw", "pickInt", "(IIII)I"⟩ : MethodName)) hown (mvT hZ (own_w0 hw)) (mvT hZ (own_w1 hw)) (mvT hZ (own_w2 hw)) (mvT hZ (own_w3 hw)) (by decide) (backOf (W := 0) (own_rm1 l Z a0 hw [] x5 (10 : Int32) x0 x1  h0 n0 O0  ) hZ (own_w3 hw) (own_w2 hw) (by decide) (by decide)) (g := (mkF m 80 #[.val (Value.int x0), .val (Value.int x1), .val (Value.long x2), .second, .val (Value.long x3), .second, .val (Value.long x4), .second, .val (Value.int x5), .val (Value.int (own_pi x5 (0 : Int32) x0 x1)), .val (Value.int (own_pi x5 (1 : Int32) x0 x1)), .val (Value.long (own_pl x5 (2 : Int32) x2 x3 x4)), .second, .val (Value.long (own_pl x5 (4 : Int32) x2 x3 x4)), .second, .val (Value.long (own_pl x5 (6 : Int32) x2 x3 x4)), .second, .val (Value.long (own_pl x5 (8 : Int32) x2 x3 x4)), .second, .unset, .unset, .unset, .unset, .unset, .unset, .unset, .unset, .unset, .unset, .unset, .unset, .unset, .unset, .unset, .unset] [(Value.int x1), (Value.int x0), (Value.int (10 : Int32)), (Value.int x5)])) rfl (by rw [hml]; rfl) (argsL := [(Value.int x5), (Value.int (10 : Int32)), (Value.int x0), (Value.int x1)]) (rest := []) (lenOf own_pd2 rfl) rfl (by show 2 * 0 + _ ≤ _; exact Nat.le_of_eq rfl) (hb hby at_80) (fun _ _ => ⟨rfl, e6, (by decide : (0 : Nat) + 0 ≤ _), (by decide : (0 : Nat) + 0 ≤ _)⟩)
  dsimp only [Pt.U, Pt.locs, Pt.cells, Pt.slots] at X7 l7 y7 z7 st7 hQ7
  subst l7 y7 z7
  obtain ⟨rfl, e7, Nq7⟩ := hQ7
  have N7 := Fr.app N6 Nq7
  refine own_st st7 ?_
  show own_G p e below s _ _ _ (T7.setTop (mkF m 83 #[.val (Value.int x0), .val (Value.int x1), .val (Value.long x2), .second, .val (Value.long x3), .second, .val (Value.long x4), .second, .val (Value.int x5), .val (Value.int (own_pi x5 (0 : Int32) x0 x1)), .val (Value.int (own_pi x5 (1 : Int32) x0 x1)), .val (Value.long (own_pl x5 (2 : Int32) x2 x3 x4)), .second, .val (Value.long (own_pl x5 (4 : Int32) x2 x3 x4)), .second, .val (Value.long (own_pl x5 (6 : Int32) x2 x3 x4)), .second, .val (Value.long (own_pl x5 (8 : Int32) x2 x3 x4)), .second, .unset, .unset, .unset, .unset, .unset, .unset, .unset, .unset, .unset, .unset, .unset, .unset, .unset, .unset, .unset, .unset] [(Value.int (own_pi x5 (10 : Int32) x0 x1))]))
  refine own_istore X7 hx hby at_83 (l' := #[.val (Value.int x0), .val (Value.int x1), .val (Value.long x2), .second, .val (Value.long x3), .second, .val (Value.long x4), .second, .val (Value.int x5), .val (Value.int (own_pi x5 (0 : Int32) x0 x1)), .val (Value.int (own_pi x5 (1 : Int32) x0 x1)), .val (Value.long (own_pl x5 (2 : Int32) x2 x3 x4)), .second, .val (Value.long (own_pl x5 (4 : Int32) x2 x3 x4)), .second, .val (Value.long (own_pl x5 (6 : Int32) x2 x3 x4)), .second, .val (Value.long (own_pl x5 (8 : Int32) x2 x3 x4)), .second, .val (Value.int (own_pi x5 (10 : Int32) x0 x1)), .unset, .unset, .unset, .unset, .unset, .unset, .unset, .unset, .unset, .unset, .unset, .unset, .unset, .unset, .unset]) rfl ?_
  show own_G p e below s _ _ _ (T7.setTop (mkF m 85 #[.val (Value.int x0), .val (Value.int x1), .val (Value.long x2), .second, .val (Value.long x3), .second, .val (Value.long x4), .second, .val (Value.int x5), .val (Value.int (own_pi x5 (0 : Int32) x0 x1)), .val (Value.int (own_pi x5 (1 : Int32) x0 x1)), .val (Value.long (own_pl x5 (2 : Int32) x2 x3 x4)), .second, .val (Value.long (own_pl x5 (4 : Int32) x2 x3 x4)), .second, .val (Value.long (own_pl x5 (6 : Int32) x2 x3 x4)), .second, .val (Value.long (own_pl x5 (8 : Int32) x2 x3 x4)), .second, .val (Value.int (own_pi x5 (10 : Int32) x0 x1)), .unset, .unset, .unset, .unset, .unset, .unset, .unset, .unset, .unset, .unset, .unset, .unset, .unset, .unset, .unset] []))
  refine own_iload X7 hx hby at_85 rfl ?_
  show own_G p e below s _ _ _ (T7.setTop (mkF m 87 #[.val (Value.int x0), .val (Value.int x1), .val (Value.long x2), .second, .val (Value.long x3), .second, .val (Value.long x4), .second, .val (Value.int x5), .val (Value.int (own_pi x5 (0 : Int32) x0 x1)), .val (Value.int (own_pi x5 (1 : Int32) x0 x1)), .val (Value.long (own_pl x5 (2 : Int32) x2 x3 x4)), .second, .val (Value.long (own_pl x5 (4 : Int32) x2 x3 x4)), .second, .val (Value.long (own_pl x5 (6 : Int32) x2 x3 x4)), .second, .val (Value.long (own_pl x5 (8 : Int32) x2 x3 x4)), .second, .val (Value.int (own_pi x5 (10 : Int32) x0 x1)), .unset, .unset, .unset, .unset, .unset, .unset, .unset, .unset, .unset, .unset, .unset, .unset, .unset, .unset, .unset] [(Value.int x5)]))
  refine own_bipush X7 hx hby at_87 ?_
  show own_G p e below s _ _ _ (T7.setTop (mkF m 89 #[.val (Value.int x0), .val (Value.int x1), .val (Value.long x2), .second, .val (Value.long x3), .second, .val (Value.long x4), .second, .val (Value.int x5), .val (Value.int (own_pi x5 (0 : Int32) x0 x1)), .val (Value.int (own_pi x5 (1 : Int32) x0 x1)), .val (Value.long (own_pl x5 (2 : Int32) x2 x3 x4)), .second, .val (Value.long (own_pl x5 (4 : Int32) x2 x3 x4)), .second, .val (Value.long (own_pl x5 (6 : Int32) x2 x3 x4)), .second, .val (Value.long (own_pl x5 (8 : Int32) x2 x3 x4)), .second, .val (Value.int (own_pi x5 (10 : Int32) x0 x1)), .unset, .unset, .unset, .unset, .unset, .unset, .unset, .unset, .unset, .unset, .unset, .unset, .unset, .unset, .unset] [(Value.int (11 : Int32)), (Value.int x5)]))
  refine own_iloadN X7 hx hby at_89 rfl ?_
  show own_G p e below s _ _ _ (T7.setTop (mkF m 90 #[.val (Value.int x0), .val (Value.int x1), .val (Value.long x2), .second, .val (Value.long x3), .second, .val (Value.long x4), .second, .val (Value.int x5), .val (Value.int (own_pi x5 (0 : Int32) x0 x1)), .val (Value.int (own_pi x5 (1 : Int32) x0 x1)), .val (Value.long (own_pl x5 (2 : Int32) x2 x3 x4)), .second, .val (Value.long (own_pl x5 (4 : Int32) x2 x3 x4)), .second, .val (Value.long (own_pl x5 (6 : Int32) x2 x3 x4)), .second, .val (Value.long (own_pl x5 (8 : Int32) x2 x3 x4)), .second, .val (Value.int (own_pi x5 (10 : Int32) x0 x1)), .unset, .unset, .unset, .unset, .unset, .unset, .unset, .unset, .unset, .unset, .unset, .unset, .unset, .unset, .unset] [(Value.int x0), (Value.int (11 : Int32)), (Value.int x5)]))
  refine own_iloadN X7 hx hby at_90 rfl ?_
  show own_G p e below s _ _ _ (T7.setTop (mkF m 91 #[.val (Value.int x0), .val (Value.int x1), .val (Value.long x2), .second, .val (Value.long x3), .second, .val (Value.long x4), .second, .val (Value.int x5), .val (Value.int (own_pi x5 (0 : Int32) x0 x1)), .val (Value.int (own_pi x5 (1 : Int32) x0 x1)), .val (Value.long (own_pl x5 (2 : Int32) x2 x3 x4)), .second, .val (Value.long (own_pl x5 (4 : Int32) x2 x3 x4)), .second, .val (Value.long (own_pl x5 (6 : Int32) x2 x3 x4)), .second, .val (Value.long (own_pl x5 (8 : Int32) x2 x3 x4)), .second, .val (Value.int (own_pi x5 (10 : Int32) x0 x1)), .unset, .unset, .unset, .unset, .unset, .unset, .unset, .unset, .unset, .unset, .unset, .unset, .unset, .unset, .unset] [(Value.int x1), (Value.int x0), (Value.int (11 : Int32)), (Value.int x5)]))
  obtain ⟨_, _, ⟨T8, L8, k8, n8⟩, -, X8, ⟨Lc8, hQ8, l8, y8, z8⟩, st8⟩ := Jvm.LawKit.callS X7 hx (y := (⟨"com/example/iron_log/ironlog/index/HeaderEqualsPinLaw", "pickInt", "(IIII)I"⟩ : MethodName)) hown (mvT hZ (own_w0 hw)) (mvT hZ (own_w1 hw)) (mvT hZ (own_w2 hw)) (mvT hZ (own_w3 hw)) (by decide) (backOf (W := 0) (own_rm1 l Z a0 hw [] x5 (11 : Int32) x0 x1  h0 n0 O0  ) hZ (own_w3 hw) (own_w2 hw) (by decide) (by decide)) (g := (mkF m 91 #[.val (Value.int x0), .val (Value.int x1), .val (Value.long x2), .second, .val (Value.long x3), .second, .val (Value.long x4), .second, .val (Value.int x5), .val (Value.int (own_pi x5 (0 : Int32) x0 x1)), .val (Value.int (own_pi x5 (1 : Int32) x0 x1)), .val (Value.long (own_pl x5 (2 : Int32) x2 x3 x4)), .second, .val (Value.long (own_pl x5 (4 : Int32) x2 x3 x4)), .second, .val (Value.long (own_pl x5 (6 : Int32) x2 x3 x4)), .second, .val (Value.long (own_pl x5 (8 : Int32) x2 x3 x4)), .second, .val (Value.int (own_pi x5 (10 : Int32) x0 x1)), .unset, .unset, .unset, .unset, .unset, .unset, .unset, .unset, .unset, .unset, .unset, .unset, .unset, .unset, .unset] [(Value.int x1), (Value.int x0), (Value.int (11 : Int32)), (Value.int x5)])) rfl (by rw [hml]; rfl) (argsL := [(Value.int x5), (Value.int (11 : Int32)), (Value.int x0), (Value.int x1)]) (rest := []) (lenOf own_pd2 rfl) rfl (by show 2 * 0 + _ ≤ _; exact Nat.le_of_eq rfl) (hb hby at_91) (fun _ _ => ⟨rfl, e7, (by decide : (0 : Nat) + 0 ≤ _), (by decide : (0 : Nat) + 0 ≤ _)⟩)
  dsimp only [Pt.U, Pt.locs, Pt.cells, Pt.slots] at X8 l8 y8 z8 st8 hQ8
  subst l8 y8 z8
  obtain ⟨rfl, e8, Nq8⟩ := hQ8
  have N8 := Fr.app N7 Nq8
  refine own_st st8 ?_
  show own_G p e below s _ _ _ (T8.setTop (mkF m 94 #[.val (Value.int x0), .val (Value.int x1), .val (Value.long x2), .second, .val (Value.long x3), .second, .val (Value.long x4), .second, .val (Value.int x5), .val (Value.int (own_pi x5 (0 : Int32) x0 x1)), .val (Value.int (own_pi x5 (1 : Int32) x0 x1)), .val (Value.long (own_pl x5 (2 : Int32) x2 x3 x4)), .second, .val (Value.long (own_pl x5 (4 : Int32) x2 x3 x4)), .second, .val (Value.long (own_pl x5 (6 : Int32) x2 x3 x4)), .second, .val (Value.long (own_pl x5 (8 : Int32) x2 x3 x4)), .second, .val (Value.int (own_pi x5 (10 : Int32) x0 x1)), .unset, .unset, .unset, .unset, .unset, .unset, .unset, .unset, .unset, .unset, .unset, .unset, .unset, .unset, .unset] [(Value.int (own_pi x5 (11 : Int32) x0 x1))]))
  refine own_istore X8 hx hby at_94 (l' := #[.val (Value.int x0), .val (Value.int x1), .val (Value.long x2), .second, .val (Value.long x3), .second, .val (Value.long x4), .second, .val (Value.int x5), .val (Value.int (own_pi x5 (0 : Int32) x0 x1)), .val (Value.int (own_pi x5 (1 : Int32) x0 x1)), .val (Value.long (own_pl x5 (2 : Int32) x2 x3 x4)), .second, .val (Value.long (own_pl x5 (4 : Int32) x2 x3 x4)), .second, .val (Value.long (own_pl x5 (6 : Int32) x2 x3 x4)), .second, .val (Value.long (own_pl x5 (8 : Int32) x2 x3 x4)), .second, .val (Value.int (own_pi x5 (10 : Int32) x0 x1)), .val (Value.int (own_pi x5 (11 : Int32) x0 x1)), .unset, .unset, .unset, .unset, .unset, .unset, .unset, .unset, .unset, .unset, .unset, .unset, .unset, .unset]) rfl ?_
  show own_G p e below s _ _ _ (T8.setTop (mkF m 96 #[.val (Value.int x0), .val (Value.int x1), .val (Value.long x2), .second, .val (Value.long x3), .second, .val (Value.long x4), .second, .val (Value.int x5), .val (Value.int (own_pi x5 (0 : Int32) x0 x1)), .val (Value.int (own_pi x5 (1 : Int32) x0 x1)), .val (Value.long (own_pl x5 (2 : Int32) x2 x3 x4)), .second, .val (Value.long (own_pl x5 (4 : Int32) x2 x3 x4)), .second, .val (Value.long (own_pl x5 (6 : Int32) x2 x3 x4)), .second, .val (Value.long (own_pl x5 (8 : Int32) x2 x3 x4)), .second, .val (Value.int (own_pi x5 (10 : Int32) x0 x1)), .val (Value.int (own_pi x5 (11 : Int32) x0 x1)), .unset, .unset, .unset, .unset, .unset, .unset, .unset, .unset, .unset, .unset, .unset, .unset, .unset, .unset] []))
  refine own_iload X8 hx hby at_96 rfl ?_
  show own_G p e below s _ _ _ (T8.setTop (mkF m 98 #[.val (Value.int x0), .val (Value.int x1), .val (Value.long x2), .second, .val (Value.long x3), .second, .val (Value.long x4), .second, .val (Value.int x5), .val (Value.int (own_pi x5 (0 : Int32) x0 x1)), .val (Value.int (own_pi x5 (1 : Int32) x0 x1)), .val (Value.long (own_pl x5 (2 : Int32) x2 x3 x4)), .second, .val (Value.long (own_pl x5 (4 : Int32) x2 x3 x4)), .second, .val (Value.long (own_pl x5 (6 : Int32) x2 x3 x4)), .second, .val (Value.long (own_pl x5 (8 : Int32) x2 x3 x4)), .second, .val (Value.int (own_pi x5 (10 : Int32) x0 x1)), .val (Value.int (own_pi x5 (11 : Int32) x0 x1)), .unset, .unset, .unset, .unset, .unset, .unset, .unset, .unset, .unset, .unset, .unset, .unset, .unset, .unset] [(Value.int x5)]))
  refine own_bipush X8 hx hby at_98 ?_
  show own_G p e below s _ _ _ (T8.setTop (mkF m 100 #[.val (Value.int x0), .val (Value.int x1), .val (Value.long x2), .second, .val (Value.long x3), .second, .val (Value.long x4), .second, .val (Value.int x5), .val (Value.int (own_pi x5 (0 : Int32) x0 x1)), .val (Value.int (own_pi x5 (1 : Int32) x0 x1)), .val (Value.long (own_pl x5 (2 : Int32) x2 x3 x4)), .second, .val (Value.long (own_pl x5 (4 : Int32) x2 x3 x4)), .second, .val (Value.long (own_pl x5 (6 : Int32) x2 x3 x4)), .second, .val (Value.long (own_pl x5 (8 : Int32) x2 x3 x4)), .second, .val (Value.int (own_pi x5 (10 : Int32) x0 x1)), .val (Value.int (own_pi x5 (11 : Int32) x0 x1)), .unset, .unset, .unset, .unset, .unset, .unset, .unset, .unset, .unset, .unset, .unset, .unset, .unset, .unset] [(Value.int (12 : Int32)), (Value.int x5)]))
  refine own_lloadN X8 hx hby at_100 rfl ?_
  show own_G p e below s _ _ _ (T8.setTop (mkF m 101 #[.val (Value.int x0), .val (Value.int x1), .val (Value.long x2), .second, .val (Value.long x3), .second, .val (Value.long x4), .second, .val (Value.int x5), .val (Value.int (own_pi x5 (0 : Int32) x0 x1)), .val (Value.int (own_pi x5 (1 : Int32) x0 x1)), .val (Value.long (own_pl x5 (2 : Int32) x2 x3 x4)), .second, .val (Value.long (own_pl x5 (4 : Int32) x2 x3 x4)), .second, .val (Value.long (own_pl x5 (6 : Int32) x2 x3 x4)), .second, .val (Value.long (own_pl x5 (8 : Int32) x2 x3 x4)), .second, .val (Value.int (own_pi x5 (10 : Int32) x0 x1)), .val (Value.int (own_pi x5 (11 : Int32) x0 x1)), .unset, .unset, .unset, .unset, .unset, .unset, .unset, .unset, .unset, .unset, .unset, .unset, .unset, .unset] [(Value.long x2), (Value.int (12 : Int32)), (Value.int x5)]))
  refine own_lload X8 hx hby at_101 rfl ?_
  show own_G p e below s _ _ _ (T8.setTop (mkF m 103 #[.val (Value.int x0), .val (Value.int x1), .val (Value.long x2), .second, .val (Value.long x3), .second, .val (Value.long x4), .second, .val (Value.int x5), .val (Value.int (own_pi x5 (0 : Int32) x0 x1)), .val (Value.int (own_pi x5 (1 : Int32) x0 x1)), .val (Value.long (own_pl x5 (2 : Int32) x2 x3 x4)), .second, .val (Value.long (own_pl x5 (4 : Int32) x2 x3 x4)), .second, .val (Value.long (own_pl x5 (6 : Int32) x2 x3 x4)), .second, .val (Value.long (own_pl x5 (8 : Int32) x2 x3 x4)), .second, .val (Value.int (own_pi x5 (10 : Int32) x0 x1)), .val (Value.int (own_pi x5 (11 : Int32) x0 x1)), .unset, .unset, .unset, .unset, .unset, .unset, .unset, .unset, .unset, .unset, .unset, .unset, .unset, .unset] [(Value.long x3), (Value.long x2), (Value.int (12 : Int32)), (Value.int x5)]))
  refine own_lload X8 hx hby at_103 rfl ?_
  show own_G p e below s _ _ _ (T8.setTop (mkF m 105 #[.val (Value.int x0), .val (Value.int x1), .val (Value.long x2), .second, .val (Value.long x3), .second, .val (Value.long x4), .second, .val (Value.int x5), .val (Value.int (own_pi x5 (0 : Int32) x0 x1)), .val (Value.int (own_pi x5 (1 : Int32) x0 x1)), .val (Value.long (own_pl x5 (2 : Int32) x2 x3 x4)), .second, .val (Value.long (own_pl x5 (4 : Int32) x2 x3 x4)), .second, .val (Value.long (own_pl x5 (6 : Int32) x2 x3 x4)), .second, .val (Value.long (own_pl x5 (8 : Int32) x2 x3 x4)), .second, .val (Value.int (own_pi x5 (10 : Int32) x0 x1)), .val (Value.int (own_pi x5 (11 : Int32) x0 x1)), .unset, .unset, .unset, .unset, .unset, .unset, .unset, .unset, .unset, .unset, .unset, .unset, .unset, .unset] [(Value.long x4), (Value.long x3), (Value.long x2), (Value.int (12 : Int32)), (Value.int x5)]))
  obtain ⟨_, _, ⟨T9, L9, k9, n9⟩, -, X9, ⟨Lc9, hQ9, l9, y9, z9⟩, st9⟩ := Jvm.LawKit.callS X8 hx (y := (⟨"com/example/iron_log/ironlog/index/HeaderEqualsPinLaw", "pickLong", "(IIJJJ)J"⟩ : MethodName)) hown (mvT hZ (own_w4 hw)) (mvT hZ (own_w5 hw)) (mvT hZ (own_w2 hw)) (mvT hZ (own_w6 hw)) (by decide) (backOf (W := 0) (own_rm2 l Z a0 hw [] x5 (12 : Int32) x2 x3 x4  h0 n0 O0  ) hZ (own_w6 hw) (own_w2 hw) (by decide) (by decide)) (g := (mkF m 105 #[.val (Value.int x0), .val (Value.int x1), .val (Value.long x2), .second, .val (Value.long x3), .second, .val (Value.long x4), .second, .val (Value.int x5), .val (Value.int (own_pi x5 (0 : Int32) x0 x1)), .val (Value.int (own_pi x5 (1 : Int32) x0 x1)), .val (Value.long (own_pl x5 (2 : Int32) x2 x3 x4)), .second, .val (Value.long (own_pl x5 (4 : Int32) x2 x3 x4)), .second, .val (Value.long (own_pl x5 (6 : Int32) x2 x3 x4)), .second, .val (Value.long (own_pl x5 (8 : Int32) x2 x3 x4)), .second, .val (Value.int (own_pi x5 (10 : Int32) x0 x1)), .val (Value.int (own_pi x5 (11 : Int32) x0 x1)), .unset, .unset, .unset, .unset, .unset, .unset, .unset, .unset, .unset, .unset, .unset, .unset, .unset, .unset] [(Value.long x4), (Value.long x3), (Value.long x2), (Value.int (12 : Int32)), (Value.int x5)])) rfl (by rw [hml]; rfl) (argsL := [(Value.int x5), (Value.int (12 : Int32)), (Value.long x2), (Value.long x3), (Value.long x4)]) (rest := []) (lenOf own_pd3 rfl) rfl (by show 2 * 0 + _ ≤ _; exact Nat.le_of_eq rfl) (hb hby at_105) (fun _ _ => ⟨rfl, e8, (by decide : (0 : Nat) + 0 ≤ _), (by decide : (0 : Nat) + 0 ≤ _)⟩)
  dsimp only [Pt.U, Pt.locs, Pt.cells, Pt.slots] at X9 l9 y9 z9 st9 hQ9
  subst l9 y9 z9
  obtain ⟨rfl, e9, Nq9⟩ := hQ9
  have N9 := Fr.app N8 Nq9
  refine own_st st9 ?_
  show own_G p e below s _ _ _ (T9.setTop (mkF m 108 #[.val (Value.int x0), .val (Value.int x1), .val (Value.long x2), .second, .val (Value.long x3), .second, .val (Value.long x4), .second, .val (Value.int x5), .val (Value.int (own_pi x5 (0 : Int32) x0 x1)), .val (Value.int (own_pi x5 (1 : Int32) x0 x1)), .val (Value.long (own_pl x5 (2 : Int32) x2 x3 x4)), .second, .val (Value.long (own_pl x5 (4 : Int32) x2 x3 x4)), .second, .val (Value.long (own_pl x5 (6 : Int32) x2 x3 x4)), .second, .val (Value.long (own_pl x5 (8 : Int32) x2 x3 x4)), .second, .val (Value.int (own_pi x5 (10 : Int32) x0 x1)), .val (Value.int (own_pi x5 (11 : Int32) x0 x1)), .unset, .unset, .unset, .unset, .unset, .unset, .unset, .unset, .unset, .unset, .unset, .unset, .unset, .unset] [(Value.long (own_pl x5 (12 : Int32) x2 x3 x4))]))
  refine own_lstore X9 hx hby at_108 (l' := #[.val (Value.int x0), .val (Value.int x1), .val (Value.long x2), .second, .val (Value.long x3), .second, .val (Value.long x4), .second, .val (Value.int x5), .val (Value.int (own_pi x5 (0 : Int32) x0 x1)), .val (Value.int (own_pi x5 (1 : Int32) x0 x1)), .val (Value.long (own_pl x5 (2 : Int32) x2 x3 x4)), .second, .val (Value.long (own_pl x5 (4 : Int32) x2 x3 x4)), .second, .val (Value.long (own_pl x5 (6 : Int32) x2 x3 x4)), .second, .val (Value.long (own_pl x5 (8 : Int32) x2 x3 x4)), .second, .val (Value.int (own_pi x5 (10 : Int32) x0 x1)), .val (Value.int (own_pi x5 (11 : Int32) x0 x1)), .val (Value.long (own_pl x5 (12 : Int32) x2 x3 x4)), .second, .unset, .unset, .unset, .unset, .unset, .unset, .unset, .unset, .unset, .unset, .unset, .unset]) rfl ?_
  show own_G p e below s _ _ _ (T9.setTop (mkF m 110 #[.val (Value.int x0), .val (Value.int x1), .val (Value.long x2), .second, .val (Value.long x3), .second, .val (Value.long x4), .second, .val (Value.int x5), .val (Value.int (own_pi x5 (0 : Int32) x0 x1)), .val (Value.int (own_pi x5 (1 : Int32) x0 x1)), .val (Value.long (own_pl x5 (2 : Int32) x2 x3 x4)), .second, .val (Value.long (own_pl x5 (4 : Int32) x2 x3 x4)), .second, .val (Value.long (own_pl x5 (6 : Int32) x2 x3 x4)), .second, .val (Value.long (own_pl x5 (8 : Int32) x2 x3 x4)), .second, .val (Value.int (own_pi x5 (10 : Int32) x0 x1)), .val (Value.int (own_pi x5 (11 : Int32) x0 x1)), .val (Value.long (own_pl x5 (12 : Int32) x2 x3 x4)), .second, .unset, .unset, .unset, .unset, .unset, .unset, .unset, .unset, .unset, .unset, .unset, .unset] []))
  refine own_iload X9 hx hby at_110 rfl ?_
  show own_G p e below s _ _ _ (T9.setTop (mkF m 112 #[.val (Value.int x0), .val (Value.int x1), .val (Value.long x2), .second, .val (Value.long x3), .second, .val (Value.long x4), .second, .val (Value.int x5), .val (Value.int (own_pi x5 (0 : Int32) x0 x1)), .val (Value.int (own_pi x5 (1 : Int32) x0 x1)), .val (Value.long (own_pl x5 (2 : Int32) x2 x3 x4)), .second, .val (Value.long (own_pl x5 (4 : Int32) x2 x3 x4)), .second, .val (Value.long (own_pl x5 (6 : Int32) x2 x3 x4)), .second, .val (Value.long (own_pl x5 (8 : Int32) x2 x3 x4)), .second, .val (Value.int (own_pi x5 (10 : Int32) x0 x1)), .val (Value.int (own_pi x5 (11 : Int32) x0 x1)), .val (Value.long (own_pl x5 (12 : Int32) x2 x3 x4)), .second, .unset, .unset, .unset, .unset, .unset, .unset, .unset, .unset, .unset, .unset, .unset, .unset] [(Value.int x5)]))
  refine own_bipush X9 hx hby at_112 ?_
  show own_G p e below s _ _ _ (T9.setTop (mkF m 114 #[.val (Value.int x0), .val (Value.int x1), .val (Value.long x2), .second, .val (Value.long x3), .second, .val (Value.long x4), .second, .val (Value.int x5), .val (Value.int (own_pi x5 (0 : Int32) x0 x1)), .val (Value.int (own_pi x5 (1 : Int32) x0 x1)), .val (Value.long (own_pl x5 (2 : Int32) x2 x3 x4)), .second, .val (Value.long (own_pl x5 (4 : Int32) x2 x3 x4)), .second, .val (Value.long (own_pl x5 (6 : Int32) x2 x3 x4)), .second, .val (Value.long (own_pl x5 (8 : Int32) x2 x3 x4)), .second, .val (Value.int (own_pi x5 (10 : Int32) x0 x1)), .val (Value.int (own_pi x5 (11 : Int32) x0 x1)), .val (Value.long (own_pl x5 (12 : Int32) x2 x3 x4)), .second, .unset, .unset, .unset, .unset, .unset, .unset, .unset, .unset, .unset, .unset, .unset, .unset] [(Value.int (14 : Int32)), (Value.int x5)]))
  refine own_lloadN X9 hx hby at_114 rfl ?_
  show own_G p e below s _ _ _ (T9.setTop (mkF m 115 #[.val (Value.int x0), .val (Value.int x1), .val (Value.long x2), .second, .val (Value.long x3), .second, .val (Value.long x4), .second, .val (Value.int x5), .val (Value.int (own_pi x5 (0 : Int32) x0 x1)), .val (Value.int (own_pi x5 (1 : Int32) x0 x1)), .val (Value.long (own_pl x5 (2 : Int32) x2 x3 x4)), .second, .val (Value.long (own_pl x5 (4 : Int32) x2 x3 x4)), .second, .val (Value.long (own_pl x5 (6 : Int32) x2 x3 x4)), .second, .val (Value.long (own_pl x5 (8 : Int32) x2 x3 x4)), .second, .val (Value.int (own_pi x5 (10 : Int32) x0 x1)), .val (Value.int (own_pi x5 (11 : Int32) x0 x1)), .val (Value.long (own_pl x5 (12 : Int32) x2 x3 x4)), .second, .unset, .unset, .unset, .unset, .unset, .unset, .unset, .unset, .unset, .unset, .unset, .unset] [(Value.long x2), (Value.int (14 : Int32)), (Value.int x5)]))
  refine own_lload X9 hx hby at_115 rfl ?_
  show own_G p e below s _ _ _ (T9.setTop (mkF m 117 #[.val (Value.int x0), .val (Value.int x1), .val (Value.long x2), .second, .val (Value.long x3), .second, .val (Value.long x4), .second, .val (Value.int x5), .val (Value.int (own_pi x5 (0 : Int32) x0 x1)), .val (Value.int (own_pi x5 (1 : Int32) x0 x1)), .val (Value.long (own_pl x5 (2 : Int32) x2 x3 x4)), .second, .val (Value.long (own_pl x5 (4 : Int32) x2 x3 x4)), .second, .val (Value.long (own_pl x5 (6 : Int32) x2 x3 x4)), .second, .val (Value.long (own_pl x5 (8 : Int32) x2 x3 x4)), .second, .val (Value.int (own_pi x5 (10 : Int32) x0 x1)), .val (Value.int (own_pi x5 (11 : Int32) x0 x1)), .val (Value.long (own_pl x5 (12 : Int32) x2 x3 x4)), .second, .unset, .unset, .unset, .unset, .unset, .unset, .unset, .unset, .unset, .unset, .unset, .unset] [(Value.long x3), (Value.long x2), (Value.int (14 : Int32)), (Value.int x5)]))
  refine own_lload X9 hx hby at_117 rfl ?_
  show own_G p e below s _ _ _ (T9.setTop (mkF m 119 #[.val (Value.int x0), .val (Value.int x1), .val (Value.long x2), .second, .val (Value.long x3), .second, .val (Value.long x4), .second, .val (Value.int x5), .val (Value.int (own_pi x5 (0 : Int32) x0 x1)), .val (Value.int (own_pi x5 (1 : Int32) x0 x1)), .val (Value.long (own_pl x5 (2 : Int32) x2 x3 x4)), .second, .val (Value.long (own_pl x5 (4 : Int32) x2 x3 x4)), .second, .val (Value.long (own_pl x5 (6 : Int32) x2 x3 x4)), .second, .val (Value.long (own_pl x5 (8 : Int32) x2 x3 x4)), .second, .val (Value.int (own_pi x5 (10 : Int32) x0 x1)), .val (Value.int (own_pi x5 (11 : Int32) x0 x1)), .val (Value.long (own_pl x5 (12 : Int32) x2 x3 x4)), .second, .unset, .unset, .unset, .unset, .unset, .unset, .unset, .unset, .unset, .unset, .unset, .unset] [(Value.long x4), (Value.long x3), (Value.long x2), (Value.int (14 : Int32)), (Value.int x5)]))
  obtain ⟨_, _, ⟨T10, L10, k10, n10⟩, -, X10, ⟨Lc10, hQ10, l10, y10, z10⟩, st10⟩ := Jvm.LawKit.callS X9 hx (y := (⟨"com/example/iron_log/ironlog/index/HeaderEqualsPinLaw", "pickLong", "(IIJJJ)J"⟩ : MethodName)) hown (mvT hZ (own_w4 hw)) (mvT hZ (own_w5 hw)) (mvT hZ (own_w2 hw)) (mvT hZ (own_w6 hw)) (by decide) (backOf (W := 0) (own_rm2 l Z a0 hw [] x5 (14 : Int32) x2 x3 x4  h0 n0 O0  ) hZ (own_w6 hw) (own_w2 hw) (by decide) (by decide)) (g := (mkF m 119 #[.val (Value.int x0), .val (Value.int x1), .val (Value.long x2), .second, .val (Value.long x3), .second, .val (Value.long x4), .second, .val (Value.int x5), .val (Value.int (own_pi x5 (0 : Int32) x0 x1)), .val (Value.int (own_pi x5 (1 : Int32) x0 x1)), .val (Value.long (own_pl x5 (2 : Int32) x2 x3 x4)), .second, .val (Value.long (own_pl x5 (4 : Int32) x2 x3 x4)), .second, .val (Value.long (own_pl x5 (6 : Int32) x2 x3 x4)), .second, .val (Value.long (own_pl x5 (8 : Int32) x2 x3 x4)), .second, .val (Value.int (own_pi x5 (10 : Int32) x0 x1)), .val (Value.int (own_pi x5 (11 : Int32) x0 x1)), .val (Value.long (own_pl x5 (12 : Int32) x2 x3 x4)), .second, .unset, .unset, .unset, .unset, .unset, .unset, .unset, .unset, .unset, .unset, .unset, .unset] [(Value.long x4), (Value.long x3), (Value.long x2), (Value.int (14 : Int32)), (Value.int x5)])) rfl (by rw [hml]; rfl) (argsL := [(Value.int x5), (Value.int (14 : Int32)), (Value.long x2), (Value.long x3), (Value.long x4)]) (rest := []) (lenOf own_pd3 rfl) rfl (by show 2 * 0 + _ ≤ _; exact Nat.le_of_eq rfl) (hb hby at_119) (fun _ _ => ⟨rfl, e9, (by decide : (0 : Nat) + 0 ≤ _), (by decide : (0 : Nat) + 0 ≤ _)⟩)
  dsimp only [Pt.U, Pt.locs, Pt.cells, Pt.slots] at X10 l10 y10 z10 st10 hQ10
  subst l10 y10 z10
  obtain ⟨rfl, e10, Nq10⟩ := hQ10
  have N10 := Fr.app N9 Nq10
  refine own_st st10 ?_
  show own_G p e below s _ _ _ (T10.setTop (mkF m 122 #[.val (Value.int x0), .val (Value.int x1), .val (Value.long x2), .second, .val (Value.long x3), .second, .val (Value.long x4), .second, .val (Value.int x5), .val (Value.int (own_pi x5 (0 : Int32) x0 x1)), .val (Value.int (own_pi x5 (1 : Int32) x0 x1)), .val (Value.long (own_pl x5 (2 : Int32) x2 x3 x4)), .second, .val (Value.long (own_pl x5 (4 : Int32) x2 x3 x4)), .second, .val (Value.long (own_pl x5 (6 : Int32) x2 x3 x4)), .second, .val (Value.long (own_pl x5 (8 : Int32) x2 x3 x4)), .second, .val (Value.int (own_pi x5 (10 : Int32) x0 x1)), .val (Value.int (own_pi x5 (11 : Int32) x0 x1)), .val (Value.long (own_pl x5 (12 : Int32) x2 x3 x4)), .second, .unset, .unset, .unset, .unset, .unset, .unset, .unset, .unset, .unset, .unset, .unset, .unset] [(Value.long (own_pl x5 (14 : Int32) x2 x3 x4))]))
  refine own_lstore X10 hx hby at_122 (l' := #[.val (Value.int x0), .val (Value.int x1), .val (Value.long x2), .second, .val (Value.long x3), .second, .val (Value.long x4), .second, .val (Value.int x5), .val (Value.int (own_pi x5 (0 : Int32) x0 x1)), .val (Value.int (own_pi x5 (1 : Int32) x0 x1)), .val (Value.long (own_pl x5 (2 : Int32) x2 x3 x4)), .second, .val (Value.long (own_pl x5 (4 : Int32) x2 x3 x4)), .second, .val (Value.long (own_pl x5 (6 : Int32) x2 x3 x4)), .second, .val (Value.long (own_pl x5 (8 : Int32) x2 x3 x4)), .second, .val (Value.int (own_pi x5 (10 : Int32) x0 x1)), .val (Value.int (own_pi x5 (11 : Int32) x0 x1)), .val (Value.long (own_pl x5 (12 : Int32) x2 x3 x4)), .second, .val (Value.long (own_pl x5 (14 : Int32) x2 x3 x4)), .second, .unset, .unset, .unset, .unset, .unset, .unset, .unset, .unset, .unset, .unset]) rfl ?_
  show own_G p e below s _ _ _ (T10.setTop (mkF m 124 #[.val (Value.int x0), .val (Value.int x1), .val (Value.long x2), .second, .val (Value.long x3), .second, .val (Value.long x4), .second, .val (Value.int x5), .val (Value.int (own_pi x5 (0 : Int32) x0 x1)), .val (Value.int (own_pi x5 (1 : Int32) x0 x1)), .val (Value.long (own_pl x5 (2 : Int32) x2 x3 x4)), .second, .val (Value.long (own_pl x5 (4 : Int32) x2 x3 x4)), .second, .val (Value.long (own_pl x5 (6 : Int32) x2 x3 x4)), .second, .val (Value.long (own_pl x5 (8 : Int32) x2 x3 x4)), .second, .val (Value.int (own_pi x5 (10 : Int32) x0 x1)), .val (Value.int (own_pi x5 (11 : Int32) x0 x1)), .val (Value.long (own_pl x5 (12 : Int32) x2 x3 x4)), .second, .val (Value.long (own_pl x5 (14 : Int32) x2 x3 x4)), .second, .unset, .unset, .unset, .unset, .unset, .unset, .unset, .unset, .unset, .unset] []))
  refine own_iload X10 hx hby at_124 rfl ?_
  show own_G p e below s _ _ _ (T10.setTop (mkF m 126 #[.val (Value.int x0), .val (Value.int x1), .val (Value.long x2), .second, .val (Value.long x3), .second, .val (Value.long x4), .second, .val (Value.int x5), .val (Value.int (own_pi x5 (0 : Int32) x0 x1)), .val (Value.int (own_pi x5 (1 : Int32) x0 x1)), .val (Value.long (own_pl x5 (2 : Int32) x2 x3 x4)), .second, .val (Value.long (own_pl x5 (4 : Int32) x2 x3 x4)), .second, .val (Value.long (own_pl x5 (6 : Int32) x2 x3 x4)), .second, .val (Value.long (own_pl x5 (8 : Int32) x2 x3 x4)), .second, .val (Value.int (own_pi x5 (10 : Int32) x0 x1)), .val (Value.int (own_pi x5 (11 : Int32) x0 x1)), .val (Value.long (own_pl x5 (12 : Int32) x2 x3 x4)), .second, .val (Value.long (own_pl x5 (14 : Int32) x2 x3 x4)), .second, .unset, .unset, .unset, .unset, .unset, .unset, .unset, .unset, .unset, .unset] [(Value.int x5)]))
  refine own_bipush X10 hx hby at_126 ?_
  show own_G p e below s _ _ _ (T10.setTop (mkF m 128 #[.val (Value.int x0), .val (Value.int x1), .val (Value.long x2), .second, .val (Value.long x3), .second, .val (Value.long x4), .second, .val (Value.int x5), .val (Value.int (own_pi x5 (0 : Int32) x0 x1)), .val (Value.int (own_pi x5 (1 : Int32) x0 x1)), .val (Value.long (own_pl x5 (2 : Int32) x2 x3 x4)), .second, .val (Value.long (own_pl x5 (4 : Int32) x2 x3 x4)), .second, .val (Value.long (own_pl x5 (6 : Int32) x2 x3 x4)), .second, .val (Value.long (own_pl x5 (8 : Int32) x2 x3 x4)), .second, .val (Value.int (own_pi x5 (10 : Int32) x0 x1)), .val (Value.int (own_pi x5 (11 : Int32) x0 x1)), .val (Value.long (own_pl x5 (12 : Int32) x2 x3 x4)), .second, .val (Value.long (own_pl x5 (14 : Int32) x2 x3 x4)), .second, .unset, .unset, .unset, .unset, .unset, .unset, .unset, .unset, .unset, .unset] [(Value.int (16 : Int32)), (Value.int x5)]))
  refine own_lloadN X10 hx hby at_128 rfl ?_
  show own_G p e below s _ _ _ (T10.setTop (mkF m 129 #[.val (Value.int x0), .val (Value.int x1), .val (Value.long x2), .second, .val (Value.long x3), .second, .val (Value.long x4), .second, .val (Value.int x5), .val (Value.int (own_pi x5 (0 : Int32) x0 x1)), .val (Value.int (own_pi x5 (1 : Int32) x0 x1)), .val (Value.long (own_pl x5 (2 : Int32) x2 x3 x4)), .second, .val (Value.long (own_pl x5 (4 : Int32) x2 x3 x4)), .second, .val (Value.long (own_pl x5 (6 : Int32) x2 x3 x4)), .second, .val (Value.long (own_pl x5 (8 : Int32) x2 x3 x4)), .second, .val (Value.int (own_pi x5 (10 : Int32) x0 x1)), .val (Value.int (own_pi x5 (11 : Int32) x0 x1)), .val (Value.long (own_pl x5 (12 : Int32) x2 x3 x4)), .second, .val (Value.long (own_pl x5 (14 : Int32) x2 x3 x4)), .second, .unset, .unset, .unset, .unset, .unset, .unset, .unset, .unset, .unset, .unset] [(Value.long x2), (Value.int (16 : Int32)), (Value.int x5)]))
  refine own_lload X10 hx hby at_129 rfl ?_
  show own_G p e below s _ _ _ (T10.setTop (mkF m 131 #[.val (Value.int x0), .val (Value.int x1), .val (Value.long x2), .second, .val (Value.long x3), .second, .val (Value.long x4), .second, .val (Value.int x5), .val (Value.int (own_pi x5 (0 : Int32) x0 x1)), .val (Value.int (own_pi x5 (1 : Int32) x0 x1)), .val (Value.long (own_pl x5 (2 : Int32) x2 x3 x4)), .second, .val (Value.long (own_pl x5 (4 : Int32) x2 x3 x4)), .second, .val (Value.long (own_pl x5 (6 : Int32) x2 x3 x4)), .second, .val (Value.long (own_pl x5 (8 : Int32) x2 x3 x4)), .second, .val (Value.int (own_pi x5 (10 : Int32) x0 x1)), .val (Value.int (own_pi x5 (11 : Int32) x0 x1)), .val (Value.long (own_pl x5 (12 : Int32) x2 x3 x4)), .second, .val (Value.long (own_pl x5 (14 : Int32) x2 x3 x4)), .second, .unset, .unset, .unset, .unset, .unset, .unset, .unset, .unset, .unset, .unset] [(Value.long x3), (Value.long x2), (Value.int (16 : Int32)), (Value.int x5)]))
  refine own_lload X10 hx hby at_131 rfl ?_
  show own_G p e below s _ _ _ (T10.setTop (mkF m 133 #[.val (Value.int x0), .val (Value.int x1), .val (Value.long x2), .second, .val (Value.long x3), .second, .val (Value.long x4), .second, .val (Value.int x5), .val (Value.int (own_pi x5 (0 : Int32) x0 x1)), .val (Value.int (own_pi x5 (1 : Int32) x0 x1)), .val (Value.long (own_pl x5 (2 : Int32) x2 x3 x4)), .second, .val (Value.long (own_pl x5 (4 : Int32) x2 x3 x4)), .second, .val (Value.long (own_pl x5 (6 : Int32) x2 x3 x4)), .second, .val (Value.long (own_pl x5 (8 : Int32) x2 x3 x4)), .second, .val (Value.int (own_pi x5 (10 : Int32) x0 x1)), .val (Value.int (own_pi x5 (11 : Int32) x0 x1)), .val (Value.long (own_pl x5 (12 : Int32) x2 x3 x4)), .second, .val (Value.long (own_pl x5 (14 : Int32) x2 x3 x4)), .second, .unset, .unset, .unset, .unset, .unset, .unset, .unset, .unset, .unset, .unset] [(Value.long x4), (Value.long x3), (Value.long x2), (Value.int (16 : Int32)), (Value.int x5)]))
  obtain ⟨_, _, ⟨T11, L11, k11, n11⟩, -, X11, ⟨Lc11, hQ11, l11, y11, z11⟩, st11⟩ := Jvm.LawKit.callS X10 hx (y := (⟨"com/example/iron_log/ironlog/index/HeaderEqualsPinLaw", "pickLong", "(IIJJJ)J"⟩ : MethodName)) hown (mvT hZ (own_w4 hw)) (mvT hZ (own_w5 hw)) (mvT hZ (own_w2 hw)) (mvT hZ (own_w6 hw)) (by decide) (backOf (W := 0) (own_rm2 l Z a0 hw [] x5 (16 : Int32) x2 x3 x4  h0 n0 O0  ) hZ (own_w6 hw) (own_w2 hw) (by decide) (by decide)) (g := (mkF m 133 #[.val (Value.int x0), .val (Value.int x1), .val (Value.long x2), .second, .val (Value.long x3), .second, .val (Value.long x4), .second, .val (Value.int x5), .val (Value.int (own_pi x5 (0 : Int32) x0 x1)), .val (Value.int (own_pi x5 (1 : Int32) x0 x1)), .val (Value.long (own_pl x5 (2 : Int32) x2 x3 x4)), .second, .val (Value.long (own_pl x5 (4 : Int32) x2 x3 x4)), .second, .val (Value.long (own_pl x5 (6 : Int32) x2 x3 x4)), .second, .val (Value.long (own_pl x5 (8 : Int32) x2 x3 x4)), .second, .val (Value.int (own_pi x5 (10 : Int32) x0 x1)), .val (Value.int (own_pi x5 (11 : Int32) x0 x1)), .val (Value.long (own_pl x5 (12 : Int32) x2 x3 x4)), .second, .val (Value.long (own_pl x5 (14 : Int32) x2 x3 x4)), .second, .unset, .unset, .unset, .unset, .unset, .unset, .unset, .unset, .unset, .unset] [(Value.long x4), (Value.long x3), (Value.long x2), (Value.int (16 : Int32)), (Value.int x5)])) rfl (by rw [hml]; rfl) (argsL := [(Value.int x5), (Value.int (16 : Int32)), (Value.long x2), (Value.long x3), (Value.long x4)]) (rest := []) (lenOf own_pd3 rfl) rfl (by show 2 * 0 + _ ≤ _; exact Nat.le_of_eq rfl) (hb hby at_133) (fun _ _ => ⟨rfl, e10, (by decide : (0 : Nat) + 0 ≤ _), (by decide : (0 : Nat) + 0 ≤ _)⟩)
  dsimp only [Pt.U, Pt.locs, Pt.cells, Pt.slots] at X11 l11 y11 z11 st11 hQ11
  subst l11 y11 z11
  obtain ⟨rfl, e11, Nq11⟩ := hQ11
  have N11 := Fr.app N10 Nq11
  refine own_st st11 ?_
  show own_G p e below s _ _ _ (T11.setTop (mkF m 136 #[.val (Value.int x0), .val (Value.int x1), .val (Value.long x2), .second, .val (Value.long x3), .second, .val (Value.long x4), .second, .val (Value.int x5), .val (Value.int (own_pi x5 (0 : Int32) x0 x1)), .val (Value.int (own_pi x5 (1 : Int32) x0 x1)), .val (Value.long (own_pl x5 (2 : Int32) x2 x3 x4)), .second, .val (Value.long (own_pl x5 (4 : Int32) x2 x3 x4)), .second, .val (Value.long (own_pl x5 (6 : Int32) x2 x3 x4)), .second, .val (Value.long (own_pl x5 (8 : Int32) x2 x3 x4)), .second, .val (Value.int (own_pi x5 (10 : Int32) x0 x1)), .val (Value.int (own_pi x5 (11 : Int32) x0 x1)), .val (Value.long (own_pl x5 (12 : Int32) x2 x3 x4)), .second, .val (Value.long (own_pl x5 (14 : Int32) x2 x3 x4)), .second, .unset, .unset, .unset, .unset, .unset, .unset, .unset, .unset, .unset, .unset] [(Value.long (own_pl x5 (16 : Int32) x2 x3 x4))]))
  refine own_lstore X11 hx hby at_136 (l' := #[.val (Value.int x0), .val (Value.int x1), .val (Value.long x2), .second, .val (Value.long x3), .second, .val (Value.long x4), .second, .val (Value.int x5), .val (Value.int (own_pi x5 (0 : Int32) x0 x1)), .val (Value.int (own_pi x5 (1 : Int32) x0 x1)), .val (Value.long (own_pl x5 (2 : Int32) x2 x3 x4)), .second, .val (Value.long (own_pl x5 (4 : Int32) x2 x3 x4)), .second, .val (Value.long (own_pl x5 (6 : Int32) x2 x3 x4)), .second, .val (Value.long (own_pl x5 (8 : Int32) x2 x3 x4)), .second, .val (Value.int (own_pi x5 (10 : Int32) x0 x1)), .val (Value.int (own_pi x5 (11 : Int32) x0 x1)), .val (Value.long (own_pl x5 (12 : Int32) x2 x3 x4)), .second, .val (Value.long (own_pl x5 (14 : Int32) x2 x3 x4)), .second, .val (Value.long (own_pl x5 (16 : Int32) x2 x3 x4)), .second, .unset, .unset, .unset, .unset, .unset, .unset, .unset, .unset]) rfl ?_
  show own_G p e below s _ _ _ (T11.setTop (mkF m 138 #[.val (Value.int x0), .val (Value.int x1), .val (Value.long x2), .second, .val (Value.long x3), .second, .val (Value.long x4), .second, .val (Value.int x5), .val (Value.int (own_pi x5 (0 : Int32) x0 x1)), .val (Value.int (own_pi x5 (1 : Int32) x0 x1)), .val (Value.long (own_pl x5 (2 : Int32) x2 x3 x4)), .second, .val (Value.long (own_pl x5 (4 : Int32) x2 x3 x4)), .second, .val (Value.long (own_pl x5 (6 : Int32) x2 x3 x4)), .second, .val (Value.long (own_pl x5 (8 : Int32) x2 x3 x4)), .second, .val (Value.int (own_pi x5 (10 : Int32) x0 x1)), .val (Value.int (own_pi x5 (11 : Int32) x0 x1)), .val (Value.long (own_pl x5 (12 : Int32) x2 x3 x4)), .second, .val (Value.long (own_pl x5 (14 : Int32) x2 x3 x4)), .second, .val (Value.long (own_pl x5 (16 : Int32) x2 x3 x4)), .second, .unset, .unset, .unset, .unset, .unset, .unset, .unset, .unset] []))
  refine own_iload X11 hx hby at_138 rfl ?_
  show own_G p e below s _ _ _ (T11.setTop (mkF m 140 #[.val (Value.int x0), .val (Value.int x1), .val (Value.long x2), .second, .val (Value.long x3), .second, .val (Value.long x4), .second, .val (Value.int x5), .val (Value.int (own_pi x5 (0 : Int32) x0 x1)), .val (Value.int (own_pi x5 (1 : Int32) x0 x1)), .val (Value.long (own_pl x5 (2 : Int32) x2 x3 x4)), .second, .val (Value.long (own_pl x5 (4 : Int32) x2 x3 x4)), .second, .val (Value.long (own_pl x5 (6 : Int32) x2 x3 x4)), .second, .val (Value.long (own_pl x5 (8 : Int32) x2 x3 x4)), .second, .val (Value.int (own_pi x5 (10 : Int32) x0 x1)), .val (Value.int (own_pi x5 (11 : Int32) x0 x1)), .val (Value.long (own_pl x5 (12 : Int32) x2 x3 x4)), .second, .val (Value.long (own_pl x5 (14 : Int32) x2 x3 x4)), .second, .val (Value.long (own_pl x5 (16 : Int32) x2 x3 x4)), .second, .unset, .unset, .unset, .unset, .unset, .unset, .unset, .unset] [(Value.int x5)]))
  refine own_bipush X11 hx hby at_140 ?_
  show own_G p e below s _ _ _ (T11.setTop (mkF m 142 #[.val (Value.int x0), .val (Value.int x1), .val (Value.long x2), .second, .val (Value.long x3), .second, .val (Value.long x4), .second, .val (Value.int x5), .val (Value.int (own_pi x5 (0 : Int32) x0 x1)), .val (Value.int (own_pi x5 (1 : Int32) x0 x1)), .val (Value.long (own_pl x5 (2 : Int32) x2 x3 x4)), .second, .val (Value.long (own_pl x5 (4 : Int32) x2 x3 x4)), .second, .val (Value.long (own_pl x5 (6 : Int32) x2 x3 x4)), .second, .val (Value.long (own_pl x5 (8 : Int32) x2 x3 x4)), .second, .val (Value.int (own_pi x5 (10 : Int32) x0 x1)), .val (Value.int (own_pi x5 (11 : Int32) x0 x1)), .val (Value.long (own_pl x5 (12 : Int32) x2 x3 x4)), .second, .val (Value.long (own_pl x5 (14 : Int32) x2 x3 x4)), .second, .val (Value.long (own_pl x5 (16 : Int32) x2 x3 x4)), .second, .unset, .unset, .unset, .unset, .unset, .unset, .unset, .unset] [(Value.int (18 : Int32)), (Value.int x5)]))
  refine own_lloadN X11 hx hby at_142 rfl ?_
  show own_G p e below s _ _ _ (T11.setTop (mkF m 143 #[.val (Value.int x0), .val (Value.int x1), .val (Value.long x2), .second, .val (Value.long x3), .second, .val (Value.long x4), .second, .val (Value.int x5), .val (Value.int (own_pi x5 (0 : Int32) x0 x1)), .val (Value.int (own_pi x5 (1 : Int32) x0 x1)), .val (Value.long (own_pl x5 (2 : Int32) x2 x3 x4)), .second, .val (Value.long (own_pl x5 (4 : Int32) x2 x3 x4)), .second, .val (Value.long (own_pl x5 (6 : Int32) x2 x3 x4)), .second, .val (Value.long (own_pl x5 (8 : Int32) x2 x3 x4)), .second, .val (Value.int (own_pi x5 (10 : Int32) x0 x1)), .val (Value.int (own_pi x5 (11 : Int32) x0 x1)), .val (Value.long (own_pl x5 (12 : Int32) x2 x3 x4)), .second, .val (Value.long (own_pl x5 (14 : Int32) x2 x3 x4)), .second, .val (Value.long (own_pl x5 (16 : Int32) x2 x3 x4)), .second, .unset, .unset, .unset, .unset, .unset, .unset, .unset, .unset] [(Value.long x2), (Value.int (18 : Int32)), (Value.int x5)]))
  refine own_lload X11 hx hby at_143 rfl ?_
  show own_G p e below s _ _ _ (T11.setTop (mkF m 145 #[.val (Value.int x0), .val (Value.int x1), .val (Value.long x2), .second, .val (Value.long x3), .second, .val (Value.long x4), .second, .val (Value.int x5), .val (Value.int (own_pi x5 (0 : Int32) x0 x1)), .val (Value.int (own_pi x5 (1 : Int32) x0 x1)), .val (Value.long (own_pl x5 (2 : Int32) x2 x3 x4)), .second, .val (Value.long (own_pl x5 (4 : Int32) x2 x3 x4)), .second, .val (Value.long (own_pl x5 (6 : Int32) x2 x3 x4)), .second, .val (Value.long (own_pl x5 (8 : Int32) x2 x3 x4)), .second, .val (Value.int (own_pi x5 (10 : Int32) x0 x1)), .val (Value.int (own_pi x5 (11 : Int32) x0 x1)), .val (Value.long (own_pl x5 (12 : Int32) x2 x3 x4)), .second, .val (Value.long (own_pl x5 (14 : Int32) x2 x3 x4)), .second, .val (Value.long (own_pl x5 (16 : Int32) x2 x3 x4)), .second, .unset, .unset, .unset, .unset, .unset, .unset, .unset, .unset] [(Value.long x3), (Value.long x2), (Value.int (18 : Int32)), (Value.int x5)]))
  refine own_lload X11 hx hby at_145 rfl ?_
  show own_G p e below s _ _ _ (T11.setTop (mkF m 147 #[.val (Value.int x0), .val (Value.int x1), .val (Value.long x2), .second, .val (Value.long x3), .second, .val (Value.long x4), .second, .val (Value.int x5), .val (Value.int (own_pi x5 (0 : Int32) x0 x1)), .val (Value.int (own_pi x5 (1 : Int32) x0 x1)), .val (Value.long (own_pl x5 (2 : Int32) x2 x3 x4)), .second, .val (Value.long (own_pl x5 (4 : Int32) x2 x3 x4)), .second, .val (Value.long (own_pl x5 (6 : Int32) x2 x3 x4)), .second, .val (Value.long (own_pl x5 (8 : Int32) x2 x3 x4)), .second, .val (Value.int (own_pi x5 (10 : Int32) x0 x1)), .val (Value.int (own_pi x5 (11 : Int32) x0 x1)), .val (Value.long (own_pl x5 (12 : Int32) x2 x3 x4)), .second, .val (Value.long (own_pl x5 (14 : Int32) x2 x3 x4)), .second, .val (Value.long (own_pl x5 (16 : Int32) x2 x3 x4)), .second, .unset, .unset, .unset, .unset, .unset, .unset, .unset, .unset] [(Value.long x4), (Value.long x3), (Value.long x2), (Value.int (18 : Int32)), (Value.int x5)]))
  obtain ⟨_, _, ⟨T12, L12, k12, n12⟩, -, X12, ⟨Lc12, hQ12, l12, y12, z12⟩, st12⟩ := Jvm.LawKit.callS X11 hx (y := (⟨"com/example/iron_log/ironlog/index/HeaderEqualsPinLaw", "pickLong", "(IIJJJ)J"⟩ : MethodName)) hown (mvT hZ (own_w4 hw)) (mvT hZ (own_w5 hw)) (mvT hZ (own_w2 hw)) (mvT hZ (own_w6 hw)) (by decide) (backOf (W := 0) (own_rm2 l Z a0 hw [] x5 (18 : Int32) x2 x3 x4  h0 n0 O0  ) hZ (own_w6 hw) (own_w2 hw) (by decide) (by decide)) (g := (mkF m 147 #[.val (Value.int x0), .val (Value.int x1), .val (Value.long x2), .second, .val (Value.long x3), .second, .val (Value.long x4), .second, .val (Value.int x5), .val (Value.int (own_pi x5 (0 : Int32) x0 x1)), .val (Value.int (own_pi x5 (1 : Int32) x0 x1)), .val (Value.long (own_pl x5 (2 : Int32) x2 x3 x4)), .second, .val (Value.long (own_pl x5 (4 : Int32) x2 x3 x4)), .second, .val (Value.long (own_pl x5 (6 : Int32) x2 x3 x4)), .second, .val (Value.long (own_pl x5 (8 : Int32) x2 x3 x4)), .second, .val (Value.int (own_pi x5 (10 : Int32) x0 x1)), .val (Value.int (own_pi x5 (11 : Int32) x0 x1)), .val (Value.long (own_pl x5 (12 : Int32) x2 x3 x4)), .second, .val (Value.long (own_pl x5 (14 : Int32) x2 x3 x4)), .second, .val (Value.long (own_pl x5 (16 : Int32) x2 x3 x4)), .second, .unset, .unset, .unset, .unset, .unset, .unset, .unset, .unset] [(Value.long x4), (Value.long x3), (Value.long x2), (Value.int (18 : Int32)), (Value.int x5)])) rfl (by rw [hml]; rfl) (argsL := [(Value.int x5), (Value.int (18 : Int32)), (Value.long x2), (Value.long x3), (Value.long x4)]) (rest := []) (lenOf own_pd3 rfl) rfl (by show 2 * 0 + _ ≤ _; exact Nat.le_of_eq rfl) (hb hby at_147) (fun _ _ => ⟨rfl, e11, (by decide : (0 : Nat) + 0 ≤ _), (by decide : (0 : Nat) + 0 ≤ _)⟩)
  dsimp only [Pt.U, Pt.locs, Pt.cells, Pt.slots] at X12 l12 y12 z12 st12 hQ12
  subst l12 y12 z12
  obtain ⟨rfl, e12, Nq12⟩ := hQ12
  have N12 := Fr.app N11 Nq12
  refine own_st st12 ?_
  show own_G p e below s _ _ _ (T12.setTop (mkF m 150 #[.val (Value.int x0), .val (Value.int x1), .val (Value.long x2), .second, .val (Value.long x3), .second, .val (Value.long x4), .second, .val (Value.int x5), .val (Value.int (own_pi x5 (0 : Int32) x0 x1)), .val (Value.int (own_pi x5 (1 : Int32) x0 x1)), .val (Value.long (own_pl x5 (2 : Int32) x2 x3 x4)), .second, .val (Value.long (own_pl x5 (4 : Int32) x2 x3 x4)), .second, .val (Value.long (own_pl x5 (6 : Int32) x2 x3 x4)), .second, .val (Value.long (own_pl x5 (8 : Int32) x2 x3 x4)), .second, .val (Value.int (own_pi x5 (10 : Int32) x0 x1)), .val (Value.int (own_pi x5 (11 : Int32) x0 x1)), .val (Value.long (own_pl x5 (12 : Int32) x2 x3 x4)), .second, .val (Value.long (own_pl x5 (14 : Int32) x2 x3 x4)), .second, .val (Value.long (own_pl x5 (16 : Int32) x2 x3 x4)), .second, .unset, .unset, .unset, .unset, .unset, .unset, .unset, .unset] [(Value.long (own_pl x5 (18 : Int32) x2 x3 x4))]))
  refine own_lstore X12 hx hby at_150 (l' := #[.val (Value.int x0), .val (Value.int x1), .val (Value.long x2), .second, .val (Value.long x3), .second, .val (Value.long x4), .second, .val (Value.int x5), .val (Value.int (own_pi x5 (0 : Int32) x0 x1)), .val (Value.int (own_pi x5 (1 : Int32) x0 x1)), .val (Value.long (own_pl x5 (2 : Int32) x2 x3 x4)), .second, .val (Value.long (own_pl x5 (4 : Int32) x2 x3 x4)), .second, .val (Value.long (own_pl x5 (6 : Int32) x2 x3 x4)), .second, .val (Value.long (own_pl x5 (8 : Int32) x2 x3 x4)), .second, .val (Value.int (own_pi x5 (10 : Int32) x0 x1)), .val (Value.int (own_pi x5 (11 : Int32) x0 x1)), .val (Value.long (own_pl x5 (12 : Int32) x2 x3 x4)), .second, .val (Value.long (own_pl x5 (14 : Int32) x2 x3 x4)), .second, .val (Value.long (own_pl x5 (16 : Int32) x2 x3 x4)), .second, .val (Value.long (own_pl x5 (18 : Int32) x2 x3 x4)), .second, .unset, .unset, .unset, .unset, .unset, .unset]) rfl ?_
  show own_G p e below s _ _ _ (T12.setTop (mkF m 152 #[.val (Value.int x0), .val (Value.int x1), .val (Value.long x2), .second, .val (Value.long x3), .second, .val (Value.long x4), .second, .val (Value.int x5), .val (Value.int (own_pi x5 (0 : Int32) x0 x1)), .val (Value.int (own_pi x5 (1 : Int32) x0 x1)), .val (Value.long (own_pl x5 (2 : Int32) x2 x3 x4)), .second, .val (Value.long (own_pl x5 (4 : Int32) x2 x3 x4)), .second, .val (Value.long (own_pl x5 (6 : Int32) x2 x3 x4)), .second, .val (Value.long (own_pl x5 (8 : Int32) x2 x3 x4)), .second, .val (Value.int (own_pi x5 (10 : Int32) x0 x1)), .val (Value.int (own_pi x5 (11 : Int32) x0 x1)), .val (Value.long (own_pl x5 (12 : Int32) x2 x3 x4)), .second, .val (Value.long (own_pl x5 (14 : Int32) x2 x3 x4)), .second, .val (Value.long (own_pl x5 (16 : Int32) x2 x3 x4)), .second, .val (Value.long (own_pl x5 (18 : Int32) x2 x3 x4)), .second, .unset, .unset, .unset, .unset, .unset, .unset] []))
  refine own_iload X12 hx hby at_152 rfl ?_
  show own_G p e below s _ _ _ (T12.setTop (mkF m 154 #[.val (Value.int x0), .val (Value.int x1), .val (Value.long x2), .second, .val (Value.long x3), .second, .val (Value.long x4), .second, .val (Value.int x5), .val (Value.int (own_pi x5 (0 : Int32) x0 x1)), .val (Value.int (own_pi x5 (1 : Int32) x0 x1)), .val (Value.long (own_pl x5 (2 : Int32) x2 x3 x4)), .second, .val (Value.long (own_pl x5 (4 : Int32) x2 x3 x4)), .second, .val (Value.long (own_pl x5 (6 : Int32) x2 x3 x4)), .second, .val (Value.long (own_pl x5 (8 : Int32) x2 x3 x4)), .second, .val (Value.int (own_pi x5 (10 : Int32) x0 x1)), .val (Value.int (own_pi x5 (11 : Int32) x0 x1)), .val (Value.long (own_pl x5 (12 : Int32) x2 x3 x4)), .second, .val (Value.long (own_pl x5 (14 : Int32) x2 x3 x4)), .second, .val (Value.long (own_pl x5 (16 : Int32) x2 x3 x4)), .second, .val (Value.long (own_pl x5 (18 : Int32) x2 x3 x4)), .second, .unset, .unset, .unset, .unset, .unset, .unset] [(Value.int x5)]))
  refine own_bipush X12 hx hby at_154 ?_
  show own_G p e below s _ _ _ (T12.setTop (mkF m 156 #[.val (Value.int x0), .val (Value.int x1), .val (Value.long x2), .second, .val (Value.long x3), .second, .val (Value.long x4), .second, .val (Value.int x5), .val (Value.int (own_pi x5 (0 : Int32) x0 x1)), .val (Value.int (own_pi x5 (1 : Int32) x0 x1)), .val (Value.long (own_pl x5 (2 : Int32) x2 x3 x4)), .second, .val (Value.long (own_pl x5 (4 : Int32) x2 x3 x4)), .second, .val (Value.long (own_pl x5 (6 : Int32) x2 x3 x4)), .second, .val (Value.long (own_pl x5 (8 : Int32) x2 x3 x4)), .second, .val (Value.int (own_pi x5 (10 : Int32) x0 x1)), .val (Value.int (own_pi x5 (11 : Int32) x0 x1)), .val (Value.long (own_pl x5 (12 : Int32) x2 x3 x4)), .second, .val (Value.long (own_pl x5 (14 : Int32) x2 x3 x4)), .second, .val (Value.long (own_pl x5 (16 : Int32) x2 x3 x4)), .second, .val (Value.long (own_pl x5 (18 : Int32) x2 x3 x4)), .second, .unset, .unset, .unset, .unset, .unset, .unset] [(Value.int (20 : Int32)), (Value.int x5)]))
  refine own_iushr X12 hx hby at_156 ?_
  show own_G p e below s _ _ _ (T12.setTop (mkF m 157 #[.val (Value.int x0), .val (Value.int x1), .val (Value.long x2), .second, .val (Value.long x3), .second, .val (Value.long x4), .second, .val (Value.int x5), .val (Value.int (own_pi x5 (0 : Int32) x0 x1)), .val (Value.int (own_pi x5 (1 : Int32) x0 x1)), .val (Value.long (own_pl x5 (2 : Int32) x2 x3 x4)), .second, .val (Value.long (own_pl x5 (4 : Int32) x2 x3 x4)), .second, .val (Value.long (own_pl x5 (6 : Int32) x2 x3 x4)), .second, .val (Value.long (own_pl x5 (8 : Int32) x2 x3 x4)), .second, .val (Value.int (own_pi x5 (10 : Int32) x0 x1)), .val (Value.int (own_pi x5 (11 : Int32) x0 x1)), .val (Value.long (own_pl x5 (12 : Int32) x2 x3 x4)), .second, .val (Value.long (own_pl x5 (14 : Int32) x2 x3 x4)), .second, .val (Value.long (own_pl x5 (16 : Int32) x2 x3 x4)), .second, .val (Value.long (own_pl x5 (18 : Int32) x2 x3 x4)), .second, .unset, .unset, .unset, .unset, .unset, .unset] [(Value.int ((x5.toUInt32 >>> ((20 : Int32) &&& 31).toUInt32).toInt32))]))
  refine own_iconst X12 hx hby at_157 ?_
  show own_G p e below s _ _ _ (T12.setTop (mkF m 158 #[.val (Value.int x0), .val (Value.int x1), .val (Value.long x2), .second, .val (Value.long x3), .second, .val (Value.long x4), .second, .val (Value.int x5), .val (Value.int (own_pi x5 (0 : Int32) x0 x1)), .val (Value.int (own_pi x5 (1 : Int32) x0 x1)), .val (Value.long (own_pl x5 (2 : Int32) x2 x3 x4)), .second, .val (Value.long (own_pl x5 (4 : Int32) x2 x3 x4)), .second, .val (Value.long (own_pl x5 (6 : Int32) x2 x3 x4)), .second, .val (Value.long (own_pl x5 (8 : Int32) x2 x3 x4)), .second, .val (Value.int (own_pi x5 (10 : Int32) x0 x1)), .val (Value.int (own_pi x5 (11 : Int32) x0 x1)), .val (Value.long (own_pl x5 (12 : Int32) x2 x3 x4)), .second, .val (Value.long (own_pl x5 (14 : Int32) x2 x3 x4)), .second, .val (Value.long (own_pl x5 (16 : Int32) x2 x3 x4)), .second, .val (Value.long (own_pl x5 (18 : Int32) x2 x3 x4)), .second, .unset, .unset, .unset, .unset, .unset, .unset] [(Value.int (3 : Int32)), (Value.int ((x5.toUInt32 >>> ((20 : Int32) &&& 31).toUInt32).toInt32))]))
  refine own_iand X12 hx hby at_158 ?_
  show own_G p e below s _ _ _ (T12.setTop (mkF m 159 #[.val (Value.int x0), .val (Value.int x1), .val (Value.long x2), .second, .val (Value.long x3), .second, .val (Value.long x4), .second, .val (Value.int x5), .val (Value.int (own_pi x5 (0 : Int32) x0 x1)), .val (Value.int (own_pi x5 (1 : Int32) x0 x1)), .val (Value.long (own_pl x5 (2 : Int32) x2 x3 x4)), .second, .val (Value.long (own_pl x5 (4 : Int32) x2 x3 x4)), .second, .val (Value.long (own_pl x5 (6 : Int32) x2 x3 x4)), .second, .val (Value.long (own_pl x5 (8 : Int32) x2 x3 x4)), .second, .val (Value.int (own_pi x5 (10 : Int32) x0 x1)), .val (Value.int (own_pi x5 (11 : Int32) x0 x1)), .val (Value.long (own_pl x5 (12 : Int32) x2 x3 x4)), .second, .val (Value.long (own_pl x5 (14 : Int32) x2 x3 x4)), .second, .val (Value.long (own_pl x5 (16 : Int32) x2 x3 x4)), .second, .val (Value.long (own_pl x5 (18 : Int32) x2 x3 x4)), .second, .unset, .unset, .unset, .unset, .unset, .unset] [(Value.int (((x5.toUInt32 >>> ((20 : Int32) &&& 31).toUInt32).toInt32) &&& (3 : Int32)))]))
  refine own_istore X12 hx hby at_159 (l' := #[.val (Value.int x0), .val (Value.int x1), .val (Value.long x2), .second, .val (Value.long x3), .second, .val (Value.long x4), .second, .val (Value.int x5), .val (Value.int (own_pi x5 (0 : Int32) x0 x1)), .val (Value.int (own_pi x5 (1 : Int32) x0 x1)), .val (Value.long (own_pl x5 (2 : Int32) x2 x3 x4)), .second, .val (Value.long (own_pl x5 (4 : Int32) x2 x3 x4)), .second, .val (Value.long (own_pl x5 (6 : Int32) x2 x3 x4)), .second, .val (Value.long (own_pl x5 (8 : Int32) x2 x3 x4)), .second, .val (Value.int (own_pi x5 (10 : Int32) x0 x1)), .val (Value.int (own_pi x5 (11 : Int32) x0 x1)), .val (Value.long (own_pl x5 (12 : Int32) x2 x3 x4)), .second, .val (Value.long (own_pl x5 (14 : Int32) x2 x3 x4)), .second, .val (Value.long (own_pl x5 (16 : Int32) x2 x3 x4)), .second, .val (Value.long (own_pl x5 (18 : Int32) x2 x3 x4)), .second, .val (Value.int (((x5.toUInt32 >>> ((20 : Int32) &&& 31).toUInt32).toInt32) &&& (3 : Int32))), .unset, .unset, .unset, .unset, .unset]) rfl ?_
  show own_G p e below s _ _ _ (T12.setTop (mkF m 161 #[.val (Value.int x0), .val (Value.int x1), .val (Value.long x2), .second, .val (Value.long x3), .second, .val (Value.long x4), .second, .val (Value.int x5), .val (Value.int (own_pi x5 (0 : Int32) x0 x1)), .val (Value.int (own_pi x5 (1 : Int32) x0 x1)), .val (Value.long (own_pl x5 (2 : Int32) x2 x3 x4)), .second, .val (Value.long (own_pl x5 (4 : Int32) x2 x3 x4)), .second, .val (Value.long (own_pl x5 (6 : Int32) x2 x3 x4)), .second, .val (Value.long (own_pl x5 (8 : Int32) x2 x3 x4)), .second, .val (Value.int (own_pi x5 (10 : Int32) x0 x1)), .val (Value.int (own_pi x5 (11 : Int32) x0 x1)), .val (Value.long (own_pl x5 (12 : Int32) x2 x3 x4)), .second, .val (Value.long (own_pl x5 (14 : Int32) x2 x3 x4)), .second, .val (Value.long (own_pl x5 (16 : Int32) x2 x3 x4)), .second, .val (Value.long (own_pl x5 (18 : Int32) x2 x3 x4)), .second, .val (Value.int (((x5.toUInt32 >>> ((20 : Int32) &&& 31).toUInt32).toInt32) &&& (3 : Int32))), .unset, .unset, .unset, .unset, .unset] []))
  generalize (own_pi x5 (0 : Int32) x0 x1) = u0
  generalize (own_pi x5 (10 : Int32) x0 x1) = v0
  generalize (own_pi x5 (1 : Int32) x0 x1) = u1
  generalize (own_pi x5 (11 : Int32) x0 x1) = v1
  generalize (own_pl x5 (2 : Int32) x2 x3 x4) = u2
  generalize (own_pl x5 (12 : Int32) x2 x3 x4) = v2
  generalize (own_pl x5 (4 : Int32) x2 x3 x4) = u3
  generalize (own_pl x5 (14 : Int32) x2 x3 x4) = v3
  generalize (own_pl x5 (6 : Int32) x2 x3 x4) = u4
  generalize (own_pl x5 (16 : Int32) x2 x3 x4) = v4
  generalize (own_pl x5 (8 : Int32) x2 x3 x4) = u5
  generalize (own_pl x5 (18 : Int32) x2 x3 x4) = v5
  generalize (((x5.toUInt32 >>> ((20 : Int32) &&& 31).toUInt32).toInt32) &&& (3 : Int32)) = md
  show own_G p e below s _ _ _ (T12.setTop (mkF m 161 #[.val (Value.int x0), .val (Value.int x1), .val (Value.long x2), .second, .val (Value.long x3), .second, .val (Value.long x4), .second, .val (Value.int x5), .val (Value.int u0), .val (Value.int u1), .val (Value.long u2), .second, .val (Value.long u3), .second, .val (Value.long u4), .second, .val (Value.long u5), .second, .val (Value.int v0), .val (Value.int v1), .val (Value.long v2), .second, .val (Value.long v3), .second, .val (Value.long v4), .second, .val (Value.long v5), .second, .val (Value.int md), .unset, .unset, .unset, .unset, .unset] []))
  obtain ⟨T13, h13, X13, e13, E13, A13, D13, -, st13⟩ := newO X12 hx hZ hown (own_w7 hw) (own_w8 hw) (own_w9 hw) e12 (g := (mkF m 161 #[.val (Value.int x0), .val (Value.int x1), .val (Value.long x2), .second, .val (Value.long x3), .second, .val (Value.long x4), .second, .val (Value.int x5), .val (Value.int u0), .val (Value.int u1), .val (Value.long u2), .second, .val (Value.long u3), .second, .val (Value.long u4), .second, .val (Value.long u5), .second, .val (Value.int v0), .val (Value.int v1), .val (Value.long v2), .second, .val (Value.long v3), .second, .val (Value.long v4), .second, .val (Value.long v5), .second, .val (Value.int md), .unset, .unset, .unset, .unset, .unset] [])) rfl (hb hby at_161) (by decide) (by decide)
  obtain ⟨b13, g13⟩ : ∃ z, z = h0.size := ⟨_, rfl⟩
  rw [← g13] at A13 D13 st13
  have O14 := Old.ext O0 E13
  have g13n : n0 ≤ b13 := by rw [g13]; exact O0.1 ▸ O0.2.1
  have F13_slotCount : Fld Z h13 b13 "com/example/iron_log/ironlog/index/IndexFile$Header" "slotCount" "I" (Value.int (0 : Int32)) := D13 (Or.inr (own_w17 hw)) (ty := .int) (by decide)
  have F13_count : Fld Z h13 b13 "com/example/iron_log/ironlog/index/IndexFile$Header" "count" "I" (Value.int (0 : Int32)) := D13 (Or.inr (own_w19 hw)) (ty := .int) (by decide)
  have F13_beginTime : Fld Z h13 b13 "com/example/iron_log/ironlog/index/IndexFile$Header" "beginTime" "J" (Value.long (0 : Int64)) := D13 (Or.inr (own_w21 hw)) (ty := .long) (by decide)
  have F13_endTime : Fld Z h13 b13 "com/example/iron_log/ironlog/index/IndexFile$Header" "endTime" "J" (Value.long (0 : Int64)) := D13 (Or.inr (own_w23 hw)) (ty := .long) (by decide)
  have F13_beginOffset : Fld Z h13 b13 "com/example/iron_log/ironlog/index/IndexFile$Header" "beginOffset" "J" (Value.long (0 : Int64)) := D13 (Or.inr (own_w25 hw)) (ty := .long) (by decide)
  have F13_endOffset : Fld Z h13 b13 "com/example/iron_log/ironlog/index/IndexFile$Header" "endOffset" "J" (Value.long (0 : Int64)) := D13 (Or.inr (own_w27 hw)) (ty := .long) (by decide)
  refine own_st st13 ?_
  show own_G p e below s _ _ _ (T13.setTop (mkF m 164 #[.val (Value.int x0), .val (Value.int x1), .val (Value.long x2), .second, .val (Value.long x3), .second, .val (Value.long x4), .second, .val (Value.int x5), .val (Value.int u0), .val (Value.int u1), .val (Value.long u2), .second, .val (Value.long u3), .second, .val (Value.long u4), .second, .val (Value.long u5), .second, .val (Value.int v0), .val (Value.int v1), .val (Value.long v2), .second, .val (Value.long v3), .second, .val (Value.long v4), .second, .val (Value.long v5), .second, .val (Value.int md), .unset, .unset, .unset, .unset, .unset] [(Value.ref b13)]))
  refine own_dup X13 hx hby at_164 rfl ?_
  show own_G p e below s _ _ _ (T13.setTop (mkF m 165 #[.val (Value.int x0), .val (Value.int x1), .val (Value.long x2), .second, .val (Value.long x3), .second, .val (Value.long x4), .second, .val (Value.int x5), .val (Value.int u0), .val (Value.int u1), .val (Value.long u2), .second, .val (Value.long u3), .second, .val (Value.long u4), .second, .val (Value.long u5), .second, .val (Value.int v0), .val (Value.int v1), .val (Value.long v2), .second, .val (Value.long v3), .second, .val (Value.long v4), .second, .val (Value.long v5), .second, .val (Value.int md), .unset, .unset, .unset, .unset, .unset] [(Value.ref b13), (Value.ref b13)]))
  refine own_iload X13 hx hby at_165 rfl ?_
  show own_G p e below s _ _ _ (T13.setTop (mkF m 167 #[.val (Value.int x0), .val (Value.int x1), .val (Value.long x2), .second, .val (Value.long x3), .second, .val (Value.long x4), .second, .val (Value.int x5), .val (Value.int u0), .val (Value.int u1), .val (Value.long u2), .second, .val (Value.long u3), .second, .val (Value.long u4), .second, .val (Value.long u5), .second, .val (Value.int v0), .val (Value.int v1), .val (Value.long v2), .second, .val (Value.long v3), .second, .val (Value.long v4), .second, .val (Value.long v5), .second, .val (Value.int md), .unset, .unset, .unset, .unset, .unset] [(Value.int u0), (Value.ref b13), (Value.ref b13)]))
  refine own_iload X13 hx hby at_167 rfl ?_
  show own_G p e below s _ _ _ (T13.setTop (mkF m 169 #[.val (Value.int x0), .val (Value.int x1), .val (Value.long x2), .second, .val (Value.long x3), .second, .val (Value.long x4), .second, .val (Value.int x5), .val (Value.int u0), .val (Value.int u1), .val (Value.long u2), .second, .val (Value.long u3), .second, .val (Value.long u4), .second, .val (Value.long u5), .second, .val (Value.int v0), .val (Value.int v1), .val (Value.long v2), .second, .val (Value.long v3), .second, .val (Value.long v4), .second, .val (Value.long v5), .second, .val (Value.int md), .unset, .unset, .unset, .unset, .unset] [(Value.int u1), (Value.int u0), (Value.ref b13), (Value.ref b13)]))
  refine own_lload X13 hx hby at_169 rfl ?_
  show own_G p e below s _ _ _ (T13.setTop (mkF m 171 #[.val (Value.int x0), .val (Value.int x1), .val (Value.long x2), .second, .val (Value.long x3), .second, .val (Value.long x4), .second, .val (Value.int x5), .val (Value.int u0), .val (Value.int u1), .val (Value.long u2), .second, .val (Value.long u3), .second, .val (Value.long u4), .second, .val (Value.long u5), .second, .val (Value.int v0), .val (Value.int v1), .val (Value.long v2), .second, .val (Value.long v3), .second, .val (Value.long v4), .second, .val (Value.long v5), .second, .val (Value.int md), .unset, .unset, .unset, .unset, .unset] [(Value.long u2), (Value.int u1), (Value.int u0), (Value.ref b13), (Value.ref b13)]))
  refine own_lload X13 hx hby at_171 rfl ?_
  show own_G p e below s _ _ _ (T13.setTop (mkF m 173 #[.val (Value.int x0), .val (Value.int x1), .val (Value.long x2), .second, .val (Value.long x3), .second, .val (Value.long x4), .second, .val (Value.int x5), .val (Value.int u0), .val (Value.int u1), .val (Value.long u2), .second, .val (Value.long u3), .second, .val (Value.long u4), .second, .val (Value.long u5), .second, .val (Value.int v0), .val (Value.int v1), .val (Value.long v2), .second, .val (Value.long v3), .second, .val (Value.long v4), .second, .val (Value.long v5), .second, .val (Value.int md), .unset, .unset, .unset, .unset, .unset] [(Value.long u3), (Value.long u2), (Value.int u1), (Value.int u0), (Value.ref b13), (Value.ref b13)]))
  refine own_lload X13 hx hby at_173 rfl ?_
  show own_G p e below s _ _ _ (T13.setTop (mkF m 175 #[.val (Value.int x0), .val (Value.int x1), .val (Value.long x2), .second, .val (Value.long x3), .second, .val (Value.long x4), .second, .val (Value.int x5), .val (Value.int u0), .val (Value.int u1), .val (Value.long u2), .second, .val (Value.long u3), .second, .val (Value.long u4), .second, .val (Value.long u5), .second, .val (Value.int v0), .val (Value.int v1), .val (Value.long v2), .second, .val (Value.long v3), .second, .val (Value.long v4), .second, .val (Value.long v5), .second, .val (Value.int md), .unset, .unset, .unset, .unset, .unset] [(Value.long u4), (Value.long u3), (Value.long u2), (Value.int u1), (Value.int u0), (Value.ref b13), (Value.ref b13)]))
  refine own_lload X13 hx hby at_175 rfl ?_
  show own_G p e below s _ _ _ (T13.setTop (mkF m 177 #[.val (Value.int x0), .val (Value.int x1), .val (Value.long x2), .second, .val (Value.long x3), .second, .val (Value.long x4), .second, .val (Value.int x5), .val (Value.int u0), .val (Value.int u1), .val (Value.long u2), .second, .val (Value.long u3), .second, .val (Value.long u4), .second, .val (Value.long u5), .second, .val (Value.int v0), .val (Value.int v1), .val (Value.long v2), .second, .val (Value.long v3), .second, .val (Value.long v4), .second, .val (Value.long v5), .second, .val (Value.int md), .unset, .unset, .unset, .unset, .unset] [(Value.long u5), (Value.long u4), (Value.long u3), (Value.long u2), (Value.int u1), (Value.int u0), (Value.ref b13), (Value.ref b13)]))
  obtain ⟨_, _, ⟨T15, L15, k15, n15⟩, -, X15, ⟨Lc15, hQ15, l15, y15, z15⟩, st15⟩ := X13.specialBack hx (y := (⟨"com/example/iron_log/ironlog/index/IndexFile$Header", "<init>", "(IIJJJJ)V"⟩ : MethodName)) rfl hown (mvT hZ (own_w10 hw)) (mvT hZ (own_w11 hw)) (mvT hZ (own_w12 hw)) (by decide) (backOf (W := 1) (own_rm3 l Z a0 hw [] b13 u0 u1 u2 u3 u4 u5  h13 n0 O14  A13 F13_slotCount F13_count F13_beginTime F13_endTime F13_beginOffset F13_endOffset g13n) hZ (own_w12 hw) (own_w9 hw) (by decide) (by decide)) (g := (mkF m 177 #[.val (Value.int x0), .val (Value.int x1), .val (Value.long x2), .second, .val (Value.long x3), .second, .val (Value.long x4), .second, .val (Value.int x5), .val (Value.int u0), .val (Value.int u1), .val (Value.long u2), .second, .val (Value.long u3), .second, .val (Value.long u4), .second, .val (Value.long u5), .second, .val (Value.int v0), .val (Value.int v1), .val (Value.long v2), .second, .val (Value.long v3), .second, .val (Value.long v4), .second, .val (Value.long v5), .second, .val (Value.int md), .unset, .unset, .unset, .unset, .unset] [(Value.long u5), (Value.long u4), (Value.long u3), (Value.long u2), (Value.int u1), (Value.int u0), (Value.ref b13), (Value.ref b13)])) rfl (by rw [hml]; rfl) (Steps.refl _) (a := b13) (argsL := [(Value.int u0), (Value.int u1), (Value.long u2), (Value.long u3), (Value.long u4), (Value.long u5)]) (rest := [(Value.ref b13)]) (lenOf own_pd4 rfl) rfl (by show 2 * 0 + _ ≤ _; exact Nat.le_of_eq rfl) (hb hby at_177) (fun _ _ => ⟨rfl, e13, (by decide : (1 : Nat) + 0 ≤ _), (by decide : (6 : Nat) + 0 ≤ _)⟩)
  dsimp only [Pt.U, Pt.locs, Pt.cells, Pt.slots] at X15 l15 y15 z15 st15 hQ15
  subst l15 y15 z15
  obtain ⟨rfl, Nq15, Kq15, Eq15, Fq15_slotCount, Fq15_count, Fq15_beginTime, Fq15_endTime, Fq15_beginOffset, Fq15_endOffset⟩ := hQ15
  have N15 := Fr.app N12 Nq15
  have E16_b13 := Exa.keep A13 Kq15
  have O16 := Old.keep O14 Kq15 (allS g13n all0)
  refine own_tr st15 ?_
  show own_G p e below s _ _ _ (T15.setTop (mkF m 180 #[.val (Value.int x0), .val (Value.int x1), .val (Value.long x2), .second, .val (Value.long x3), .second, .val (Value.long x4), .second, .val (Value.int x5), .val (Value.int u0), .val (Value.int u1), .val (Value.long u2), .second, .val (Value.long u3), .second, .val (Value.long u4), .second, .val (Value.long u5), .second, .val (Value.int v0), .val (Value.int v1), .val (Value.long v2), .second, .val (Value.long v3), .second, .val (Value.long v4), .second, .val (Value.long v5), .second, .val (Value.int md), .unset, .unset, .unset, .unset, .unset] [(Value.ref b13)]))
  refine own_astore X15 hx hby at_180 rfl (l' := #[.val (Value.int x0), .val (Value.int x1), .val (Value.long x2), .second, .val (Value.long x3), .second, .val (Value.long x4), .second, .val (Value.int x5), .val (Value.int u0), .val (Value.int u1), .val (Value.long u2), .second, .val (Value.long u3), .second, .val (Value.long u4), .second, .val (Value.long u5), .second, .val (Value.int v0), .val (Value.int v1), .val (Value.long v2), .second, .val (Value.long v3), .second, .val (Value.long v4), .second, .val (Value.long v5), .second, .val (Value.int md), .val (Value.ref b13), .unset, .unset, .unset, .unset]) rfl ?_
  show own_G p e below s _ _ _ (T15.setTop (mkF m 182 #[.val (Value.int x0), .val (Value.int x1), .val (Value.long x2), .second, .val (Value.long x3), .second, .val (Value.long x4), .second, .val (Value.int x5), .val (Value.int u0), .val (Value.int u1), .val (Value.long u2), .second, .val (Value.long u3), .second, .val (Value.long u4), .second, .val (Value.long u5), .second, .val (Value.int v0), .val (Value.int v1), .val (Value.long v2), .second, .val (Value.long v3), .second, .val (Value.long v4), .second, .val (Value.long v5), .second, .val (Value.int md), .val (Value.ref b13), .unset, .unset, .unset, .unset] []))
  obtain ⟨T17, h17, X17, e17, E17, A17, D17, -, st17⟩ := newO X15 hx hZ hown (own_w7 hw) (own_w8 hw) (own_w9 hw) rfl (g := (mkF m 182 #[.val (Value.int x0), .val (Value.int x1), .val (Value.long x2), .second, .val (Value.long x3), .second, .val (Value.long x4), .second, .val (Value.int x5), .val (Value.int u0), .val (Value.int u1), .val (Value.long u2), .second, .val (Value.long u3), .second, .val (Value.long u4), .second, .val (Value.long u5), .second, .val (Value.int v0), .val (Value.int v1), .val (Value.long v2), .second, .val (Value.long v3), .second, .val (Value.long v4), .second, .val (Value.long v5), .second, .val (Value.int md), .val (Value.ref b13), .unset, .unset, .unset, .unset] [])) rfl (hb hby at_182) (by decide) (by decide)
  obtain ⟨b17, g17⟩ : ∃ z, z = T15.heap.size := ⟨_, rfl⟩
  rw [← g17] at A17 D17 st17
  have ne17_b13 : b13 ≠ b17 := by rw [g17]; exact Nat.ne_of_lt Fq15_slotCount.lt
  have F18_b13_slotCount := Fld.ext E17 Fq15_slotCount
  have F18_b13_count := Fld.ext E17 Fq15_count
  have F18_b13_beginTime := Fld.ext E17 Fq15_beginTime
  have F18_b13_endTime := Fld.ext E17 Fq15_endTime
  have F18_b13_beginOffset := Fld.ext E17 Fq15_beginOffset
  have F18_b13_endOffset := Fld.ext E17 Fq15_endOffset
  have E18_b13 := Exa.ext E17 Eq15
  have O18 := Old.ext O16 E17
  have g17n : n0 ≤ b17 := by rw [g17]; exact O16.1 ▸ O16.2.1
  have F17_slotCount : Fld Z h17 b17 "com/example/iron_log/ironlog/index/IndexFile$Header" "slotCount" "I" (Value.int (0 : Int32)) := D17 (Or.inr (own_w17 hw)) (ty := .int) (by decide)
  have F17_count : Fld Z h17 b17 "com/example/iron_log/ironlog/index/IndexFile$Header" "count" "I" (Value.int (0 : Int32)) := D17 (Or.inr (own_w19 hw)) (ty := .int) (by decide)
  have F17_beginTime : Fld Z h17 b17 "com/example/iron_log/ironlog/index/IndexFile$Header" "beginTime" "J" (Value.long (0 : Int64)) := D17 (Or.inr (own_w21 hw)) (ty := .long) (by decide)
  have F17_endTime : Fld Z h17 b17 "com/example/iron_log/ironlog/index/IndexFile$Header" "endTime" "J" (Value.long (0 : Int64)) := D17 (Or.inr (own_w23 hw)) (ty := .long) (by decide)
  have F17_beginOffset : Fld Z h17 b17 "com/example/iron_log/ironlog/index/IndexFile$Header" "beginOffset" "J" (Value.long (0 : Int64)) := D17 (Or.inr (own_w25 hw)) (ty := .long) (by decide)
  have F17_endOffset : Fld Z h17 b17 "com/example/iron_log/ironlog/index/IndexFile$Header" "endOffset" "J" (Value.long (0 : Int64)) := D17 (Or.inr (own_w27 hw)) (ty := .long) (by decide)
  refine own_st st17 ?_
  show own_G p e below s _ _ _ (T17.setTop (mkF m 185 #[.val (Value.int x0), .val (Value.int x1), .val (Value.long x2), .second, .val (Value.long x3), .second, .val (Value.long x4), .second, .val (Value.int x5), .val (Value.int u0), .val (Value.int u1), .val (Value.long u2), .second, .val (Value.long u3), .second, .val (Value.long u4), .second, .val (Value.long u5), .second, .val (Value.int v0), .val (Value.int v1), .val (Value.long v2), .second, .val (Value.long v3), .second, .val (Value.long v4), .second, .val (Value.long v5), .second, .val (Value.int md), .val (Value.ref b13), .unset, .unset, .unset, .unset] [(Value.ref b17)]))
  refine own_dup X17 hx hby at_185 rfl ?_
  show own_G p e below s _ _ _ (T17.setTop (mkF m 186 #[.val (Value.int x0), .val (Value.int x1), .val (Value.long x2), .second, .val (Value.long x3), .second, .val (Value.long x4), .second, .val (Value.int x5), .val (Value.int u0), .val (Value.int u1), .val (Value.long u2), .second, .val (Value.long u3), .second, .val (Value.long u4), .second, .val (Value.long u5), .second, .val (Value.int v0), .val (Value.int v1), .val (Value.long v2), .second, .val (Value.long v3), .second, .val (Value.long v4), .second, .val (Value.long v5), .second, .val (Value.int md), .val (Value.ref b13), .unset, .unset, .unset, .unset] [(Value.ref b17), (Value.ref b17)]))
  refine own_iload X17 hx hby at_186 rfl ?_
  show own_G p e below s _ _ _ (T17.setTop (mkF m 188 #[.val (Value.int x0), .val (Value.int x1), .val (Value.long x2), .second, .val (Value.long x3), .second, .val (Value.long x4), .second, .val (Value.int x5), .val (Value.int u0), .val (Value.int u1), .val (Value.long u2), .second, .val (Value.long u3), .second, .val (Value.long u4), .second, .val (Value.long u5), .second, .val (Value.int v0), .val (Value.int v1), .val (Value.long v2), .second, .val (Value.long v3), .second, .val (Value.long v4), .second, .val (Value.long v5), .second, .val (Value.int md), .val (Value.ref b13), .unset, .unset, .unset, .unset] [(Value.int v0), (Value.ref b17), (Value.ref b17)]))
  refine own_iload X17 hx hby at_188 rfl ?_
  show own_G p e below s _ _ _ (T17.setTop (mkF m 190 #[.val (Value.int x0), .val (Value.int x1), .val (Value.long x2), .second, .val (Value.long x3), .second, .val (Value.long x4), .second, .val (Value.int x5), .val (Value.int u0), .val (Value.int u1), .val (Value.long u2), .second, .val (Value.long u3), .second, .val (Value.long u4), .second, .val (Value.long u5), .second, .val (Value.int v0), .val (Value.int v1), .val (Value.long v2), .second, .val (Value.long v3), .second, .val (Value.long v4), .second, .val (Value.long v5), .second, .val (Value.int md), .val (Value.ref b13), .unset, .unset, .unset, .unset] [(Value.int v1), (Value.int v0), (Value.ref b17), (Value.ref b17)]))
  refine own_lload X17 hx hby at_190 rfl ?_
  show own_G p e below s _ _ _ (T17.setTop (mkF m 192 #[.val (Value.int x0), .val (Value.int x1), .val (Value.long x2), .second, .val (Value.long x3), .second, .val (Value.long x4), .second, .val (Value.int x5), .val (Value.int u0), .val (Value.int u1), .val (Value.long u2), .second, .val (Value.long u3), .second, .val (Value.long u4), .second, .val (Value.long u5), .second, .val (Value.int v0), .val (Value.int v1), .val (Value.long v2), .second, .val (Value.long v3), .second, .val (Value.long v4), .second, .val (Value.long v5), .second, .val (Value.int md), .val (Value.ref b13), .unset, .unset, .unset, .unset] [(Value.long v2), (Value.int v1), (Value.int v0), (Value.ref b17), (Value.ref b17)]))
  refine own_lload X17 hx hby at_192 rfl ?_
  show own_G p e below s _ _ _ (T17.setTop (mkF m 194 #[.val (Value.int x0), .val (Value.int x1), .val (Value.long x2), .second, .val (Value.long x3), .second, .val (Value.long x4), .second, .val (Value.int x5), .val (Value.int u0), .val (Value.int u1), .val (Value.long u2), .second, .val (Value.long u3), .second, .val (Value.long u4), .second, .val (Value.long u5), .second, .val (Value.int v0), .val (Value.int v1), .val (Value.long v2), .second, .val (Value.long v3), .second, .val (Value.long v4), .second, .val (Value.long v5), .second, .val (Value.int md), .val (Value.ref b13), .unset, .unset, .unset, .unset] [(Value.long v3), (Value.long v2), (Value.int v1), (Value.int v0), (Value.ref b17), (Value.ref b17)]))
  refine own_lload X17 hx hby at_194 rfl ?_
  show own_G p e below s _ _ _ (T17.setTop (mkF m 196 #[.val (Value.int x0), .val (Value.int x1), .val (Value.long x2), .second, .val (Value.long x3), .second, .val (Value.long x4), .second, .val (Value.int x5), .val (Value.int u0), .val (Value.int u1), .val (Value.long u2), .second, .val (Value.long u3), .second, .val (Value.long u4), .second, .val (Value.long u5), .second, .val (Value.int v0), .val (Value.int v1), .val (Value.long v2), .second, .val (Value.long v3), .second, .val (Value.long v4), .second, .val (Value.long v5), .second, .val (Value.int md), .val (Value.ref b13), .unset, .unset, .unset, .unset] [(Value.long v4), (Value.long v3), (Value.long v2), (Value.int v1), (Value.int v0), (Value.ref b17), (Value.ref b17)]))
  refine own_lload X17 hx hby at_196 rfl ?_
  show own_G p e below s _ _ _ (T17.setTop (mkF m 198 #[.val (Value.int x0), .val (Value.int x1), .val (Value.long x2), .second, .val (Value.long x3), .second, .val (Value.long x4), .second, .val (Value.int x5), .val (Value.int u0), .val (Value.int u1), .val (Value.long u2), .second, .val (Value.long u3), .second, .val (Value.long u4), .second, .val (Value.long u5), .second, .val (Value.int v0), .val (Value.int v1), .val (Value.long v2), .second, .val (Value.long v3), .second, .val (Value.long v4), .second, .val (Value.long v5), .second, .val (Value.int md), .val (Value.ref b13), .unset, .unset, .unset, .unset] [(Value.long v5), (Value.long v4), (Value.long v3), (Value.long v2), (Value.int v1), (Value.int v0), (Value.ref b17), (Value.ref b17)]))
  obtain ⟨_, _, ⟨T19, L19, k19, n19⟩, -, X19, ⟨Lc19, hQ19, l19, y19, z19⟩, st19⟩ := X17.specialBack hx (y := (⟨"com/example/iron_log/ironlog/index/IndexFile$Header", "<init>", "(IIJJJJ)V"⟩ : MethodName)) rfl hown (mvT hZ (own_w10 hw)) (mvT hZ (own_w11 hw)) (mvT hZ (own_w12 hw)) (by decide) (backOf (W := 1) (own_rm3 l Z a0 hw [] b17 v0 v1 v2 v3 v4 v5  h17 n0 O18  A17 F17_slotCount F17_count F17_beginTime F17_endTime F17_beginOffset F17_endOffset g17n) hZ (own_w12 hw) (own_w9 hw) (by decide) (by decide)) (g := (mkF m 198 #[.val (Value.int x0), .val (Value.int x1), .val (Value.long x2), .second, .val (Value.long x3), .second, .val (Value.long x4), .second, .val (Value.int x5), .val (Value.int u0), .val (Value.int u1), .val (Value.long u2), .second, .val (Value.long u3), .second, .val (Value.long u4), .second, .val (Value.long u5), .second, .val (Value.int v0), .val (Value.int v1), .val (Value.long v2), .second, .val (Value.long v3), .second, .val (Value.long v4), .second, .val (Value.long v5), .second, .val (Value.int md), .val (Value.ref b13), .unset, .unset, .unset, .unset] [(Value.long v5), (Value.long v4), (Value.long v3), (Value.long v2), (Value.int v1), (Value.int v0), (Value.ref b17), (Value.ref b17)])) rfl (by rw [hml]; rfl) (Steps.refl _) (a := b17) (argsL := [(Value.int v0), (Value.int v1), (Value.long v2), (Value.long v3), (Value.long v4), (Value.long v5)]) (rest := [(Value.ref b17)]) (lenOf own_pd4 rfl) rfl (by show 2 * 0 + _ ≤ _; exact Nat.le_of_eq rfl) (hb hby at_198) (fun _ _ => ⟨rfl, e17, (by decide : (2 : Nat) + 0 ≤ _), (by decide : (12 : Nat) + 0 ≤ _)⟩)
  dsimp only [Pt.U, Pt.locs, Pt.cells, Pt.slots] at X19 l19 y19 z19 st19 hQ19
  subst l19 y19 z19
  obtain ⟨rfl, Nq19, Kq19, Eq19, Fq19_slotCount, Fq19_count, Fq19_beginTime, Fq19_endTime, Fq19_beginOffset, Fq19_endOffset⟩ := hQ19
  have N19 := Fr.app N15 Nq19
  have F20_b13_slotCount := Fld.keep F18_b13_slotCount Kq19 (ninS ne17_b13 nin0)
  have F20_b13_count := Fld.keep F18_b13_count Kq19 (ninS ne17_b13 nin0)
  have F20_b13_beginTime := Fld.keep F18_b13_beginTime Kq19 (ninS ne17_b13 nin0)
  have F20_b13_endTime := Fld.keep F18_b13_endTime Kq19 (ninS ne17_b13 nin0)
  have F20_b13_beginOffset := Fld.keep F18_b13_beginOffset Kq19 (ninS ne17_b13 nin0)
  have F20_b13_endOffset := Fld.keep F18_b13_endOffset Kq19 (ninS ne17_b13 nin0)
  have E20_b13 := Exa.keep E18_b13 Kq19
  have E20_b17 := Exa.keep A17 Kq19
  have O20 := Old.keep O18 Kq19 (allS g17n all0)
  refine own_tr st19 ?_
  show own_G p e below s _ _ _ (T19.setTop (mkF m 201 #[.val (Value.int x0), .val (Value.int x1), .val (Value.long x2), .second, .val (Value.long x3), .second, .val (Value.long x4), .second, .val (Value.int x5), .val (Value.int u0), .val (Value.int u1), .val (Value.long u2), .second, .val (Value.long u3), .second, .val (Value.long u4), .second, .val (Value.long u5), .second, .val (Value.int v0), .val (Value.int v1), .val (Value.long v2), .second, .val (Value.long v3), .second, .val (Value.long v4), .second, .val (Value.long v5), .second, .val (Value.int md), .val (Value.ref b13), .unset, .unset, .unset, .unset] [(Value.ref b17)]))
  refine own_astore X19 hx hby at_201 rfl (l' := #[.val (Value.int x0), .val (Value.int x1), .val (Value.long x2), .second, .val (Value.long x3), .second, .val (Value.long x4), .second, .val (Value.int x5), .val (Value.int u0), .val (Value.int u1), .val (Value.long u2), .second, .val (Value.long u3), .second, .val (Value.long u4), .second, .val (Value.long u5), .second, .val (Value.int v0), .val (Value.int v1), .val (Value.long v2), .second, .val (Value.long v3), .second, .val (Value.long v4), .second, .val (Value.long v5), .second, .val (Value.int md), .val (Value.ref b13), .val (Value.ref b17), .unset, .unset, .unset]) rfl ?_
  show own_G p e below s _ _ _ (T19.setTop (mkF m 203 #[.val (Value.int x0), .val (Value.int x1), .val (Value.long x2), .second, .val (Value.long x3), .second, .val (Value.long x4), .second, .val (Value.int x5), .val (Value.int u0), .val (Value.int u1), .val (Value.long u2), .second, .val (Value.long u3), .second, .val (Value.long u4), .second, .val (Value.long u5), .second, .val (Value.int v0), .val (Value.int v1), .val (Value.long v2), .second, .val (Value.long v3), .second, .val (Value.long v4), .second, .val (Value.long v5), .second, .val (Value.int md), .val (Value.ref b13), .val (Value.ref b17), .unset, .unset, .unset] []))
  have J2 : ∀ (v : Int32) (hv : v = (own_hd u0 u1 u2 u3 u4 u5 v0 v1 v2 v3 v4 v5)), own_G p e below s (own_rm0_Q Z x0 x1 x2 x3 x4 x5 arr f h0 n0) 16 128 (T19.setTop (mkF m 254 #[.val (Value.int x0), .val (Value.int x1), .val (Value.long x2), .second, .val (Value.long x3), .second, .val (Value.long x4), .second, .val (Value.int x5), .val (Value.int u0), .val (Value.int u1), .val (Value.long u2), .second, .val (Value.long u3), .second, .val (Value.long u4), .second, .val (Value.long u5), .second, .val (Value.int v0), .val (Value.int v1), .val (Value.long v2), .second, .val (Value.long v3), .second, .val (Value.long v4), .second, .val (Value.long v5), .second, .val (Value.int md), .val (Value.ref b13), .val (Value.ref b17), .unset, .unset, .unset] [(Value.int v)])) := by
    intro v hv
    subst hv
    show own_G p e below s _ _ _ (T19.setTop (mkF m 254 #[.val (Value.int x0), .val (Value.int x1), .val (Value.long x2), .second, .val (Value.long x3), .second, .val (Value.long x4), .second, .val (Value.int x5), .val (Value.int u0), .val (Value.int u1), .val (Value.long u2), .second, .val (Value.long u3), .second, .val (Value.long u4), .second, .val (Value.long u5), .second, .val (Value.int v0), .val (Value.int v1), .val (Value.long v2), .second, .val (Value.long v3), .second, .val (Value.long v4), .second, .val (Value.long v5), .second, .val (Value.int md), .val (Value.ref b13), .val (Value.ref b17), .unset, .unset, .unset] [(Value.int (own_hd u0 u1 u2 u3 u4 u5 v0 v1 v2 v3 v4 v5))]))
    refine own_istore X19 hx hby at_254 (l' := #[.val (Value.int x0), .val (Value.int x1), .val (Value.long x2), .second, .val (Value.long x3), .second, .val (Value.long x4), .second, .val (Value.int x5), .val (Value.int u0), .val (Value.int u1), .val (Value.long u2), .second, .val (Value.long u3), .second, .val (Value.long u4), .second, .val (Value.long u5), .second, .val (Value.int v0), .val (Value.int v1), .val (Value.long v2), .second, .val (Value.long v3), .second, .val (Value.long v4), .second, .val (Value.long v5), .second, .val (Value.int md), .val (Value.ref b13), .val (Value.ref b17), .val (Value.int (own_hd u0 u1 u2 u3 u4 u5 v0 v1 v2 v3 v4 v5)), .unset, .unset]) rfl ?_
    show own_G p e below s _ _ _ (T19.setTop (mkF m 256 #[.val (Value.int x0), .val (Value.int x1), .val (Value.long x2), .second, .val (Value.long x3), .second, .val (Value.long x4), .second, .val (Value.int x5), .val (Value.int u0), .val (Value.int u1), .val (Value.long u2), .second, .val (Value.long u3), .second, .val (Value.long u4), .second, .val (Value.long u5), .second, .val (Value.int v0), .val (Value.int v1), .val (Value.long v2), .second, .val (Value.long v3), .second, .val (Value.long v4), .second, .val (Value.long v5), .second, .val (Value.int md), .val (Value.ref b13), .val (Value.ref b17), .val (Value.int (own_hd u0 u1 u2 u3 u4 u5 v0 v1 v2 v3 v4 v5)), .unset, .unset] []))
    refine own_aload X19 hx hby at_256 rfl rfl ?_
    show own_G p e below s _ _ _ (T19.setTop (mkF m 258 #[.val (Value.int x0), .val (Value.int x1), .val (Value.long x2), .second, .val (Value.long x3), .second, .val (Value.long x4), .second, .val (Value.int x5), .val (Value.int u0), .val (Value.int u1), .val (Value.long u2), .second, .val (Value.long u3), .second, .val (Value.long u4), .second, .val (Value.long u5), .second, .val (Value.int v0), .val (Value.int v1), .val (Value.long v2), .second, .val (Value.long v3), .second, .val (Value.long v4), .second, .val (Value.long v5), .second, .val (Value.int md), .val (Value.ref b13), .val (Value.ref b17), .val (Value.int (own_hd u0 u1 u2 u3 u4 u5 v0 v1 v2 v3 v4 v5)), .unset, .unset] [(Value.ref b13)]))
    refine own_aload X19 hx hby at_258 rfl rfl ?_
    show own_G p e below s _ _ _ (T19.setTop (mkF m 260 #[.val (Value.int x0), .val (Value.int x1), .val (Value.long x2), .second, .val (Value.long x3), .second, .val (Value.long x4), .second, .val (Value.int x5), .val (Value.int u0), .val (Value.int u1), .val (Value.long u2), .second, .val (Value.long u3), .second, .val (Value.long u4), .second, .val (Value.long u5), .second, .val (Value.int v0), .val (Value.int v1), .val (Value.long v2), .second, .val (Value.long v3), .second, .val (Value.long v4), .second, .val (Value.long v5), .second, .val (Value.int md), .val (Value.ref b13), .val (Value.ref b17), .val (Value.int (own_hd u0 u1 u2 u3 u4 u5 v0 v1 v2 v3 v4 v5)), .unset, .unset] [(Value.ref b17), (Value.ref b13)]))
    obtain ⟨cq21, kq21, q21a, q21b, q21c⟩ := isOf (T := T19) hZ rfl E20_b13
    obtain ⟨_, _, ⟨T21, L21, k21, n21⟩, -, X21, ⟨Lc21, hQ21, l21, y21, z21⟩, st21⟩ := X19.virtualBack hx (y := (⟨"com/example/iron_log/ironlog/index/IndexFile$Header", "equals", "(Ljava/lang/Object;)Z"⟩ : MethodName)) (z := (⟨"com/example/iron_log/ironlog/index/IndexFile$Header", "equals", "(Ljava/lang/Object;)Z"⟩ : MethodName)) hown (mvT hZ (own_w28 hw)) (mvT hZ (own_w29 hw)) (notFace_of_selects (args := #[]) (mvT hZ (own_w31 hw))) (mvT hZ (own_w31 hw)) (mvT hZ (own_w30 hw)) (by decide) (backOf (W := 0) (own_rmE l Z a0 hw [] b13 b17 u0 u1 u2 u3 u4 u5 v0 v1 v2 v3 v4 v5 T19.heap n0 O20  F20_b13_slotCount F20_b13_count F20_b13_beginTime F20_b13_endTime F20_b13_beginOffset F20_b13_endOffset Eq19 Fq19_slotCount Fq19_count Fq19_beginTime Fq19_endTime Fq19_beginOffset Fq19_endOffset (Ne.symm ne17_b13)) hZ (own_w32 hw) (own_w9 hw) (by decide) (by decide)) q21a q21c (g := (mkF m 260 #[.val (Value.int x0), .val (Value.int x1), .val (Value.long x2), .second, .val (Value.long x3), .second, .val (Value.long x4), .second, .val (Value.int x5), .val (Value.int u0), .val (Value.int u1), .val (Value.long u2), .second, .val (Value.long u3), .second, .val (Value.long u4), .second, .val (Value.long u5), .second, .val (Value.int v0), .val (Value.int v1), .val (Value.long v2), .second, .val (Value.long v3), .second, .val (Value.long v4), .second, .val (Value.long v5), .second, .val (Value.int md), .val (Value.ref b13), .val (Value.ref b17), .val (Value.int (own_hd u0 u1 u2 u3 u4 u5 v0 v1 v2 v3 v4 v5)), .unset, .unset] [(Value.ref b17), (Value.ref b13)])) rfl (by rw [hml]; rfl) (Steps.refl _) (argsL := [(Value.ref b17)]) (rest := []) (lenOf own_pd5 rfl) rfl (by show 2 * 0 + _ ≤ _; exact Nat.le_of_eq rfl) (hb hby at_260) (fun _ _ => ⟨rfl, rfl, (by decide : (2 : Nat) + 0 ≤ _), (by decide : (12 : Nat) + 0 ≤ _)⟩)
    dsimp only [Pt.U, Pt.locs, Pt.cells, Pt.slots] at X21 l21 y21 z21 st21 hQ21
    subst l21 y21 z21
    obtain ⟨rfl, e21, Nq21⟩ := hQ21
    have N21 := Fr.app N19 Nq21
    refine own_tr st21 ?_
    show own_G p e below s _ _ _ (T21.setTop (mkF m 263 #[.val (Value.int x0), .val (Value.int x1), .val (Value.long x2), .second, .val (Value.long x3), .second, .val (Value.long x4), .second, .val (Value.int x5), .val (Value.int u0), .val (Value.int u1), .val (Value.long u2), .second, .val (Value.long u3), .second, .val (Value.long u4), .second, .val (Value.long u5), .second, .val (Value.int v0), .val (Value.int v1), .val (Value.long v2), .second, .val (Value.long v3), .second, .val (Value.long v4), .second, .val (Value.long v5), .second, .val (Value.int md), .val (Value.ref b13), .val (Value.ref b17), .val (Value.int (own_hd u0 u1 u2 u3 u4 u5 v0 v1 v2 v3 v4 v5)), .unset, .unset] [(Value.int (own_hd u0 u1 u2 u3 u4 u5 v0 v1 v2 v3 v4 v5))]))
    refine own_iload X21 hx hby at_263 rfl ?_
    show own_G p e below s _ _ _ (T21.setTop (mkF m 265 #[.val (Value.int x0), .val (Value.int x1), .val (Value.long x2), .second, .val (Value.long x3), .second, .val (Value.long x4), .second, .val (Value.int x5), .val (Value.int u0), .val (Value.int u1), .val (Value.long u2), .second, .val (Value.long u3), .second, .val (Value.long u4), .second, .val (Value.long u5), .second, .val (Value.int v0), .val (Value.int v1), .val (Value.long v2), .second, .val (Value.long v3), .second, .val (Value.long v4), .second, .val (Value.long v5), .second, .val (Value.int md), .val (Value.ref b13), .val (Value.ref b17), .val (Value.int (own_hd u0 u1 u2 u3 u4 u5 v0 v1 v2 v3 v4 v5)), .unset, .unset] [(Value.int (own_hd u0 u1 u2 u3 u4 u5 v0 v1 v2 v3 v4 v5)), (Value.int (own_hd u0 u1 u2 u3 u4 u5 v0 v1 v2 v3 v4 v5))]))
    refine own_icmp_ne X21 hx hby at_265 (pc' := 284) (by decide) (by decide) (fun hb22 => by exfalso; exact hb22 rfl) (fun hb22 => ?_)
    show own_G p e below s _ _ _ (T21.setTop (mkF m 268 #[.val (Value.int x0), .val (Value.int x1), .val (Value.long x2), .second, .val (Value.long x3), .second, .val (Value.long x4), .second, .val (Value.int x5), .val (Value.int u0), .val (Value.int u1), .val (Value.long u2), .second, .val (Value.long u3), .second, .val (Value.long u4), .second, .val (Value.long u5), .second, .val (Value.int v0), .val (Value.int v1), .val (Value.long v2), .second, .val (Value.long v3), .second, .val (Value.long v4), .second, .val (Value.long v5), .second, .val (Value.int md), .val (Value.ref b13), .val (Value.ref b17), .val (Value.int (own_hd u0 u1 u2 u3 u4 u5 v0 v1 v2 v3 v4 v5)), .unset, .unset] []))
    refine own_aload X21 hx hby at_268 rfl rfl ?_
    show own_G p e below s _ _ _ (T21.setTop (mkF m 270 #[.val (Value.int x0), .val (Value.int x1), .val (Value.long x2), .second, .val (Value.long x3), .second, .val (Value.long x4), .second, .val (Value.int x5), .val (Value.int u0), .val (Value.int u1), .val (Value.long u2), .second, .val (Value.long u3), .second, .val (Value.long u4), .second, .val (Value.long u5), .second, .val (Value.int v0), .val (Value.int v1), .val (Value.long v2), .second, .val (Value.long v3), .second, .val (Value.long v4), .second, .val (Value.long v5), .second, .val (Value.int md), .val (Value.ref b13), .val (Value.ref b17), .val (Value.int (own_hd u0 u1 u2 u3 u4 u5 v0 v1 v2 v3 v4 v5)), .unset, .unset] [(Value.ref b17)]))
    refine own_aload X21 hx hby at_270 rfl rfl ?_
    show own_G p e below s _ _ _ (T21.setTop (mkF m 272 #[.val (Value.int x0), .val (Value.int x1), .val (Value.long x2), .second, .val (Value.long x3), .second, .val (Value.long x4), .second, .val (Value.int x5), .val (Value.int u0), .val (Value.int u1), .val (Value.long u2), .second, .val (Value.long u3), .second, .val (Value.long u4), .second, .val (Value.long u5), .second, .val (Value.int v0), .val (Value.int v1), .val (Value.long v2), .second, .val (Value.long v3), .second, .val (Value.long v4), .second, .val (Value.long v5), .second, .val (Value.int md), .val (Value.ref b13), .val (Value.ref b17), .val (Value.int (own_hd u0 u1 u2 u3 u4 u5 v0 v1 v2 v3 v4 v5)), .unset, .unset] [(Value.ref b13), (Value.ref b17)]))
    obtain ⟨cq23, kq23, q23a, q23b, q23c⟩ := isOf (T := T21) hZ e21 Eq19
    obtain ⟨_, _, ⟨T23, L23, k23, n23⟩, -, X23, ⟨Lc23, hQ23, l23, y23, z23⟩, st23⟩ := X21.virtualBack hx (y := (⟨"com/example/iron_log/ironlog/index/IndexFile$Header", "equals", "(Ljava/lang/Object;)Z"⟩ : MethodName)) (z := (⟨"com/example/iron_log/ironlog/index/IndexFile$Header", "equals", "(Ljava/lang/Object;)Z"⟩ : MethodName)) hown (mvT hZ (own_w28 hw)) (mvT hZ (own_w29 hw)) (notFace_of_selects (args := #[]) (mvT hZ (own_w31 hw))) (mvT hZ (own_w31 hw)) (mvT hZ (own_w30 hw)) (by decide) (backOf (W := 0) (own_rmE l Z a0 hw [] b17 b13 v0 v1 v2 v3 v4 v5 u0 u1 u2 u3 u4 u5 T19.heap n0 O20  Fq19_slotCount Fq19_count Fq19_beginTime Fq19_endTime Fq19_beginOffset Fq19_endOffset E20_b13 F20_b13_slotCount F20_b13_count F20_b13_beginTime F20_b13_endTime F20_b13_beginOffset F20_b13_endOffset ne17_b13) hZ (own_w32 hw) (own_w9 hw) (by decide) (by decide)) q23a q23c (g := (mkF m 272 #[.val (Value.int x0), .val (Value.int x1), .val (Value.long x2), .second, .val (Value.long x3), .second, .val (Value.long x4), .second, .val (Value.int x5), .val (Value.int u0), .val (Value.int u1), .val (Value.long u2), .second, .val (Value.long u3), .second, .val (Value.long u4), .second, .val (Value.long u5), .second, .val (Value.int v0), .val (Value.int v1), .val (Value.long v2), .second, .val (Value.long v3), .second, .val (Value.long v4), .second, .val (Value.long v5), .second, .val (Value.int md), .val (Value.ref b13), .val (Value.ref b17), .val (Value.int (own_hd u0 u1 u2 u3 u4 u5 v0 v1 v2 v3 v4 v5)), .unset, .unset] [(Value.ref b13), (Value.ref b17)])) rfl (by rw [hml]; rfl) (Steps.refl _) (argsL := [(Value.ref b13)]) (rest := []) (lenOf own_pd5 rfl) rfl (by show 2 * 0 + _ ≤ _; exact Nat.le_of_eq rfl) (hb hby at_272) (fun _ _ => ⟨rfl, e21, (by decide : (2 : Nat) + 0 ≤ _), (by decide : (12 : Nat) + 0 ≤ _)⟩)
    dsimp only [Pt.U, Pt.locs, Pt.cells, Pt.slots] at X23 l23 y23 z23 st23 hQ23
    subst l23 y23 z23
    obtain ⟨rfl, e23, Nq23⟩ := hQ23
    have N23 := Fr.app N21 Nq23
    refine own_tr st23 ?_
    show own_G p e below s _ _ _ (T23.setTop (mkF m 275 #[.val (Value.int x0), .val (Value.int x1), .val (Value.long x2), .second, .val (Value.long x3), .second, .val (Value.long x4), .second, .val (Value.int x5), .val (Value.int u0), .val (Value.int u1), .val (Value.long u2), .second, .val (Value.long u3), .second, .val (Value.long u4), .second, .val (Value.long u5), .second, .val (Value.int v0), .val (Value.int v1), .val (Value.long v2), .second, .val (Value.long v3), .second, .val (Value.long v4), .second, .val (Value.long v5), .second, .val (Value.int md), .val (Value.ref b13), .val (Value.ref b17), .val (Value.int (own_hd u0 u1 u2 u3 u4 u5 v0 v1 v2 v3 v4 v5)), .unset, .unset] [(Value.int (own_hd v0 v1 v2 v3 v4 v5 u0 u1 u2 u3 u4 u5))]))
    refine own_iload X23 hx hby at_275 rfl ?_
    show own_G p e below s _ _ _ (T23.setTop (mkF m 277 #[.val (Value.int x0), .val (Value.int x1), .val (Value.long x2), .second, .val (Value.long x3), .second, .val (Value.long x4), .second, .val (Value.int x5), .val (Value.int u0), .val (Value.int u1), .val (Value.long u2), .second, .val (Value.long u3), .second, .val (Value.long u4), .second, .val (Value.long u5), .second, .val (Value.int v0), .val (Value.int v1), .val (Value.long v2), .second, .val (Value.long v3), .second, .val (Value.long v4), .second, .val (Value.long v5), .second, .val (Value.int md), .val (Value.ref b13), .val (Value.ref b17), .val (Value.int (own_hd u0 u1 u2 u3 u4 u5 v0 v1 v2 v3 v4 v5)), .unset, .unset] [(Value.int (own_hd u0 u1 u2 u3 u4 u5 v0 v1 v2 v3 v4 v5)), (Value.int (own_hd v0 v1 v2 v3 v4 v5 u0 u1 u2 u3 u4 u5))]))
    refine own_icmp_ne X23 hx hby at_277 (pc' := 284) (by decide) (by decide) (fun hb24 => by exfalso; exact hb24 (own_hd_symm u0 u1 u2 u3 u4 u5 v0 v1 v2 v3 v4 v5)) (fun hb24 => ?_)
    show own_G p e below s _ _ _ (T23.setTop (mkF m 280 #[.val (Value.int x0), .val (Value.int x1), .val (Value.long x2), .second, .val (Value.long x3), .second, .val (Value.long x4), .second, .val (Value.int x5), .val (Value.int u0), .val (Value.int u1), .val (Value.long u2), .second, .val (Value.long u3), .second, .val (Value.long u4), .second, .val (Value.long u5), .second, .val (Value.int v0), .val (Value.int v1), .val (Value.long v2), .second, .val (Value.long v3), .second, .val (Value.long v4), .second, .val (Value.long v5), .second, .val (Value.int md), .val (Value.ref b13), .val (Value.ref b17), .val (Value.int (own_hd u0 u1 u2 u3 u4 u5 v0 v1 v2 v3 v4 v5)), .unset, .unset] []))
    refine own_iconst X23 hx hby at_280 ?_
    show own_G p e below s _ _ _ (T23.setTop (mkF m 281 #[.val (Value.int x0), .val (Value.int x1), .val (Value.long x2), .second, .val (Value.long x3), .second, .val (Value.long x4), .second, .val (Value.int x5), .val (Value.int u0), .val (Value.int u1), .val (Value.long u2), .second, .val (Value.long u3), .second, .val (Value.long u4), .second, .val (Value.long u5), .second, .val (Value.int v0), .val (Value.int v1), .val (Value.long v2), .second, .val (Value.long v3), .second, .val (Value.long v4), .second, .val (Value.long v5), .second, .val (Value.int md), .val (Value.ref b13), .val (Value.ref b17), .val (Value.int (own_hd u0 u1 u2 u3 u4 u5 v0 v1 v2 v3 v4 v5)), .unset, .unset] [(Value.int (1 : Int32))]))
    refine own_goto X23 hx hby at_281 (pc' := 285) (by decide) (by decide) ?_
    show own_G p e below s _ _ _ (T23.setTop (mkF m 285 #[.val (Value.int x0), .val (Value.int x1), .val (Value.long x2), .second, .val (Value.long x3), .second, .val (Value.long x4), .second, .val (Value.int x5), .val (Value.int u0), .val (Value.int u1), .val (Value.long u2), .second, .val (Value.long u3), .second, .val (Value.long u4), .second, .val (Value.long u5), .second, .val (Value.int v0), .val (Value.int v1), .val (Value.long v2), .second, .val (Value.long v3), .second, .val (Value.long v4), .second, .val (Value.long v5), .second, .val (Value.int md), .val (Value.ref b13), .val (Value.ref b17), .val (Value.int (own_hd u0 u1 u2 u3 u4 u5 v0 v1 v2 v3 v4 v5)), .unset, .unset] [(Value.int (1 : Int32))]))
    refine own_istore X23 hx hby at_285 (l' := #[.val (Value.int x0), .val (Value.int x1), .val (Value.long x2), .second, .val (Value.long x3), .second, .val (Value.long x4), .second, .val (Value.int x5), .val (Value.int u0), .val (Value.int u1), .val (Value.long u2), .second, .val (Value.long u3), .second, .val (Value.long u4), .second, .val (Value.long u5), .second, .val (Value.int v0), .val (Value.int v1), .val (Value.long v2), .second, .val (Value.long v3), .second, .val (Value.long v4), .second, .val (Value.long v5), .second, .val (Value.int md), .val (Value.ref b13), .val (Value.ref b17), .val (Value.int (own_hd u0 u1 u2 u3 u4 u5 v0 v1 v2 v3 v4 v5)), .val (Value.int (1 : Int32)), .unset]) rfl ?_
    show own_G p e below s _ _ _ (T23.setTop (mkF m 287 #[.val (Value.int x0), .val (Value.int x1), .val (Value.long x2), .second, .val (Value.long x3), .second, .val (Value.long x4), .second, .val (Value.int x5), .val (Value.int u0), .val (Value.int u1), .val (Value.long u2), .second, .val (Value.long u3), .second, .val (Value.long u4), .second, .val (Value.long u5), .second, .val (Value.int v0), .val (Value.int v1), .val (Value.long v2), .second, .val (Value.long v3), .second, .val (Value.long v4), .second, .val (Value.long v5), .second, .val (Value.int md), .val (Value.ref b13), .val (Value.ref b17), .val (Value.int (own_hd u0 u1 u2 u3 u4 u5 v0 v1 v2 v3 v4 v5)), .val (Value.int (1 : Int32)), .unset] []))
    refine own_iconst X23 hx hby at_287 ?_
    show own_G p e below s _ _ _ (T23.setTop (mkF m 288 #[.val (Value.int x0), .val (Value.int x1), .val (Value.long x2), .second, .val (Value.long x3), .second, .val (Value.long x4), .second, .val (Value.int x5), .val (Value.int u0), .val (Value.int u1), .val (Value.long u2), .second, .val (Value.long u3), .second, .val (Value.long u4), .second, .val (Value.long u5), .second, .val (Value.int v0), .val (Value.int v1), .val (Value.long v2), .second, .val (Value.long v3), .second, .val (Value.long v4), .second, .val (Value.long v5), .second, .val (Value.int md), .val (Value.ref b13), .val (Value.ref b17), .val (Value.int (own_hd u0 u1 u2 u3 u4 u5 v0 v1 v2 v3 v4 v5)), .val (Value.int (1 : Int32)), .unset] [(Value.int (1 : Int32))]))
    refine own_istore X23 hx hby at_288 (l' := #[.val (Value.int x0), .val (Value.int x1), .val (Value.long x2), .second, .val (Value.long x3), .second, .val (Value.long x4), .second, .val (Value.int x5), .val (Value.int u0), .val (Value.int u1), .val (Value.long u2), .second, .val (Value.long u3), .second, .val (Value.long u4), .second, .val (Value.long u5), .second, .val (Value.int v0), .val (Value.int v1), .val (Value.long v2), .second, .val (Value.long v3), .second, .val (Value.long v4), .second, .val (Value.long v5), .second, .val (Value.int md), .val (Value.ref b13), .val (Value.ref b17), .val (Value.int (own_hd u0 u1 u2 u3 u4 u5 v0 v1 v2 v3 v4 v5)), .val (Value.int (1 : Int32)), .val (Value.int (1 : Int32))]) rfl ?_
    show own_G p e below s _ _ _ (T23.setTop (mkF m 290 #[.val (Value.int x0), .val (Value.int x1), .val (Value.long x2), .second, .val (Value.long x3), .second, .val (Value.long x4), .second, .val (Value.int x5), .val (Value.int u0), .val (Value.int u1), .val (Value.long u2), .second, .val (Value.long u3), .second, .val (Value.long u4), .second, .val (Value.long u5), .second, .val (Value.int v0), .val (Value.int v1), .val (Value.long v2), .second, .val (Value.long v3), .second, .val (Value.long v4), .second, .val (Value.long v5), .second, .val (Value.int md), .val (Value.ref b13), .val (Value.ref b17), .val (Value.int (own_hd u0 u1 u2 u3 u4 u5 v0 v1 v2 v3 v4 v5)), .val (Value.int (1 : Int32)), .val (Value.int (1 : Int32))] []))
    refine own_iload X23 hx hby at_290 rfl ?_
    show own_G p e below s _ _ _ (T23.setTop (mkF m 292 #[.val (Value.int x0), .val (Value.int x1), .val (Value.long x2), .second, .val (Value.long x3), .second, .val (Value.long x4), .second, .val (Value.int x5), .val (Value.int u0), .val (Value.int u1), .val (Value.long u2), .second, .val (Value.long u3), .second, .val (Value.long u4), .second, .val (Value.long u5), .second, .val (Value.int v0), .val (Value.int v1), .val (Value.long v2), .second, .val (Value.long v3), .second, .val (Value.long v4), .second, .val (Value.long v5), .second, .val (Value.int md), .val (Value.ref b13), .val (Value.ref b17), .val (Value.int (own_hd u0 u1 u2 u3 u4 u5 v0 v1 v2 v3 v4 v5)), .val (Value.int (1 : Int32)), .val (Value.int (1 : Int32))] [(Value.int md)]))
    refine own_iconst X23 hx hby at_292 ?_
    show own_G p e below s _ _ _ (T23.setTop (mkF m 293 #[.val (Value.int x0), .val (Value.int x1), .val (Value.long x2), .second, .val (Value.long x3), .second, .val (Value.long x4), .second, .val (Value.int x5), .val (Value.int u0), .val (Value.int u1), .val (Value.long u2), .second, .val (Value.long u3), .second, .val (Value.long u4), .second, .val (Value.long u5), .second, .val (Value.int v0), .val (Value.int v1), .val (Value.long v2), .second, .val (Value.long v3), .second, .val (Value.long v4), .second, .val (Value.long v5), .second, .val (Value.int md), .val (Value.ref b13), .val (Value.ref b17), .val (Value.int (own_hd u0 u1 u2 u3 u4 u5 v0 v1 v2 v3 v4 v5)), .val (Value.int (1 : Int32)), .val (Value.int (1 : Int32))] [(Value.int (1 : Int32)), (Value.int md)]))
    refine own_icmp_ne X23 hx hby at_293 (pc' := 308) (by decide) (by decide) (fun hb25 => ?_) (fun hb25 => ?_)
    · show own_G p e below s _ _ _ (T23.setTop (mkF m 308 #[.val (Value.int x0), .val (Value.int x1), .val (Value.long x2), .second, .val (Value.long x3), .second, .val (Value.long x4), .second, .val (Value.int x5), .val (Value.int u0), .val (Value.int u1), .val (Value.long u2), .second, .val (Value.long u3), .second, .val (Value.long u4), .second, .val (Value.long u5), .second, .val (Value.int v0), .val (Value.int v1), .val (Value.long v2), .second, .val (Value.long v3), .second, .val (Value.long v4), .second, .val (Value.long v5), .second, .val (Value.int md), .val (Value.ref b13), .val (Value.ref b17), .val (Value.int (own_hd u0 u1 u2 u3 u4 u5 v0 v1 v2 v3 v4 v5)), .val (Value.int (1 : Int32)), .val (Value.int (1 : Int32))] []))
      refine own_iload X23 hx hby at_308 rfl ?_
      show own_G p e below s _ _ _ (T23.setTop (mkF m 310 #[.val (Value.int x0), .val (Value.int x1), .val (Value.long x2), .second, .val (Value.long x3), .second, .val (Value.long x4), .second, .val (Value.int x5), .val (Value.int u0), .val (Value.int u1), .val (Value.long u2), .second, .val (Value.long u3), .second, .val (Value.long u4), .second, .val (Value.long u5), .second, .val (Value.int v0), .val (Value.int v1), .val (Value.long v2), .second, .val (Value.long v3), .second, .val (Value.long v4), .second, .val (Value.long v5), .second, .val (Value.int md), .val (Value.ref b13), .val (Value.ref b17), .val (Value.int (own_hd u0 u1 u2 u3 u4 u5 v0 v1 v2 v3 v4 v5)), .val (Value.int (1 : Int32)), .val (Value.int (1 : Int32))] [(Value.int md)]))
      refine own_iconst X23 hx hby at_310 ?_
      show own_G p e below s _ _ _ (T23.setTop (mkF m 311 #[.val (Value.int x0), .val (Value.int x1), .val (Value.long x2), .second, .val (Value.long x3), .second, .val (Value.long x4), .second, .val (Value.int x5), .val (Value.int u0), .val (Value.int u1), .val (Value.long u2), .second, .val (Value.long u3), .second, .val (Value.long u4), .second, .val (Value.long u5), .second, .val (Value.int v0), .val (Value.int v1), .val (Value.long v2), .second, .val (Value.long v3), .second, .val (Value.long v4), .second, .val (Value.long v5), .second, .val (Value.int md), .val (Value.ref b13), .val (Value.ref b17), .val (Value.int (own_hd u0 u1 u2 u3 u4 u5 v0 v1 v2 v3 v4 v5)), .val (Value.int (1 : Int32)), .val (Value.int (1 : Int32))] [(Value.int (2 : Int32)), (Value.int md)]))
      refine own_icmp_ne X23 hx hby at_311 (pc' := 333) (by decide) (by decide) (fun hb26 => ?_) (fun hb26 => ?_)
      · show own_G p e below s _ _ _ (T23.setTop (mkF m 333 #[.val (Value.int x0), .val (Value.int x1), .val (Value.long x2), .second, .val (Value.long x3), .second, .val (Value.long x4), .second, .val (Value.int x5), .val (Value.int u0), .val (Value.int u1), .val (Value.long u2), .second, .val (Value.long u3), .second, .val (Value.long u4), .second, .val (Value.long u5), .second, .val (Value.int v0), .val (Value.int v1), .val (Value.long v2), .second, .val (Value.long v3), .second, .val (Value.long v4), .second, .val (Value.long v5), .second, .val (Value.int md), .val (Value.ref b13), .val (Value.ref b17), .val (Value.int (own_hd u0 u1 u2 u3 u4 u5 v0 v1 v2 v3 v4 v5)), .val (Value.int (1 : Int32)), .val (Value.int (1 : Int32))] []))
        refine own_iload X23 hx hby at_333 rfl ?_
        show own_G p e below s _ _ _ (T23.setTop (mkF m 335 #[.val (Value.int x0), .val (Value.int x1), .val (Value.long x2), .second, .val (Value.long x3), .second, .val (Value.long x4), .second, .val (Value.int x5), .val (Value.int u0), .val (Value.int u1), .val (Value.long u2), .second, .val (Value.long u3), .second, .val (Value.long u4), .second, .val (Value.long u5), .second, .val (Value.int v0), .val (Value.int v1), .val (Value.long v2), .second, .val (Value.long v3), .second, .val (Value.long v4), .second, .val (Value.long v5), .second, .val (Value.int md), .val (Value.ref b13), .val (Value.ref b17), .val (Value.int (own_hd u0 u1 u2 u3 u4 u5 v0 v1 v2 v3 v4 v5)), .val (Value.int (1 : Int32)), .val (Value.int (1 : Int32))] [(Value.int md)]))
        refine own_iconst X23 hx hby at_335 ?_
        show own_G p e below s _ _ _ (T23.setTop (mkF m 336 #[.val (Value.int x0), .val (Value.int x1), .val (Value.long x2), .second, .val (Value.long x3), .second, .val (Value.long x4), .second, .val (Value.int x5), .val (Value.int u0), .val (Value.int u1), .val (Value.long u2), .second, .val (Value.long u3), .second, .val (Value.long u4), .second, .val (Value.long u5), .second, .val (Value.int v0), .val (Value.int v1), .val (Value.long v2), .second, .val (Value.long v3), .second, .val (Value.long v4), .second, .val (Value.long v5), .second, .val (Value.int md), .val (Value.ref b13), .val (Value.ref b17), .val (Value.int (own_hd u0 u1 u2 u3 u4 u5 v0 v1 v2 v3 v4 v5)), .val (Value.int (1 : Int32)), .val (Value.int (1 : Int32))] [(Value.int (3 : Int32)), (Value.int md)]))
        refine own_icmp_ne X23 hx hby at_336 (pc' := 358) (by decide) (by decide) (fun hb27 => ?_) (fun hb27 => ?_)
        · show own_G p e below s _ _ _ (T23.setTop (mkF m 358 #[.val (Value.int x0), .val (Value.int x1), .val (Value.long x2), .second, .val (Value.long x3), .second, .val (Value.long x4), .second, .val (Value.int x5), .val (Value.int u0), .val (Value.int u1), .val (Value.long u2), .second, .val (Value.long u3), .second, .val (Value.long u4), .second, .val (Value.long u5), .second, .val (Value.int v0), .val (Value.int v1), .val (Value.long v2), .second, .val (Value.long v3), .second, .val (Value.long v4), .second, .val (Value.long v5), .second, .val (Value.int md), .val (Value.ref b13), .val (Value.ref b17), .val (Value.int (own_hd u0 u1 u2 u3 u4 u5 v0 v1 v2 v3 v4 v5)), .val (Value.int (1 : Int32)), .val (Value.int (1 : Int32))] []))
          refine own_iload X23 hx hby at_358 rfl ?_
          show own_G p e below s _ _ _ (T23.setTop (mkF m 360 #[.val (Value.int x0), .val (Value.int x1), .val (Value.long x2), .second, .val (Value.long x3), .second, .val (Value.long x4), .second, .val (Value.int x5), .val (Value.int u0), .val (Value.int u1), .val (Value.long u2), .second, .val (Value.long u3), .second, .val (Value.long u4), .second, .val (Value.long u5), .second, .val (Value.int v0), .val (Value.int v1), .val (Value.long v2), .second, .val (Value.long v3), .second, .val (Value.long v4), .second, .val (Value.long v5), .second, .val (Value.int md), .val (Value.ref b13), .val (Value.ref b17), .val (Value.int (own_hd u0 u1 u2 u3 u4 u5 v0 v1 v2 v3 v4 v5)), .val (Value.int (1 : Int32)), .val (Value.int (1 : Int32))] [(Value.int (1 : Int32))]))
          refine own_if_eq X23 hx hby at_360 (pc' := 372) (by decide) (by decide) (fun hb28 => by exfalso; revert hb28; decide) (fun hb28 => ?_)
          show own_G p e below s _ _ _ (T23.setTop (mkF m 363 #[.val (Value.int x0), .val (Value.int x1), .val (Value.long x2), .second, .val (Value.long x3), .second, .val (Value.long x4), .second, .val (Value.int x5), .val (Value.int u0), .val (Value.int u1), .val (Value.long u2), .second, .val (Value.long u3), .second, .val (Value.long u4), .second, .val (Value.long u5), .second, .val (Value.int v0), .val (Value.int v1), .val (Value.long v2), .second, .val (Value.long v3), .second, .val (Value.long v4), .second, .val (Value.long v5), .second, .val (Value.int md), .val (Value.ref b13), .val (Value.ref b17), .val (Value.int (own_hd u0 u1 u2 u3 u4 u5 v0 v1 v2 v3 v4 v5)), .val (Value.int (1 : Int32)), .val (Value.int (1 : Int32))] []))
          refine own_iload X23 hx hby at_363 rfl ?_
          show own_G p e below s _ _ _ (T23.setTop (mkF m 365 #[.val (Value.int x0), .val (Value.int x1), .val (Value.long x2), .second, .val (Value.long x3), .second, .val (Value.long x4), .second, .val (Value.int x5), .val (Value.int u0), .val (Value.int u1), .val (Value.long u2), .second, .val (Value.long u3), .second, .val (Value.long u4), .second, .val (Value.long u5), .second, .val (Value.int v0), .val (Value.int v1), .val (Value.long v2), .second, .val (Value.long v3), .second, .val (Value.long v4), .second, .val (Value.long v5), .second, .val (Value.int md), .val (Value.ref b13), .val (Value.ref b17), .val (Value.int (own_hd u0 u1 u2 u3 u4 u5 v0 v1 v2 v3 v4 v5)), .val (Value.int (1 : Int32)), .val (Value.int (1 : Int32))] [(Value.int (1 : Int32))]))
          refine own_if_eq X23 hx hby at_365 (pc' := 372) (by decide) (by decide) (fun hb29 => by exfalso; revert hb29; decide) (fun hb29 => ?_)
          show own_G p e below s _ _ _ (T23.setTop (mkF m 368 #[.val (Value.int x0), .val (Value.int x1), .val (Value.long x2), .second, .val (Value.long x3), .second, .val (Value.long x4), .second, .val (Value.int x5), .val (Value.int u0), .val (Value.int u1), .val (Value.long u2), .second, .val (Value.long u3), .second, .val (Value.long u4), .second, .val (Value.long u5), .second, .val (Value.int v0), .val (Value.int v1), .val (Value.long v2), .second, .val (Value.long v3), .second, .val (Value.long v4), .second, .val (Value.long v5), .second, .val (Value.int md), .val (Value.ref b13), .val (Value.ref b17), .val (Value.int (own_hd u0 u1 u2 u3 u4 u5 v0 v1 v2 v3 v4 v5)), .val (Value.int (1 : Int32)), .val (Value.int (1 : Int32))] []))
          refine own_iconst X23 hx hby at_368 ?_
          show own_G p e below s _ _ _ (T23.setTop (mkF m 369 #[.val (Value.int x0), .val (Value.int x1), .val (Value.long x2), .second, .val (Value.long x3), .second, .val (Value.long x4), .second, .val (Value.int x5), .val (Value.int u0), .val (Value.int u1), .val (Value.long u2), .second, .val (Value.long u3), .second, .val (Value.long u4), .second, .val (Value.long u5), .second, .val (Value.int v0), .val (Value.int v1), .val (Value.long v2), .second, .val (Value.long v3), .second, .val (Value.long v4), .second, .val (Value.long v5), .second, .val (Value.int md), .val (Value.ref b13), .val (Value.ref b17), .val (Value.int (own_hd u0 u1 u2 u3 u4 u5 v0 v1 v2 v3 v4 v5)), .val (Value.int (1 : Int32)), .val (Value.int (1 : Int32))] [(Value.int (1 : Int32))]))
          refine own_goto X23 hx hby at_369 (pc' := 373) (by decide) (by decide) ?_
          show own_G p e below s _ _ _ (T23.setTop (mkF m 373 #[.val (Value.int x0), .val (Value.int x1), .val (Value.long x2), .second, .val (Value.long x3), .second, .val (Value.long x4), .second, .val (Value.int x5), .val (Value.int u0), .val (Value.int u1), .val (Value.long u2), .second, .val (Value.long u3), .second, .val (Value.long u4), .second, .val (Value.long u5), .second, .val (Value.int v0), .val (Value.int v1), .val (Value.long v2), .second, .val (Value.long v3), .second, .val (Value.long v4), .second, .val (Value.long v5), .second, .val (Value.int md), .val (Value.ref b13), .val (Value.ref b17), .val (Value.int (own_hd u0 u1 u2 u3 u4 u5 v0 v1 v2 v3 v4 v5)), .val (Value.int (1 : Int32)), .val (Value.int (1 : Int32))] [(Value.int (1 : Int32))]))
          refine own_retN X23 hx hby hlk (t := .boolean) Bd.returns (by simp) at_373 (by decide) (by decide) ?_
          exact ⟨rfl, N23⟩
        · show own_G p e below s _ _ _ (T23.setTop (mkF m 339 #[.val (Value.int x0), .val (Value.int x1), .val (Value.long x2), .second, .val (Value.long x3), .second, .val (Value.long x4), .second, .val (Value.int x5), .val (Value.int u0), .val (Value.int u1), .val (Value.long u2), .second, .val (Value.long u3), .second, .val (Value.long u4), .second, .val (Value.long u5), .second, .val (Value.int v0), .val (Value.int v1), .val (Value.long v2), .second, .val (Value.long v3), .second, .val (Value.long v4), .second, .val (Value.long v5), .second, .val (Value.int md), .val (Value.ref b13), .val (Value.ref b17), .val (Value.int (own_hd u0 u1 u2 u3 u4 u5 v0 v1 v2 v3 v4 v5)), .val (Value.int (1 : Int32)), .val (Value.int (1 : Int32))] []))
          refine own_aload X23 hx hby at_339 rfl rfl ?_
          show own_G p e below s _ _ _ (T23.setTop (mkF m 341 #[.val (Value.int x0), .val (Value.int x1), .val (Value.long x2), .second, .val (Value.long x3), .second, .val (Value.long x4), .second, .val (Value.int x5), .val (Value.int u0), .val (Value.int u1), .val (Value.long u2), .second, .val (Value.long u3), .second, .val (Value.long u4), .second, .val (Value.long u5), .second, .val (Value.int v0), .val (Value.int v1), .val (Value.long v2), .second, .val (Value.long v3), .second, .val (Value.long v4), .second, .val (Value.long v5), .second, .val (Value.int md), .val (Value.ref b13), .val (Value.ref b17), .val (Value.int (own_hd u0 u1 u2 u3 u4 u5 v0 v1 v2 v3 v4 v5)), .val (Value.int (1 : Int32)), .val (Value.int (1 : Int32))] [(Value.ref b13)]))
          refine own_iloadN X23 hx hby at_341 rfl ?_
          show own_G p e below s _ _ _ (T23.setTop (mkF m 342 #[.val (Value.int x0), .val (Value.int x1), .val (Value.long x2), .second, .val (Value.long x3), .second, .val (Value.long x4), .second, .val (Value.int x5), .val (Value.int u0), .val (Value.int u1), .val (Value.long u2), .second, .val (Value.long u3), .second, .val (Value.long u4), .second, .val (Value.long u5), .second, .val (Value.int v0), .val (Value.int v1), .val (Value.long v2), .second, .val (Value.long v3), .second, .val (Value.long v4), .second, .val (Value.long v5), .second, .val (Value.int md), .val (Value.ref b13), .val (Value.ref b17), .val (Value.int (own_hd u0 u1 u2 u3 u4 u5 v0 v1 v2 v3 v4 v5)), .val (Value.int (1 : Int32)), .val (Value.int (1 : Int32))] [(Value.int x0), (Value.ref b13)]))
          obtain ⟨_, _, ⟨T30, L30, k30, n30⟩, -, X30, ⟨Lc30, hQ30, l30, y30, z30⟩, st30⟩ := Jvm.LawKit.callS X23 hx (y := (⟨"java/lang/Integer", "valueOf", "(I)Ljava/lang/Integer;"⟩ : MethodName)) hown (mvT hZ (own_w35 hw)) (mvT hZ (own_w36 hw)) (mvT hZ (own_w37 hw)) (mvT hZ (own_w38 hw)) (by decide) (backOf (W := 1) (own_rm6 l Z a0 hw [] x0 arr f T19.heap n0 O20  hC hH) hZ (own_w38 hw) (own_w37 hw) (by decide) (by decide)) (g := (mkF m 342 #[.val (Value.int x0), .val (Value.int x1), .val (Value.long x2), .second, .val (Value.long x3), .second, .val (Value.long x4), .second, .val (Value.int x5), .val (Value.int u0), .val (Value.int u1), .val (Value.long u2), .second, .val (Value.long u3), .second, .val (Value.long u4), .second, .val (Value.long u5), .second, .val (Value.int v0), .val (Value.int v1), .val (Value.long v2), .second, .val (Value.long v3), .second, .val (Value.long v4), .second, .val (Value.long v5), .second, .val (Value.int md), .val (Value.ref b13), .val (Value.ref b17), .val (Value.int (own_hd u0 u1 u2 u3 u4 u5 v0 v1 v2 v3 v4 v5)), .val (Value.int (1 : Int32)), .val (Value.int (1 : Int32))] [(Value.int x0), (Value.ref b13)])) rfl (by rw [hml]; rfl) (argsL := [(Value.int x0)]) (rest := [(Value.ref b13)]) (lenOf own_pd6 rfl) rfl (by show 2 * 0 + _ ≤ _; exact Nat.le_of_eq rfl) (hb hby at_342) (fun _ _ => ⟨rfl, e23, (by decide : (2 : Nat) + 1 ≤ _), (by decide : (12 : Nat) + 1 ≤ _)⟩)
          dsimp only [Pt.U, Pt.locs, Pt.cells, Pt.slots] at X30 l30 y30 z30 st30 hQ30
          subst l30 y30 z30
          obtain ⟨r30, rfl, Nq30, Kq30, Eq30⟩ := hQ30
          have N30 := Fr.app N23 Nq30
          have F31_b13_slotCount := Fld.keep F20_b13_slotCount Kq30 nin0
          have F31_b13_count := Fld.keep F20_b13_count Kq30 nin0
          have F31_b13_beginTime := Fld.keep F20_b13_beginTime Kq30 nin0
          have F31_b13_endTime := Fld.keep F20_b13_endTime Kq30 nin0
          have F31_b13_beginOffset := Fld.keep F20_b13_beginOffset Kq30 nin0
          have F31_b13_endOffset := Fld.keep F20_b13_endOffset Kq30 nin0
          have F31_b17_slotCount := Fld.keep Fq19_slotCount Kq30 nin0
          have F31_b17_count := Fld.keep Fq19_count Kq30 nin0
          have F31_b17_beginTime := Fld.keep Fq19_beginTime Kq30 nin0
          have F31_b17_endTime := Fld.keep Fq19_endTime Kq30 nin0
          have F31_b17_beginOffset := Fld.keep Fq19_beginOffset Kq30 nin0
          have F31_b17_endOffset := Fld.keep Fq19_endOffset Kq30 nin0
          have E31_b13 := Exa.keep E20_b13 Kq30
          have E31_b17 := Exa.keep Eq19 Kq30
          have O31 := Old.keep O20 Kq30 all0
          refine own_st st30 ?_
          show own_G p e below s _ _ _ (T30.setTop (mkF m 345 #[.val (Value.int x0), .val (Value.int x1), .val (Value.long x2), .second, .val (Value.long x3), .second, .val (Value.long x4), .second, .val (Value.int x5), .val (Value.int u0), .val (Value.int u1), .val (Value.long u2), .second, .val (Value.long u3), .second, .val (Value.long u4), .second, .val (Value.long u5), .second, .val (Value.int v0), .val (Value.int v1), .val (Value.long v2), .second, .val (Value.long v3), .second, .val (Value.long v4), .second, .val (Value.long v5), .second, .val (Value.int md), .val (Value.ref b13), .val (Value.ref b17), .val (Value.int (own_hd u0 u1 u2 u3 u4 u5 v0 v1 v2 v3 v4 v5)), .val (Value.int (1 : Int32)), .val (Value.int (1 : Int32))] [(Value.ref r30), (Value.ref b13)]))
          obtain ⟨cq32, kq32, q32a, q32b, q32c⟩ := isOf (T := T30) hZ rfl E31_b13
          obtain ⟨_, _, ⟨T32, L32, k32, n32⟩, -, X32, ⟨Lc32, hQ32, l32, y32, z32⟩, st32⟩ := X30.virtualBack hx (y := (⟨"com/example/iron_log/ironlog/index/IndexFile$Header", "equals", "(Ljava/lang/Object;)Z"⟩ : MethodName)) (z := (⟨"com/example/iron_log/ironlog/index/IndexFile$Header", "equals", "(Ljava/lang/Object;)Z"⟩ : MethodName)) hown (mvT hZ (own_w28 hw)) (mvT hZ (own_w29 hw)) (notFace_of_selects (args := #[]) (mvT hZ (own_w31 hw))) (mvT hZ (own_w31 hw)) (mvT hZ (own_w30 hw)) (by decide) (backOf (W := 0) (own_rmL l Z a0 hw [] b13 r30  T30.heap n0 O31  Eq30 (ne_exa Eq30 E31_b13 (by decide))) hZ (own_w32 hw) (own_w9 hw) (by decide) (by decide)) q32a q32c (g := (mkF m 345 #[.val (Value.int x0), .val (Value.int x1), .val (Value.long x2), .second, .val (Value.long x3), .second, .val (Value.long x4), .second, .val (Value.int x5), .val (Value.int u0), .val (Value.int u1), .val (Value.long u2), .second, .val (Value.long u3), .second, .val (Value.long u4), .second, .val (Value.long u5), .second, .val (Value.int v0), .val (Value.int v1), .val (Value.long v2), .second, .val (Value.long v3), .second, .val (Value.long v4), .second, .val (Value.long v5), .second, .val (Value.int md), .val (Value.ref b13), .val (Value.ref b17), .val (Value.int (own_hd u0 u1 u2 u3 u4 u5 v0 v1 v2 v3 v4 v5)), .val (Value.int (1 : Int32)), .val (Value.int (1 : Int32))] [(Value.ref r30), (Value.ref b13)])) rfl (by rw [hml]; rfl) (Steps.refl _) (argsL := [(Value.ref r30)]) (rest := []) (lenOf own_pd5 rfl) rfl (by show 2 * 0 + _ ≤ _; exact Nat.le_of_eq rfl) (hb hby at_345) (fun _ _ => ⟨rfl, rfl, (by decide : (3 : Nat) + 0 ≤ _), (by decide : (13 : Nat) + 0 ≤ _)⟩)
          dsimp only [Pt.U, Pt.locs, Pt.cells, Pt.slots] at X32 l32 y32 z32 st32 hQ32
          subst l32 y32 z32
          obtain ⟨rfl, e32, Nq32⟩ := hQ32
          have N32 := Fr.app N30 Nq32
          refine own_tr st32 ?_
          show own_G p e below s _ _ _ (T32.setTop (mkF m 348 #[.val (Value.int x0), .val (Value.int x1), .val (Value.long x2), .second, .val (Value.long x3), .second, .val (Value.long x4), .second, .val (Value.int x5), .val (Value.int u0), .val (Value.int u1), .val (Value.long u2), .second, .val (Value.long u3), .second, .val (Value.long u4), .second, .val (Value.long u5), .second, .val (Value.int v0), .val (Value.int v1), .val (Value.long v2), .second, .val (Value.long v3), .second, .val (Value.long v4), .second, .val (Value.long v5), .second, .val (Value.int md), .val (Value.ref b13), .val (Value.ref b17), .val (Value.int (own_hd u0 u1 u2 u3 u4 u5 v0 v1 v2 v3 v4 v5)), .val (Value.int (1 : Int32)), .val (Value.int (1 : Int32))] [(Value.int (0 : Int32))]))
          refine own_if_ne X32 hx hby at_348 (pc' := 355) (by decide) (by decide) (fun hb33 => by exfalso; revert hb33; decide) (fun hb33 => ?_)
          show own_G p e below s _ _ _ (T32.setTop (mkF m 351 #[.val (Value.int x0), .val (Value.int x1), .val (Value.long x2), .second, .val (Value.long x3), .second, .val (Value.long x4), .second, .val (Value.int x5), .val (Value.int u0), .val (Value.int u1), .val (Value.long u2), .second, .val (Value.long u3), .second, .val (Value.long u4), .second, .val (Value.long u5), .second, .val (Value.int v0), .val (Value.int v1), .val (Value.long v2), .second, .val (Value.long v3), .second, .val (Value.long v4), .second, .val (Value.long v5), .second, .val (Value.int md), .val (Value.ref b13), .val (Value.ref b17), .val (Value.int (own_hd u0 u1 u2 u3 u4 u5 v0 v1 v2 v3 v4 v5)), .val (Value.int (1 : Int32)), .val (Value.int (1 : Int32))] []))
          refine own_iconst X32 hx hby at_351 ?_
          show own_G p e below s _ _ _ (T32.setTop (mkF m 352 #[.val (Value.int x0), .val (Value.int x1), .val (Value.long x2), .second, .val (Value.long x3), .second, .val (Value.long x4), .second, .val (Value.int x5), .val (Value.int u0), .val (Value.int u1), .val (Value.long u2), .second, .val (Value.long u3), .second, .val (Value.long u4), .second, .val (Value.long u5), .second, .val (Value.int v0), .val (Value.int v1), .val (Value.long v2), .second, .val (Value.long v3), .second, .val (Value.long v4), .second, .val (Value.long v5), .second, .val (Value.int md), .val (Value.ref b13), .val (Value.ref b17), .val (Value.int (own_hd u0 u1 u2 u3 u4 u5 v0 v1 v2 v3 v4 v5)), .val (Value.int (1 : Int32)), .val (Value.int (1 : Int32))] [(Value.int (1 : Int32))]))
          refine own_goto X32 hx hby at_352 (pc' := 356) (by decide) (by decide) ?_
          show own_G p e below s _ _ _ (T32.setTop (mkF m 356 #[.val (Value.int x0), .val (Value.int x1), .val (Value.long x2), .second, .val (Value.long x3), .second, .val (Value.long x4), .second, .val (Value.int x5), .val (Value.int u0), .val (Value.int u1), .val (Value.long u2), .second, .val (Value.long u3), .second, .val (Value.long u4), .second, .val (Value.long u5), .second, .val (Value.int v0), .val (Value.int v1), .val (Value.long v2), .second, .val (Value.long v3), .second, .val (Value.long v4), .second, .val (Value.long v5), .second, .val (Value.int md), .val (Value.ref b13), .val (Value.ref b17), .val (Value.int (own_hd u0 u1 u2 u3 u4 u5 v0 v1 v2 v3 v4 v5)), .val (Value.int (1 : Int32)), .val (Value.int (1 : Int32))] [(Value.int (1 : Int32))]))
          refine own_istore X32 hx hby at_356 (l' := #[.val (Value.int x0), .val (Value.int x1), .val (Value.long x2), .second, .val (Value.long x3), .second, .val (Value.long x4), .second, .val (Value.int x5), .val (Value.int u0), .val (Value.int u1), .val (Value.long u2), .second, .val (Value.long u3), .second, .val (Value.long u4), .second, .val (Value.long u5), .second, .val (Value.int v0), .val (Value.int v1), .val (Value.long v2), .second, .val (Value.long v3), .second, .val (Value.long v4), .second, .val (Value.long v5), .second, .val (Value.int md), .val (Value.ref b13), .val (Value.ref b17), .val (Value.int (own_hd u0 u1 u2 u3 u4 u5 v0 v1 v2 v3 v4 v5)), .val (Value.int (1 : Int32)), .val (Value.int (1 : Int32))]) rfl ?_
          show own_G p e below s _ _ _ (T32.setTop (mkF m 358 #[.val (Value.int x0), .val (Value.int x1), .val (Value.long x2), .second, .val (Value.long x3), .second, .val (Value.long x4), .second, .val (Value.int x5), .val (Value.int u0), .val (Value.int u1), .val (Value.long u2), .second, .val (Value.long u3), .second, .val (Value.long u4), .second, .val (Value.long u5), .second, .val (Value.int v0), .val (Value.int v1), .val (Value.long v2), .second, .val (Value.long v3), .second, .val (Value.long v4), .second, .val (Value.long v5), .second, .val (Value.int md), .val (Value.ref b13), .val (Value.ref b17), .val (Value.int (own_hd u0 u1 u2 u3 u4 u5 v0 v1 v2 v3 v4 v5)), .val (Value.int (1 : Int32)), .val (Value.int (1 : Int32))] []))
          refine own_iload X32 hx hby at_358 rfl ?_
          show own_G p e below s _ _ _ (T32.setTop (mkF m 360 #[.val (Value.int x0), .val (Value.int x1), .val (Value.long x2), .second, .val (Value.long x3), .second, .val (Value.long x4), .second, .val (Value.int x5), .val (Value.int u0), .val (Value.int u1), .val (Value.long u2), .second, .val (Value.long u3), .second, .val (Value.long u4), .second, .val (Value.long u5), .second, .val (Value.int v0), .val (Value.int v1), .val (Value.long v2), .second, .val (Value.long v3), .second, .val (Value.long v4), .second, .val (Value.long v5), .second, .val (Value.int md), .val (Value.ref b13), .val (Value.ref b17), .val (Value.int (own_hd u0 u1 u2 u3 u4 u5 v0 v1 v2 v3 v4 v5)), .val (Value.int (1 : Int32)), .val (Value.int (1 : Int32))] [(Value.int (1 : Int32))]))
          refine own_if_eq X32 hx hby at_360 (pc' := 372) (by decide) (by decide) (fun hb34 => by exfalso; revert hb34; decide) (fun hb34 => ?_)
          show own_G p e below s _ _ _ (T32.setTop (mkF m 363 #[.val (Value.int x0), .val (Value.int x1), .val (Value.long x2), .second, .val (Value.long x3), .second, .val (Value.long x4), .second, .val (Value.int x5), .val (Value.int u0), .val (Value.int u1), .val (Value.long u2), .second, .val (Value.long u3), .second, .val (Value.long u4), .second, .val (Value.long u5), .second, .val (Value.int v0), .val (Value.int v1), .val (Value.long v2), .second, .val (Value.long v3), .second, .val (Value.long v4), .second, .val (Value.long v5), .second, .val (Value.int md), .val (Value.ref b13), .val (Value.ref b17), .val (Value.int (own_hd u0 u1 u2 u3 u4 u5 v0 v1 v2 v3 v4 v5)), .val (Value.int (1 : Int32)), .val (Value.int (1 : Int32))] []))
          refine own_iload X32 hx hby at_363 rfl ?_
          show own_G p e below s _ _ _ (T32.setTop (mkF m 365 #[.val (Value.int x0), .val (Value.int x1), .val (Value.long x2), .second, .val (Value.long x3), .second, .val (Value.long x4), .second, .val (Value.int x5), .val (Value.int u0), .val (Value.int u1), .val (Value.long u2), .second, .val (Value.long u3), .second, .val (Value.long u4), .second, .val (Value.long u5), .second, .val (Value.int v0), .val (Value.int v1), .val (Value.long v2), .second, .val (Value.long v3), .second, .val (Value.long v4), .second, .val (Value.long v5), .second, .val (Value.int md), .val (Value.ref b13), .val (Value.ref b17), .val (Value.int (own_hd u0 u1 u2 u3 u4 u5 v0 v1 v2 v3 v4 v5)), .val (Value.int (1 : Int32)), .val (Value.int (1 : Int32))] [(Value.int (1 : Int32))]))
          refine own_if_eq X32 hx hby at_365 (pc' := 372) (by decide) (by decide) (fun hb35 => by exfalso; revert hb35; decide) (fun hb35 => ?_)
          show own_G p e below s _ _ _ (T32.setTop (mkF m 368 #[.val (Value.int x0), .val (Value.int x1), .val (Value.long x2), .second, .val (Value.long x3), .second, .val (Value.long x4), .second, .val (Value.int x5), .val (Value.int u0), .val (Value.int u1), .val (Value.long u2), .second, .val (Value.long u3), .second, .val (Value.long u4), .second, .val (Value.long u5), .second, .val (Value.int v0), .val (Value.int v1), .val (Value.long v2), .second, .val (Value.long v3), .second, .val (Value.long v4), .second, .val (Value.long v5), .second, .val (Value.int md), .val (Value.ref b13), .val (Value.ref b17), .val (Value.int (own_hd u0 u1 u2 u3 u4 u5 v0 v1 v2 v3 v4 v5)), .val (Value.int (1 : Int32)), .val (Value.int (1 : Int32))] []))
          refine own_iconst X32 hx hby at_368 ?_
          show own_G p e below s _ _ _ (T32.setTop (mkF m 369 #[.val (Value.int x0), .val (Value.int x1), .val (Value.long x2), .second, .val (Value.long x3), .second, .val (Value.long x4), .second, .val (Value.int x5), .val (Value.int u0), .val (Value.int u1), .val (Value.long u2), .second, .val (Value.long u3), .second, .val (Value.long u4), .second, .val (Value.long u5), .second, .val (Value.int v0), .val (Value.int v1), .val (Value.long v2), .second, .val (Value.long v3), .second, .val (Value.long v4), .second, .val (Value.long v5), .second, .val (Value.int md), .val (Value.ref b13), .val (Value.ref b17), .val (Value.int (own_hd u0 u1 u2 u3 u4 u5 v0 v1 v2 v3 v4 v5)), .val (Value.int (1 : Int32)), .val (Value.int (1 : Int32))] [(Value.int (1 : Int32))]))
          refine own_goto X32 hx hby at_369 (pc' := 373) (by decide) (by decide) ?_
          show own_G p e below s _ _ _ (T32.setTop (mkF m 373 #[.val (Value.int x0), .val (Value.int x1), .val (Value.long x2), .second, .val (Value.long x3), .second, .val (Value.long x4), .second, .val (Value.int x5), .val (Value.int u0), .val (Value.int u1), .val (Value.long u2), .second, .val (Value.long u3), .second, .val (Value.long u4), .second, .val (Value.long u5), .second, .val (Value.int v0), .val (Value.int v1), .val (Value.long v2), .second, .val (Value.long v3), .second, .val (Value.long v4), .second, .val (Value.long v5), .second, .val (Value.int md), .val (Value.ref b13), .val (Value.ref b17), .val (Value.int (own_hd u0 u1 u2 u3 u4 u5 v0 v1 v2 v3 v4 v5)), .val (Value.int (1 : Int32)), .val (Value.int (1 : Int32))] [(Value.int (1 : Int32))]))
          refine own_retN X32 hx hby hlk (t := .boolean) Bd.returns (by simp) at_373 (by decide) (by decide) ?_
          exact ⟨rfl, N32⟩
      · show own_G p e below s _ _ _ (T23.setTop (mkF m 314 #[.val (Value.int x0), .val (Value.int x1), .val (Value.long x2), .second, .val (Value.long x3), .second, .val (Value.long x4), .second, .val (Value.int x5), .val (Value.int u0), .val (Value.int u1), .val (Value.long u2), .second, .val (Value.long u3), .second, .val (Value.long u4), .second, .val (Value.long u5), .second, .val (Value.int v0), .val (Value.int v1), .val (Value.long v2), .second, .val (Value.long v3), .second, .val (Value.long v4), .second, .val (Value.long v5), .second, .val (Value.int md), .val (Value.ref b13), .val (Value.ref b17), .val (Value.int (own_hd u0 u1 u2 u3 u4 u5 v0 v1 v2 v3 v4 v5)), .val (Value.int (1 : Int32)), .val (Value.int (1 : Int32))] []))
        refine own_aload X23 hx hby at_314 rfl rfl ?_
        show own_G p e below s _ _ _ (T23.setTop (mkF m 316 #[.val (Value.int x0), .val (Value.int x1), .val (Value.long x2), .second, .val (Value.long x3), .second, .val (Value.long x4), .second, .val (Value.int x5), .val (Value.int u0), .val (Value.int u1), .val (Value.long u2), .second, .val (Value.long u3), .second, .val (Value.long u4), .second, .val (Value.long u5), .second, .val (Value.int v0), .val (Value.int v1), .val (Value.long v2), .second, .val (Value.long v3), .second, .val (Value.long v4), .second, .val (Value.long v5), .second, .val (Value.int md), .val (Value.ref b13), .val (Value.ref b17), .val (Value.int (own_hd u0 u1 u2 u3 u4 u5 v0 v1 v2 v3 v4 v5)), .val (Value.int (1 : Int32)), .val (Value.int (1 : Int32))] [(Value.ref b13)]))
        refine own_aconst_null X23 hx hby at_316 ?_
        show own_G p e below s _ _ _ (T23.setTop (mkF m 317 #[.val (Value.int x0), .val (Value.int x1), .val (Value.long x2), .second, .val (Value.long x3), .second, .val (Value.long x4), .second, .val (Value.int x5), .val (Value.int u0), .val (Value.int u1), .val (Value.long u2), .second, .val (Value.long u3), .second, .val (Value.long u4), .second, .val (Value.long u5), .second, .val (Value.int v0), .val (Value.int v1), .val (Value.long v2), .second, .val (Value.long v3), .second, .val (Value.long v4), .second, .val (Value.long v5), .second, .val (Value.int md), .val (Value.ref b13), .val (Value.ref b17), .val (Value.int (own_hd u0 u1 u2 u3 u4 u5 v0 v1 v2 v3 v4 v5)), .val (Value.int (1 : Int32)), .val (Value.int (1 : Int32))] [Value.null, (Value.ref b13)]))
        obtain ⟨cq36, kq36, q36a, q36b, q36c⟩ := isOf (T := T23) hZ e23 E20_b13
        obtain ⟨_, _, ⟨T36, L36, k36, n36⟩, -, X36, ⟨Lc36, hQ36, l36, y36, z36⟩, st36⟩ := X23.virtualBack hx (y := (⟨"com/example/iron_log/ironlog/index/IndexFile$Header", "equals", "(Ljava/lang/Object;)Z"⟩ : MethodName)) (z := (⟨"com/example/iron_log/ironlog/index/IndexFile$Header", "equals", "(Ljava/lang/Object;)Z"⟩ : MethodName)) hown (mvT hZ (own_w28 hw)) (mvT hZ (own_w29 hw)) (notFace_of_selects (args := #[]) (mvT hZ (own_w31 hw))) (mvT hZ (own_w31 hw)) (mvT hZ (own_w30 hw)) (by decide) (backOf (W := 0) (own_rmN l Z a0 hw [] b13  T19.heap n0 O20  ) hZ (own_w32 hw) (own_w9 hw) (by decide) (by decide)) q36a q36c (g := (mkF m 317 #[.val (Value.int x0), .val (Value.int x1), .val (Value.long x2), .second, .val (Value.long x3), .second, .val (Value.long x4), .second, .val (Value.int x5), .val (Value.int u0), .val (Value.int u1), .val (Value.long u2), .second, .val (Value.long u3), .second, .val (Value.long u4), .second, .val (Value.long u5), .second, .val (Value.int v0), .val (Value.int v1), .val (Value.long v2), .second, .val (Value.long v3), .second, .val (Value.long v4), .second, .val (Value.long v5), .second, .val (Value.int md), .val (Value.ref b13), .val (Value.ref b17), .val (Value.int (own_hd u0 u1 u2 u3 u4 u5 v0 v1 v2 v3 v4 v5)), .val (Value.int (1 : Int32)), .val (Value.int (1 : Int32))] [Value.null, (Value.ref b13)])) rfl (by rw [hml]; rfl) (Steps.refl _) (argsL := [Value.null]) (rest := []) (lenOf own_pd5 rfl) rfl (by show 2 * 0 + _ ≤ _; exact Nat.le_of_eq rfl) (hb hby at_317) (fun _ _ => ⟨rfl, e23, (by decide : (2 : Nat) + 0 ≤ _), (by decide : (12 : Nat) + 0 ≤ _)⟩)
        dsimp only [Pt.U, Pt.locs, Pt.cells, Pt.slots] at X36 l36 y36 z36 st36 hQ36
        subst l36 y36 z36
        obtain ⟨rfl, e36, Nq36⟩ := hQ36
        have N36 := Fr.app N23 Nq36
        refine own_tr st36 ?_
        show own_G p e below s _ _ _ (T36.setTop (mkF m 320 #[.val (Value.int x0), .val (Value.int x1), .val (Value.long x2), .second, .val (Value.long x3), .second, .val (Value.long x4), .second, .val (Value.int x5), .val (Value.int u0), .val (Value.int u1), .val (Value.long u2), .second, .val (Value.long u3), .second, .val (Value.long u4), .second, .val (Value.long u5), .second, .val (Value.int v0), .val (Value.int v1), .val (Value.long v2), .second, .val (Value.long v3), .second, .val (Value.long v4), .second, .val (Value.long v5), .second, .val (Value.int md), .val (Value.ref b13), .val (Value.ref b17), .val (Value.int (own_hd u0 u1 u2 u3 u4 u5 v0 v1 v2 v3 v4 v5)), .val (Value.int (1 : Int32)), .val (Value.int (1 : Int32))] [(Value.int (0 : Int32))]))
        refine own_if_ne X36 hx hby at_320 (pc' := 327) (by decide) (by decide) (fun hb37 => by exfalso; revert hb37; decide) (fun hb37 => ?_)
        show own_G p e below s _ _ _ (T36.setTop (mkF m 323 #[.val (Value.int x0), .val (Value.int x1), .val (Value.long x2), .second, .val (Value.long x3), .second, .val (Value.long x4), .second, .val (Value.int x5), .val (Value.int u0), .val (Value.int u1), .val (Value.long u2), .second, .val (Value.long u3), .second, .val (Value.long u4), .second, .val (Value.long u5), .second, .val (Value.int v0), .val (Value.int v1), .val (Value.long v2), .second, .val (Value.long v3), .second, .val (Value.long v4), .second, .val (Value.long v5), .second, .val (Value.int md), .val (Value.ref b13), .val (Value.ref b17), .val (Value.int (own_hd u0 u1 u2 u3 u4 u5 v0 v1 v2 v3 v4 v5)), .val (Value.int (1 : Int32)), .val (Value.int (1 : Int32))] []))
        refine own_iconst X36 hx hby at_323 ?_
        show own_G p e below s _ _ _ (T36.setTop (mkF m 324 #[.val (Value.int x0), .val (Value.int x1), .val (Value.long x2), .second, .val (Value.long x3), .second, .val (Value.long x4), .second, .val (Value.int x5), .val (Value.int u0), .val (Value.int u1), .val (Value.long u2), .second, .val (Value.long u3), .second, .val (Value.long u4), .second, .val (Value.long u5), .second, .val (Value.int v0), .val (Value.int v1), .val (Value.long v2), .second, .val (Value.long v3), .second, .val (Value.long v4), .second, .val (Value.long v5), .second, .val (Value.int md), .val (Value.ref b13), .val (Value.ref b17), .val (Value.int (own_hd u0 u1 u2 u3 u4 u5 v0 v1 v2 v3 v4 v5)), .val (Value.int (1 : Int32)), .val (Value.int (1 : Int32))] [(Value.int (1 : Int32))]))
        refine own_goto X36 hx hby at_324 (pc' := 328) (by decide) (by decide) ?_
        show own_G p e below s _ _ _ (T36.setTop (mkF m 328 #[.val (Value.int x0), .val (Value.int x1), .val (Value.long x2), .second, .val (Value.long x3), .second, .val (Value.long x4), .second, .val (Value.int x5), .val (Value.int u0), .val (Value.int u1), .val (Value.long u2), .second, .val (Value.long u3), .second, .val (Value.long u4), .second, .val (Value.long u5), .second, .val (Value.int v0), .val (Value.int v1), .val (Value.long v2), .second, .val (Value.long v3), .second, .val (Value.long v4), .second, .val (Value.long v5), .second, .val (Value.int md), .val (Value.ref b13), .val (Value.ref b17), .val (Value.int (own_hd u0 u1 u2 u3 u4 u5 v0 v1 v2 v3 v4 v5)), .val (Value.int (1 : Int32)), .val (Value.int (1 : Int32))] [(Value.int (1 : Int32))]))
        refine own_istore X36 hx hby at_328 (l' := #[.val (Value.int x0), .val (Value.int x1), .val (Value.long x2), .second, .val (Value.long x3), .second, .val (Value.long x4), .second, .val (Value.int x5), .val (Value.int u0), .val (Value.int u1), .val (Value.long u2), .second, .val (Value.long u3), .second, .val (Value.long u4), .second, .val (Value.long u5), .second, .val (Value.int v0), .val (Value.int v1), .val (Value.long v2), .second, .val (Value.long v3), .second, .val (Value.long v4), .second, .val (Value.long v5), .second, .val (Value.int md), .val (Value.ref b13), .val (Value.ref b17), .val (Value.int (own_hd u0 u1 u2 u3 u4 u5 v0 v1 v2 v3 v4 v5)), .val (Value.int (1 : Int32)), .val (Value.int (1 : Int32))]) rfl ?_
        show own_G p e below s _ _ _ (T36.setTop (mkF m 330 #[.val (Value.int x0), .val (Value.int x1), .val (Value.long x2), .second, .val (Value.long x3), .second, .val (Value.long x4), .second, .val (Value.int x5), .val (Value.int u0), .val (Value.int u1), .val (Value.long u2), .second, .val (Value.long u3), .second, .val (Value.long u4), .second, .val (Value.long u5), .second, .val (Value.int v0), .val (Value.int v1), .val (Value.long v2), .second, .val (Value.long v3), .second, .val (Value.long v4), .second, .val (Value.long v5), .second, .val (Value.int md), .val (Value.ref b13), .val (Value.ref b17), .val (Value.int (own_hd u0 u1 u2 u3 u4 u5 v0 v1 v2 v3 v4 v5)), .val (Value.int (1 : Int32)), .val (Value.int (1 : Int32))] []))
        refine own_goto X36 hx hby at_330 (pc' := 358) (by decide) (by decide) ?_
        show own_G p e below s _ _ _ (T36.setTop (mkF m 358 #[.val (Value.int x0), .val (Value.int x1), .val (Value.long x2), .second, .val (Value.long x3), .second, .val (Value.long x4), .second, .val (Value.int x5), .val (Value.int u0), .val (Value.int u1), .val (Value.long u2), .second, .val (Value.long u3), .second, .val (Value.long u4), .second, .val (Value.long u5), .second, .val (Value.int v0), .val (Value.int v1), .val (Value.long v2), .second, .val (Value.long v3), .second, .val (Value.long v4), .second, .val (Value.long v5), .second, .val (Value.int md), .val (Value.ref b13), .val (Value.ref b17), .val (Value.int (own_hd u0 u1 u2 u3 u4 u5 v0 v1 v2 v3 v4 v5)), .val (Value.int (1 : Int32)), .val (Value.int (1 : Int32))] []))
        refine own_iload X36 hx hby at_358 rfl ?_
        show own_G p e below s _ _ _ (T36.setTop (mkF m 360 #[.val (Value.int x0), .val (Value.int x1), .val (Value.long x2), .second, .val (Value.long x3), .second, .val (Value.long x4), .second, .val (Value.int x5), .val (Value.int u0), .val (Value.int u1), .val (Value.long u2), .second, .val (Value.long u3), .second, .val (Value.long u4), .second, .val (Value.long u5), .second, .val (Value.int v0), .val (Value.int v1), .val (Value.long v2), .second, .val (Value.long v3), .second, .val (Value.long v4), .second, .val (Value.long v5), .second, .val (Value.int md), .val (Value.ref b13), .val (Value.ref b17), .val (Value.int (own_hd u0 u1 u2 u3 u4 u5 v0 v1 v2 v3 v4 v5)), .val (Value.int (1 : Int32)), .val (Value.int (1 : Int32))] [(Value.int (1 : Int32))]))
        refine own_if_eq X36 hx hby at_360 (pc' := 372) (by decide) (by decide) (fun hb38 => by exfalso; revert hb38; decide) (fun hb38 => ?_)
        show own_G p e below s _ _ _ (T36.setTop (mkF m 363 #[.val (Value.int x0), .val (Value.int x1), .val (Value.long x2), .second, .val (Value.long x3), .second, .val (Value.long x4), .second, .val (Value.int x5), .val (Value.int u0), .val (Value.int u1), .val (Value.long u2), .second, .val (Value.long u3), .second, .val (Value.long u4), .second, .val (Value.long u5), .second, .val (Value.int v0), .val (Value.int v1), .val (Value.long v2), .second, .val (Value.long v3), .second, .val (Value.long v4), .second, .val (Value.long v5), .second, .val (Value.int md), .val (Value.ref b13), .val (Value.ref b17), .val (Value.int (own_hd u0 u1 u2 u3 u4 u5 v0 v1 v2 v3 v4 v5)), .val (Value.int (1 : Int32)), .val (Value.int (1 : Int32))] []))
        refine own_iload X36 hx hby at_363 rfl ?_
        show own_G p e below s _ _ _ (T36.setTop (mkF m 365 #[.val (Value.int x0), .val (Value.int x1), .val (Value.long x2), .second, .val (Value.long x3), .second, .val (Value.long x4), .second, .val (Value.int x5), .val (Value.int u0), .val (Value.int u1), .val (Value.long u2), .second, .val (Value.long u3), .second, .val (Value.long u4), .second, .val (Value.long u5), .second, .val (Value.int v0), .val (Value.int v1), .val (Value.long v2), .second, .val (Value.long v3), .second, .val (Value.long v4), .second, .val (Value.long v5), .second, .val (Value.int md), .val (Value.ref b13), .val (Value.ref b17), .val (Value.int (own_hd u0 u1 u2 u3 u4 u5 v0 v1 v2 v3 v4 v5)), .val (Value.int (1 : Int32)), .val (Value.int (1 : Int32))] [(Value.int (1 : Int32))]))
        refine own_if_eq X36 hx hby at_365 (pc' := 372) (by decide) (by decide) (fun hb39 => by exfalso; revert hb39; decide) (fun hb39 => ?_)
        show own_G p e below s _ _ _ (T36.setTop (mkF m 368 #[.val (Value.int x0), .val (Value.int x1), .val (Value.long x2), .second, .val (Value.long x3), .second, .val (Value.long x4), .second, .val (Value.int x5), .val (Value.int u0), .val (Value.int u1), .val (Value.long u2), .second, .val (Value.long u3), .second, .val (Value.long u4), .second, .val (Value.long u5), .second, .val (Value.int v0), .val (Value.int v1), .val (Value.long v2), .second, .val (Value.long v3), .second, .val (Value.long v4), .second, .val (Value.long v5), .second, .val (Value.int md), .val (Value.ref b13), .val (Value.ref b17), .val (Value.int (own_hd u0 u1 u2 u3 u4 u5 v0 v1 v2 v3 v4 v5)), .val (Value.int (1 : Int32)), .val (Value.int (1 : Int32))] []))
        refine own_iconst X36 hx hby at_368 ?_
        show own_G p e below s _ _ _ (T36.setTop (mkF m 369 #[.val (Value.int x0), .val (Value.int x1), .val (Value.long x2), .second, .val (Value.long x3), .second, .val (Value.long x4), .second, .val (Value.int x5), .val (Value.int u0), .val (Value.int u1), .val (Value.long u2), .second, .val (Value.long u3), .second, .val (Value.long u4), .second, .val (Value.long u5), .second, .val (Value.int v0), .val (Value.int v1), .val (Value.long v2), .second, .val (Value.long v3), .second, .val (Value.long v4), .second, .val (Value.long v5), .second, .val (Value.int md), .val (Value.ref b13), .val (Value.ref b17), .val (Value.int (own_hd u0 u1 u2 u3 u4 u5 v0 v1 v2 v3 v4 v5)), .val (Value.int (1 : Int32)), .val (Value.int (1 : Int32))] [(Value.int (1 : Int32))]))
        refine own_goto X36 hx hby at_369 (pc' := 373) (by decide) (by decide) ?_
        show own_G p e below s _ _ _ (T36.setTop (mkF m 373 #[.val (Value.int x0), .val (Value.int x1), .val (Value.long x2), .second, .val (Value.long x3), .second, .val (Value.long x4), .second, .val (Value.int x5), .val (Value.int u0), .val (Value.int u1), .val (Value.long u2), .second, .val (Value.long u3), .second, .val (Value.long u4), .second, .val (Value.long u5), .second, .val (Value.int v0), .val (Value.int v1), .val (Value.long v2), .second, .val (Value.long v3), .second, .val (Value.long v4), .second, .val (Value.long v5), .second, .val (Value.int md), .val (Value.ref b13), .val (Value.ref b17), .val (Value.int (own_hd u0 u1 u2 u3 u4 u5 v0 v1 v2 v3 v4 v5)), .val (Value.int (1 : Int32)), .val (Value.int (1 : Int32))] [(Value.int (1 : Int32))]))
        refine own_retN X36 hx hby hlk (t := .boolean) Bd.returns (by simp) at_373 (by decide) (by decide) ?_
        exact ⟨rfl, N36⟩
    · show own_G p e below s _ _ _ (T23.setTop (mkF m 296 #[.val (Value.int x0), .val (Value.int x1), .val (Value.long x2), .second, .val (Value.long x3), .second, .val (Value.long x4), .second, .val (Value.int x5), .val (Value.int u0), .val (Value.int u1), .val (Value.long u2), .second, .val (Value.long u3), .second, .val (Value.long u4), .second, .val (Value.long u5), .second, .val (Value.int v0), .val (Value.int v1), .val (Value.long v2), .second, .val (Value.long v3), .second, .val (Value.long v4), .second, .val (Value.long v5), .second, .val (Value.int md), .val (Value.ref b13), .val (Value.ref b17), .val (Value.int (own_hd u0 u1 u2 u3 u4 u5 v0 v1 v2 v3 v4 v5)), .val (Value.int (1 : Int32)), .val (Value.int (1 : Int32))] []))
      refine own_aload X23 hx hby at_296 rfl rfl ?_
      show own_G p e below s _ _ _ (T23.setTop (mkF m 298 #[.val (Value.int x0), .val (Value.int x1), .val (Value.long x2), .second, .val (Value.long x3), .second, .val (Value.long x4), .second, .val (Value.int x5), .val (Value.int u0), .val (Value.int u1), .val (Value.long u2), .second, .val (Value.long u3), .second, .val (Value.long u4), .second, .val (Value.long u5), .second, .val (Value.int v0), .val (Value.int v1), .val (Value.long v2), .second, .val (Value.long v3), .second, .val (Value.long v4), .second, .val (Value.long v5), .second, .val (Value.int md), .val (Value.ref b13), .val (Value.ref b17), .val (Value.int (own_hd u0 u1 u2 u3 u4 u5 v0 v1 v2 v3 v4 v5)), .val (Value.int (1 : Int32)), .val (Value.int (1 : Int32))] [(Value.ref b13)]))
      refine own_aload X23 hx hby at_298 rfl rfl ?_
      show own_G p e below s _ _ _ (T23.setTop (mkF m 300 #[.val (Value.int x0), .val (Value.int x1), .val (Value.long x2), .second, .val (Value.long x3), .second, .val (Value.long x4), .second, .val (Value.int x5), .val (Value.int u0), .val (Value.int u1), .val (Value.long u2), .second, .val (Value.long u3), .second, .val (Value.long u4), .second, .val (Value.long u5), .second, .val (Value.int v0), .val (Value.int v1), .val (Value.long v2), .second, .val (Value.long v3), .second, .val (Value.long v4), .second, .val (Value.long v5), .second, .val (Value.int md), .val (Value.ref b13), .val (Value.ref b17), .val (Value.int (own_hd u0 u1 u2 u3 u4 u5 v0 v1 v2 v3 v4 v5)), .val (Value.int (1 : Int32)), .val (Value.int (1 : Int32))] [(Value.ref b13), (Value.ref b13)]))
      obtain ⟨cq40, kq40, q40a, q40b, q40c⟩ := isOf (T := T23) hZ e23 E20_b13
      obtain ⟨_, _, ⟨T40, L40, k40, n40⟩, -, X40, ⟨Lc40, hQ40, l40, y40, z40⟩, st40⟩ := X23.virtualBack hx (y := (⟨"com/example/iron_log/ironlog/index/IndexFile$Header", "equals", "(Ljava/lang/Object;)Z"⟩ : MethodName)) (z := (⟨"com/example/iron_log/ironlog/index/IndexFile$Header", "equals", "(Ljava/lang/Object;)Z"⟩ : MethodName)) hown (mvT hZ (own_w28 hw)) (mvT hZ (own_w29 hw)) (notFace_of_selects (args := #[]) (mvT hZ (own_w31 hw))) (mvT hZ (own_w31 hw)) (mvT hZ (own_w30 hw)) (by decide) (backOf (W := 0) (own_rmS l Z a0 hw [] b13  T19.heap n0 O20  ) hZ (own_w32 hw) (own_w9 hw) (by decide) (by decide)) q40a q40c (g := (mkF m 300 #[.val (Value.int x0), .val (Value.int x1), .val (Value.long x2), .second, .val (Value.long x3), .second, .val (Value.long x4), .second, .val (Value.int x5), .val (Value.int u0), .val (Value.int u1), .val (Value.long u2), .second, .val (Value.long u3), .second, .val (Value.long u4), .second, .val (Value.long u5), .second, .val (Value.int v0), .val (Value.int v1), .val (Value.long v2), .second, .val (Value.long v3), .second, .val (Value.long v4), .second, .val (Value.long v5), .second, .val (Value.int md), .val (Value.ref b13), .val (Value.ref b17), .val (Value.int (own_hd u0 u1 u2 u3 u4 u5 v0 v1 v2 v3 v4 v5)), .val (Value.int (1 : Int32)), .val (Value.int (1 : Int32))] [(Value.ref b13), (Value.ref b13)])) rfl (by rw [hml]; rfl) (Steps.refl _) (argsL := [(Value.ref b13)]) (rest := []) (lenOf own_pd5 rfl) rfl (by show 2 * 0 + _ ≤ _; exact Nat.le_of_eq rfl) (hb hby at_300) (fun _ _ => ⟨rfl, e23, (by decide : (2 : Nat) + 0 ≤ _), (by decide : (12 : Nat) + 0 ≤ _)⟩)
      dsimp only [Pt.U, Pt.locs, Pt.cells, Pt.slots] at X40 l40 y40 z40 st40 hQ40
      subst l40 y40 z40
      obtain ⟨rfl, e40, Nq40⟩ := hQ40
      have N40 := Fr.app N23 Nq40
      refine own_tr st40 ?_
      show own_G p e below s _ _ _ (T40.setTop (mkF m 303 #[.val (Value.int x0), .val (Value.int x1), .val (Value.long x2), .second, .val (Value.long x3), .second, .val (Value.long x4), .second, .val (Value.int x5), .val (Value.int u0), .val (Value.int u1), .val (Value.long u2), .second, .val (Value.long u3), .second, .val (Value.long u4), .second, .val (Value.long u5), .second, .val (Value.int v0), .val (Value.int v1), .val (Value.long v2), .second, .val (Value.long v3), .second, .val (Value.long v4), .second, .val (Value.long v5), .second, .val (Value.int md), .val (Value.ref b13), .val (Value.ref b17), .val (Value.int (own_hd u0 u1 u2 u3 u4 u5 v0 v1 v2 v3 v4 v5)), .val (Value.int (1 : Int32)), .val (Value.int (1 : Int32))] [(Value.int (1 : Int32))]))
      refine own_istore X40 hx hby at_303 (l' := #[.val (Value.int x0), .val (Value.int x1), .val (Value.long x2), .second, .val (Value.long x3), .second, .val (Value.long x4), .second, .val (Value.int x5), .val (Value.int u0), .val (Value.int u1), .val (Value.long u2), .second, .val (Value.long u3), .second, .val (Value.long u4), .second, .val (Value.long u5), .second, .val (Value.int v0), .val (Value.int v1), .val (Value.long v2), .second, .val (Value.long v3), .second, .val (Value.long v4), .second, .val (Value.long v5), .second, .val (Value.int md), .val (Value.ref b13), .val (Value.ref b17), .val (Value.int (own_hd u0 u1 u2 u3 u4 u5 v0 v1 v2 v3 v4 v5)), .val (Value.int (1 : Int32)), .val (Value.int (1 : Int32))]) rfl ?_
      show own_G p e below s _ _ _ (T40.setTop (mkF m 305 #[.val (Value.int x0), .val (Value.int x1), .val (Value.long x2), .second, .val (Value.long x3), .second, .val (Value.long x4), .second, .val (Value.int x5), .val (Value.int u0), .val (Value.int u1), .val (Value.long u2), .second, .val (Value.long u3), .second, .val (Value.long u4), .second, .val (Value.long u5), .second, .val (Value.int v0), .val (Value.int v1), .val (Value.long v2), .second, .val (Value.long v3), .second, .val (Value.long v4), .second, .val (Value.long v5), .second, .val (Value.int md), .val (Value.ref b13), .val (Value.ref b17), .val (Value.int (own_hd u0 u1 u2 u3 u4 u5 v0 v1 v2 v3 v4 v5)), .val (Value.int (1 : Int32)), .val (Value.int (1 : Int32))] []))
      refine own_goto X40 hx hby at_305 (pc' := 358) (by decide) (by decide) ?_
      show own_G p e below s _ _ _ (T40.setTop (mkF m 358 #[.val (Value.int x0), .val (Value.int x1), .val (Value.long x2), .second, .val (Value.long x3), .second, .val (Value.long x4), .second, .val (Value.int x5), .val (Value.int u0), .val (Value.int u1), .val (Value.long u2), .second, .val (Value.long u3), .second, .val (Value.long u4), .second, .val (Value.long u5), .second, .val (Value.int v0), .val (Value.int v1), .val (Value.long v2), .second, .val (Value.long v3), .second, .val (Value.long v4), .second, .val (Value.long v5), .second, .val (Value.int md), .val (Value.ref b13), .val (Value.ref b17), .val (Value.int (own_hd u0 u1 u2 u3 u4 u5 v0 v1 v2 v3 v4 v5)), .val (Value.int (1 : Int32)), .val (Value.int (1 : Int32))] []))
      refine own_iload X40 hx hby at_358 rfl ?_
      show own_G p e below s _ _ _ (T40.setTop (mkF m 360 #[.val (Value.int x0), .val (Value.int x1), .val (Value.long x2), .second, .val (Value.long x3), .second, .val (Value.long x4), .second, .val (Value.int x5), .val (Value.int u0), .val (Value.int u1), .val (Value.long u2), .second, .val (Value.long u3), .second, .val (Value.long u4), .second, .val (Value.long u5), .second, .val (Value.int v0), .val (Value.int v1), .val (Value.long v2), .second, .val (Value.long v3), .second, .val (Value.long v4), .second, .val (Value.long v5), .second, .val (Value.int md), .val (Value.ref b13), .val (Value.ref b17), .val (Value.int (own_hd u0 u1 u2 u3 u4 u5 v0 v1 v2 v3 v4 v5)), .val (Value.int (1 : Int32)), .val (Value.int (1 : Int32))] [(Value.int (1 : Int32))]))
      refine own_if_eq X40 hx hby at_360 (pc' := 372) (by decide) (by decide) (fun hb41 => by exfalso; revert hb41; decide) (fun hb41 => ?_)
      show own_G p e below s _ _ _ (T40.setTop (mkF m 363 #[.val (Value.int x0), .val (Value.int x1), .val (Value.long x2), .second, .val (Value.long x3), .second, .val (Value.long x4), .second, .val (Value.int x5), .val (Value.int u0), .val (Value.int u1), .val (Value.long u2), .second, .val (Value.long u3), .second, .val (Value.long u4), .second, .val (Value.long u5), .second, .val (Value.int v0), .val (Value.int v1), .val (Value.long v2), .second, .val (Value.long v3), .second, .val (Value.long v4), .second, .val (Value.long v5), .second, .val (Value.int md), .val (Value.ref b13), .val (Value.ref b17), .val (Value.int (own_hd u0 u1 u2 u3 u4 u5 v0 v1 v2 v3 v4 v5)), .val (Value.int (1 : Int32)), .val (Value.int (1 : Int32))] []))
      refine own_iload X40 hx hby at_363 rfl ?_
      show own_G p e below s _ _ _ (T40.setTop (mkF m 365 #[.val (Value.int x0), .val (Value.int x1), .val (Value.long x2), .second, .val (Value.long x3), .second, .val (Value.long x4), .second, .val (Value.int x5), .val (Value.int u0), .val (Value.int u1), .val (Value.long u2), .second, .val (Value.long u3), .second, .val (Value.long u4), .second, .val (Value.long u5), .second, .val (Value.int v0), .val (Value.int v1), .val (Value.long v2), .second, .val (Value.long v3), .second, .val (Value.long v4), .second, .val (Value.long v5), .second, .val (Value.int md), .val (Value.ref b13), .val (Value.ref b17), .val (Value.int (own_hd u0 u1 u2 u3 u4 u5 v0 v1 v2 v3 v4 v5)), .val (Value.int (1 : Int32)), .val (Value.int (1 : Int32))] [(Value.int (1 : Int32))]))
      refine own_if_eq X40 hx hby at_365 (pc' := 372) (by decide) (by decide) (fun hb42 => by exfalso; revert hb42; decide) (fun hb42 => ?_)
      show own_G p e below s _ _ _ (T40.setTop (mkF m 368 #[.val (Value.int x0), .val (Value.int x1), .val (Value.long x2), .second, .val (Value.long x3), .second, .val (Value.long x4), .second, .val (Value.int x5), .val (Value.int u0), .val (Value.int u1), .val (Value.long u2), .second, .val (Value.long u3), .second, .val (Value.long u4), .second, .val (Value.long u5), .second, .val (Value.int v0), .val (Value.int v1), .val (Value.long v2), .second, .val (Value.long v3), .second, .val (Value.long v4), .second, .val (Value.long v5), .second, .val (Value.int md), .val (Value.ref b13), .val (Value.ref b17), .val (Value.int (own_hd u0 u1 u2 u3 u4 u5 v0 v1 v2 v3 v4 v5)), .val (Value.int (1 : Int32)), .val (Value.int (1 : Int32))] []))
      refine own_iconst X40 hx hby at_368 ?_
      show own_G p e below s _ _ _ (T40.setTop (mkF m 369 #[.val (Value.int x0), .val (Value.int x1), .val (Value.long x2), .second, .val (Value.long x3), .second, .val (Value.long x4), .second, .val (Value.int x5), .val (Value.int u0), .val (Value.int u1), .val (Value.long u2), .second, .val (Value.long u3), .second, .val (Value.long u4), .second, .val (Value.long u5), .second, .val (Value.int v0), .val (Value.int v1), .val (Value.long v2), .second, .val (Value.long v3), .second, .val (Value.long v4), .second, .val (Value.long v5), .second, .val (Value.int md), .val (Value.ref b13), .val (Value.ref b17), .val (Value.int (own_hd u0 u1 u2 u3 u4 u5 v0 v1 v2 v3 v4 v5)), .val (Value.int (1 : Int32)), .val (Value.int (1 : Int32))] [(Value.int (1 : Int32))]))
      refine own_goto X40 hx hby at_369 (pc' := 373) (by decide) (by decide) ?_
      show own_G p e below s _ _ _ (T40.setTop (mkF m 373 #[.val (Value.int x0), .val (Value.int x1), .val (Value.long x2), .second, .val (Value.long x3), .second, .val (Value.long x4), .second, .val (Value.int x5), .val (Value.int u0), .val (Value.int u1), .val (Value.long u2), .second, .val (Value.long u3), .second, .val (Value.long u4), .second, .val (Value.long u5), .second, .val (Value.int v0), .val (Value.int v1), .val (Value.long v2), .second, .val (Value.long v3), .second, .val (Value.long v4), .second, .val (Value.long v5), .second, .val (Value.int md), .val (Value.ref b13), .val (Value.ref b17), .val (Value.int (own_hd u0 u1 u2 u3 u4 u5 v0 v1 v2 v3 v4 v5)), .val (Value.int (1 : Int32)), .val (Value.int (1 : Int32))] [(Value.int (1 : Int32))]))
      refine own_retN X40 hx hby hlk (t := .boolean) Bd.returns (by simp) at_373 (by decide) (by decide) ?_
      exact ⟨rfl, N40⟩
  refine own_iload X19 hx hby at_203 rfl ?_
  show own_G p e below s _ _ _ (T19.setTop (mkF m 205 #[.val (Value.int x0), .val (Value.int x1), .val (Value.long x2), .second, .val (Value.long x3), .second, .val (Value.long x4), .second, .val (Value.int x5), .val (Value.int u0), .val (Value.int u1), .val (Value.long u2), .second, .val (Value.long u3), .second, .val (Value.long u4), .second, .val (Value.long u5), .second, .val (Value.int v0), .val (Value.int v1), .val (Value.long v2), .second, .val (Value.long v3), .second, .val (Value.long v4), .second, .val (Value.long v5), .second, .val (Value.int md), .val (Value.ref b13), .val (Value.ref b17), .unset, .unset, .unset] [(Value.int u0)]))
  refine own_iload X19 hx hby at_205 rfl ?_
  show own_G p e below s _ _ _ (T19.setTop (mkF m 207 #[.val (Value.int x0), .val (Value.int x1), .val (Value.long x2), .second, .val (Value.long x3), .second, .val (Value.long x4), .second, .val (Value.int x5), .val (Value.int u0), .val (Value.int u1), .val (Value.long u2), .second, .val (Value.long u3), .second, .val (Value.long u4), .second, .val (Value.long u5), .second, .val (Value.int v0), .val (Value.int v1), .val (Value.long v2), .second, .val (Value.long v3), .second, .val (Value.long v4), .second, .val (Value.long v5), .second, .val (Value.int md), .val (Value.ref b13), .val (Value.ref b17), .unset, .unset, .unset] [(Value.int v0), (Value.int u0)]))
  refine own_icmp_ne X19 hx hby at_207 (pc' := 253) (by decide) (by decide) (fun hb43 => ?_) (fun hb43 => ?_)
  · show own_G p e below s _ _ _ (T19.setTop (mkF m 253 #[.val (Value.int x0), .val (Value.int x1), .val (Value.long x2), .second, .val (Value.long x3), .second, .val (Value.long x4), .second, .val (Value.int x5), .val (Value.int u0), .val (Value.int u1), .val (Value.long u2), .second, .val (Value.long u3), .second, .val (Value.long u4), .second, .val (Value.long u5), .second, .val (Value.int v0), .val (Value.int v1), .val (Value.long v2), .second, .val (Value.long v3), .second, .val (Value.long v4), .second, .val (Value.long v5), .second, .val (Value.int md), .val (Value.ref b13), .val (Value.ref b17), .unset, .unset, .unset] []))
    refine own_iconst X19 hx hby at_253 ?_
    show own_G p e below s _ _ _ (T19.setTop (mkF m 254 #[.val (Value.int x0), .val (Value.int x1), .val (Value.long x2), .second, .val (Value.long x3), .second, .val (Value.long x4), .second, .val (Value.int x5), .val (Value.int u0), .val (Value.int u1), .val (Value.long u2), .second, .val (Value.long u3), .second, .val (Value.long u4), .second, .val (Value.long u5), .second, .val (Value.int v0), .val (Value.int v1), .val (Value.long v2), .second, .val (Value.long v3), .second, .val (Value.long v4), .second, .val (Value.long v5), .second, .val (Value.int md), .val (Value.ref b13), .val (Value.ref b17), .unset, .unset, .unset] [(Value.int (0 : Int32))]))
    exact J2 _ (by simp only [own_hd, if_neg hb43])
  · show own_G p e below s _ _ _ (T19.setTop (mkF m 210 #[.val (Value.int x0), .val (Value.int x1), .val (Value.long x2), .second, .val (Value.long x3), .second, .val (Value.long x4), .second, .val (Value.int x5), .val (Value.int u0), .val (Value.int u1), .val (Value.long u2), .second, .val (Value.long u3), .second, .val (Value.long u4), .second, .val (Value.long u5), .second, .val (Value.int v0), .val (Value.int v1), .val (Value.long v2), .second, .val (Value.long v3), .second, .val (Value.long v4), .second, .val (Value.long v5), .second, .val (Value.int md), .val (Value.ref b13), .val (Value.ref b17), .unset, .unset, .unset] []))
    refine own_iload X19 hx hby at_210 rfl ?_
    show own_G p e below s _ _ _ (T19.setTop (mkF m 212 #[.val (Value.int x0), .val (Value.int x1), .val (Value.long x2), .second, .val (Value.long x3), .second, .val (Value.long x4), .second, .val (Value.int x5), .val (Value.int u0), .val (Value.int u1), .val (Value.long u2), .second, .val (Value.long u3), .second, .val (Value.long u4), .second, .val (Value.long u5), .second, .val (Value.int v0), .val (Value.int v1), .val (Value.long v2), .second, .val (Value.long v3), .second, .val (Value.long v4), .second, .val (Value.long v5), .second, .val (Value.int md), .val (Value.ref b13), .val (Value.ref b17), .unset, .unset, .unset] [(Value.int u1)]))
    refine own_iload X19 hx hby at_212 rfl ?_
    show own_G p e below s _ _ _ (T19.setTop (mkF m 214 #[.val (Value.int x0), .val (Value.int x1), .val (Value.long x2), .second, .val (Value.long x3), .second, .val (Value.long x4), .second, .val (Value.int x5), .val (Value.int u0), .val (Value.int u1), .val (Value.long u2), .second, .val (Value.long u3), .second, .val (Value.long u4), .second, .val (Value.long u5), .second, .val (Value.int v0), .val (Value.int v1), .val (Value.long v2), .second, .val (Value.long v3), .second, .val (Value.long v4), .second, .val (Value.long v5), .second, .val (Value.int md), .val (Value.ref b13), .val (Value.ref b17), .unset, .unset, .unset] [(Value.int v1), (Value.int u1)]))
    refine own_icmp_ne X19 hx hby at_214 (pc' := 253) (by decide) (by decide) (fun hb44 => ?_) (fun hb44 => ?_)
    · show own_G p e below s _ _ _ (T19.setTop (mkF m 253 #[.val (Value.int x0), .val (Value.int x1), .val (Value.long x2), .second, .val (Value.long x3), .second, .val (Value.long x4), .second, .val (Value.int x5), .val (Value.int u0), .val (Value.int u1), .val (Value.long u2), .second, .val (Value.long u3), .second, .val (Value.long u4), .second, .val (Value.long u5), .second, .val (Value.int v0), .val (Value.int v1), .val (Value.long v2), .second, .val (Value.long v3), .second, .val (Value.long v4), .second, .val (Value.long v5), .second, .val (Value.int md), .val (Value.ref b13), .val (Value.ref b17), .unset, .unset, .unset] []))
      refine own_iconst X19 hx hby at_253 ?_
      show own_G p e below s _ _ _ (T19.setTop (mkF m 254 #[.val (Value.int x0), .val (Value.int x1), .val (Value.long x2), .second, .val (Value.long x3), .second, .val (Value.long x4), .second, .val (Value.int x5), .val (Value.int u0), .val (Value.int u1), .val (Value.long u2), .second, .val (Value.long u3), .second, .val (Value.long u4), .second, .val (Value.long u5), .second, .val (Value.int v0), .val (Value.int v1), .val (Value.long v2), .second, .val (Value.long v3), .second, .val (Value.long v4), .second, .val (Value.long v5), .second, .val (Value.int md), .val (Value.ref b13), .val (Value.ref b17), .unset, .unset, .unset] [(Value.int (0 : Int32))]))
      exact J2 _ (by simp only [own_hd, if_pos hb43, if_neg hb44])
    · show own_G p e below s _ _ _ (T19.setTop (mkF m 217 #[.val (Value.int x0), .val (Value.int x1), .val (Value.long x2), .second, .val (Value.long x3), .second, .val (Value.long x4), .second, .val (Value.int x5), .val (Value.int u0), .val (Value.int u1), .val (Value.long u2), .second, .val (Value.long u3), .second, .val (Value.long u4), .second, .val (Value.long u5), .second, .val (Value.int v0), .val (Value.int v1), .val (Value.long v2), .second, .val (Value.long v3), .second, .val (Value.long v4), .second, .val (Value.long v5), .second, .val (Value.int md), .val (Value.ref b13), .val (Value.ref b17), .unset, .unset, .unset] []))
      refine own_lload X19 hx hby at_217 rfl ?_
      show own_G p e below s _ _ _ (T19.setTop (mkF m 219 #[.val (Value.int x0), .val (Value.int x1), .val (Value.long x2), .second, .val (Value.long x3), .second, .val (Value.long x4), .second, .val (Value.int x5), .val (Value.int u0), .val (Value.int u1), .val (Value.long u2), .second, .val (Value.long u3), .second, .val (Value.long u4), .second, .val (Value.long u5), .second, .val (Value.int v0), .val (Value.int v1), .val (Value.long v2), .second, .val (Value.long v3), .second, .val (Value.long v4), .second, .val (Value.long v5), .second, .val (Value.int md), .val (Value.ref b13), .val (Value.ref b17), .unset, .unset, .unset] [(Value.long u2)]))
      refine own_lload X19 hx hby at_219 rfl ?_
      show own_G p e below s _ _ _ (T19.setTop (mkF m 221 #[.val (Value.int x0), .val (Value.int x1), .val (Value.long x2), .second, .val (Value.long x3), .second, .val (Value.long x4), .second, .val (Value.int x5), .val (Value.int u0), .val (Value.int u1), .val (Value.long u2), .second, .val (Value.long u3), .second, .val (Value.long u4), .second, .val (Value.long u5), .second, .val (Value.int v0), .val (Value.int v1), .val (Value.long v2), .second, .val (Value.long v3), .second, .val (Value.long v4), .second, .val (Value.long v5), .second, .val (Value.int md), .val (Value.ref b13), .val (Value.ref b17), .unset, .unset, .unset] [(Value.long v2), (Value.long u2)]))
      refine own_lcmp_ne X19 hx hby at_221 at_222 (pc' := 253) (by decide) (by decide) (fun hb45 => ?_) (fun hb45 => ?_)
      · show own_G p e below s _ _ _ (T19.setTop (mkF m 253 #[.val (Value.int x0), .val (Value.int x1), .val (Value.long x2), .second, .val (Value.long x3), .second, .val (Value.long x4), .second, .val (Value.int x5), .val (Value.int u0), .val (Value.int u1), .val (Value.long u2), .second, .val (Value.long u3), .second, .val (Value.long u4), .second, .val (Value.long u5), .second, .val (Value.int v0), .val (Value.int v1), .val (Value.long v2), .second, .val (Value.long v3), .second, .val (Value.long v4), .second, .val (Value.long v5), .second, .val (Value.int md), .val (Value.ref b13), .val (Value.ref b17), .unset, .unset, .unset] []))
        refine own_iconst X19 hx hby at_253 ?_
        show own_G p e below s _ _ _ (T19.setTop (mkF m 254 #[.val (Value.int x0), .val (Value.int x1), .val (Value.long x2), .second, .val (Value.long x3), .second, .val (Value.long x4), .second, .val (Value.int x5), .val (Value.int u0), .val (Value.int u1), .val (Value.long u2), .second, .val (Value.long u3), .second, .val (Value.long u4), .second, .val (Value.long u5), .second, .val (Value.int v0), .val (Value.int v1), .val (Value.long v2), .second, .val (Value.long v3), .second, .val (Value.long v4), .second, .val (Value.long v5), .second, .val (Value.int md), .val (Value.ref b13), .val (Value.ref b17), .unset, .unset, .unset] [(Value.int (0 : Int32))]))
        exact J2 _ (by simp only [own_hd, if_pos hb43, if_pos hb44, if_neg hb45])
      · show own_G p e below s _ _ _ (T19.setTop (mkF m 225 #[.val (Value.int x0), .val (Value.int x1), .val (Value.long x2), .second, .val (Value.long x3), .second, .val (Value.long x4), .second, .val (Value.int x5), .val (Value.int u0), .val (Value.int u1), .val (Value.long u2), .second, .val (Value.long u3), .second, .val (Value.long u4), .second, .val (Value.long u5), .second, .val (Value.int v0), .val (Value.int v1), .val (Value.long v2), .second, .val (Value.long v3), .second, .val (Value.long v4), .second, .val (Value.long v5), .second, .val (Value.int md), .val (Value.ref b13), .val (Value.ref b17), .unset, .unset, .unset] []))
        refine own_lload X19 hx hby at_225 rfl ?_
        show own_G p e below s _ _ _ (T19.setTop (mkF m 227 #[.val (Value.int x0), .val (Value.int x1), .val (Value.long x2), .second, .val (Value.long x3), .second, .val (Value.long x4), .second, .val (Value.int x5), .val (Value.int u0), .val (Value.int u1), .val (Value.long u2), .second, .val (Value.long u3), .second, .val (Value.long u4), .second, .val (Value.long u5), .second, .val (Value.int v0), .val (Value.int v1), .val (Value.long v2), .second, .val (Value.long v3), .second, .val (Value.long v4), .second, .val (Value.long v5), .second, .val (Value.int md), .val (Value.ref b13), .val (Value.ref b17), .unset, .unset, .unset] [(Value.long u3)]))
        refine own_lload X19 hx hby at_227 rfl ?_
        show own_G p e below s _ _ _ (T19.setTop (mkF m 229 #[.val (Value.int x0), .val (Value.int x1), .val (Value.long x2), .second, .val (Value.long x3), .second, .val (Value.long x4), .second, .val (Value.int x5), .val (Value.int u0), .val (Value.int u1), .val (Value.long u2), .second, .val (Value.long u3), .second, .val (Value.long u4), .second, .val (Value.long u5), .second, .val (Value.int v0), .val (Value.int v1), .val (Value.long v2), .second, .val (Value.long v3), .second, .val (Value.long v4), .second, .val (Value.long v5), .second, .val (Value.int md), .val (Value.ref b13), .val (Value.ref b17), .unset, .unset, .unset] [(Value.long v3), (Value.long u3)]))
        refine own_lcmp_ne X19 hx hby at_229 at_230 (pc' := 253) (by decide) (by decide) (fun hb46 => ?_) (fun hb46 => ?_)
        · show own_G p e below s _ _ _ (T19.setTop (mkF m 253 #[.val (Value.int x0), .val (Value.int x1), .val (Value.long x2), .second, .val (Value.long x3), .second, .val (Value.long x4), .second, .val (Value.int x5), .val (Value.int u0), .val (Value.int u1), .val (Value.long u2), .second, .val (Value.long u3), .second, .val (Value.long u4), .second, .val (Value.long u5), .second, .val (Value.int v0), .val (Value.int v1), .val (Value.long v2), .second, .val (Value.long v3), .second, .val (Value.long v4), .second, .val (Value.long v5), .second, .val (Value.int md), .val (Value.ref b13), .val (Value.ref b17), .unset, .unset, .unset] []))
          refine own_iconst X19 hx hby at_253 ?_
          show own_G p e below s _ _ _ (T19.setTop (mkF m 254 #[.val (Value.int x0), .val (Value.int x1), .val (Value.long x2), .second, .val (Value.long x3), .second, .val (Value.long x4), .second, .val (Value.int x5), .val (Value.int u0), .val (Value.int u1), .val (Value.long u2), .second, .val (Value.long u3), .second, .val (Value.long u4), .second, .val (Value.long u5), .second, .val (Value.int v0), .val (Value.int v1), .val (Value.long v2), .second, .val (Value.long v3), .second, .val (Value.long v4), .second, .val (Value.long v5), .second, .val (Value.int md), .val (Value.ref b13), .val (Value.ref b17), .unset, .unset, .unset] [(Value.int (0 : Int32))]))
          exact J2 _ (by simp only [own_hd, if_pos hb43, if_pos hb44, if_pos hb45, if_neg hb46])
        · show own_G p e below s _ _ _ (T19.setTop (mkF m 233 #[.val (Value.int x0), .val (Value.int x1), .val (Value.long x2), .second, .val (Value.long x3), .second, .val (Value.long x4), .second, .val (Value.int x5), .val (Value.int u0), .val (Value.int u1), .val (Value.long u2), .second, .val (Value.long u3), .second, .val (Value.long u4), .second, .val (Value.long u5), .second, .val (Value.int v0), .val (Value.int v1), .val (Value.long v2), .second, .val (Value.long v3), .second, .val (Value.long v4), .second, .val (Value.long v5), .second, .val (Value.int md), .val (Value.ref b13), .val (Value.ref b17), .unset, .unset, .unset] []))
          refine own_lload X19 hx hby at_233 rfl ?_
          show own_G p e below s _ _ _ (T19.setTop (mkF m 235 #[.val (Value.int x0), .val (Value.int x1), .val (Value.long x2), .second, .val (Value.long x3), .second, .val (Value.long x4), .second, .val (Value.int x5), .val (Value.int u0), .val (Value.int u1), .val (Value.long u2), .second, .val (Value.long u3), .second, .val (Value.long u4), .second, .val (Value.long u5), .second, .val (Value.int v0), .val (Value.int v1), .val (Value.long v2), .second, .val (Value.long v3), .second, .val (Value.long v4), .second, .val (Value.long v5), .second, .val (Value.int md), .val (Value.ref b13), .val (Value.ref b17), .unset, .unset, .unset] [(Value.long u4)]))
          refine own_lload X19 hx hby at_235 rfl ?_
          show own_G p e below s _ _ _ (T19.setTop (mkF m 237 #[.val (Value.int x0), .val (Value.int x1), .val (Value.long x2), .second, .val (Value.long x3), .second, .val (Value.long x4), .second, .val (Value.int x5), .val (Value.int u0), .val (Value.int u1), .val (Value.long u2), .second, .val (Value.long u3), .second, .val (Value.long u4), .second, .val (Value.long u5), .second, .val (Value.int v0), .val (Value.int v1), .val (Value.long v2), .second, .val (Value.long v3), .second, .val (Value.long v4), .second, .val (Value.long v5), .second, .val (Value.int md), .val (Value.ref b13), .val (Value.ref b17), .unset, .unset, .unset] [(Value.long v4), (Value.long u4)]))
          refine own_lcmp_ne X19 hx hby at_237 at_238 (pc' := 253) (by decide) (by decide) (fun hb47 => ?_) (fun hb47 => ?_)
          · show own_G p e below s _ _ _ (T19.setTop (mkF m 253 #[.val (Value.int x0), .val (Value.int x1), .val (Value.long x2), .second, .val (Value.long x3), .second, .val (Value.long x4), .second, .val (Value.int x5), .val (Value.int u0), .val (Value.int u1), .val (Value.long u2), .second, .val (Value.long u3), .second, .val (Value.long u4), .second, .val (Value.long u5), .second, .val (Value.int v0), .val (Value.int v1), .val (Value.long v2), .second, .val (Value.long v3), .second, .val (Value.long v4), .second, .val (Value.long v5), .second, .val (Value.int md), .val (Value.ref b13), .val (Value.ref b17), .unset, .unset, .unset] []))
            refine own_iconst X19 hx hby at_253 ?_
            show own_G p e below s _ _ _ (T19.setTop (mkF m 254 #[.val (Value.int x0), .val (Value.int x1), .val (Value.long x2), .second, .val (Value.long x3), .second, .val (Value.long x4), .second, .val (Value.int x5), .val (Value.int u0), .val (Value.int u1), .val (Value.long u2), .second, .val (Value.long u3), .second, .val (Value.long u4), .second, .val (Value.long u5), .second, .val (Value.int v0), .val (Value.int v1), .val (Value.long v2), .second, .val (Value.long v3), .second, .val (Value.long v4), .second, .val (Value.long v5), .second, .val (Value.int md), .val (Value.ref b13), .val (Value.ref b17), .unset, .unset, .unset] [(Value.int (0 : Int32))]))
            exact J2 _ (by simp only [own_hd, if_pos hb43, if_pos hb44, if_pos hb45, if_pos hb46, if_neg hb47])
          · show own_G p e below s _ _ _ (T19.setTop (mkF m 241 #[.val (Value.int x0), .val (Value.int x1), .val (Value.long x2), .second, .val (Value.long x3), .second, .val (Value.long x4), .second, .val (Value.int x5), .val (Value.int u0), .val (Value.int u1), .val (Value.long u2), .second, .val (Value.long u3), .second, .val (Value.long u4), .second, .val (Value.long u5), .second, .val (Value.int v0), .val (Value.int v1), .val (Value.long v2), .second, .val (Value.long v3), .second, .val (Value.long v4), .second, .val (Value.long v5), .second, .val (Value.int md), .val (Value.ref b13), .val (Value.ref b17), .unset, .unset, .unset] []))
            refine own_lload X19 hx hby at_241 rfl ?_
            show own_G p e below s _ _ _ (T19.setTop (mkF m 243 #[.val (Value.int x0), .val (Value.int x1), .val (Value.long x2), .second, .val (Value.long x3), .second, .val (Value.long x4), .second, .val (Value.int x5), .val (Value.int u0), .val (Value.int u1), .val (Value.long u2), .second, .val (Value.long u3), .second, .val (Value.long u4), .second, .val (Value.long u5), .second, .val (Value.int v0), .val (Value.int v1), .val (Value.long v2), .second, .val (Value.long v3), .second, .val (Value.long v4), .second, .val (Value.long v5), .second, .val (Value.int md), .val (Value.ref b13), .val (Value.ref b17), .unset, .unset, .unset] [(Value.long u5)]))
            refine own_lload X19 hx hby at_243 rfl ?_
            show own_G p e below s _ _ _ (T19.setTop (mkF m 245 #[.val (Value.int x0), .val (Value.int x1), .val (Value.long x2), .second, .val (Value.long x3), .second, .val (Value.long x4), .second, .val (Value.int x5), .val (Value.int u0), .val (Value.int u1), .val (Value.long u2), .second, .val (Value.long u3), .second, .val (Value.long u4), .second, .val (Value.long u5), .second, .val (Value.int v0), .val (Value.int v1), .val (Value.long v2), .second, .val (Value.long v3), .second, .val (Value.long v4), .second, .val (Value.long v5), .second, .val (Value.int md), .val (Value.ref b13), .val (Value.ref b17), .unset, .unset, .unset] [(Value.long v5), (Value.long u5)]))
            refine own_lcmp_ne X19 hx hby at_245 at_246 (pc' := 253) (by decide) (by decide) (fun hb48 => ?_) (fun hb48 => ?_)
            · show own_G p e below s _ _ _ (T19.setTop (mkF m 253 #[.val (Value.int x0), .val (Value.int x1), .val (Value.long x2), .second, .val (Value.long x3), .second, .val (Value.long x4), .second, .val (Value.int x5), .val (Value.int u0), .val (Value.int u1), .val (Value.long u2), .second, .val (Value.long u3), .second, .val (Value.long u4), .second, .val (Value.long u5), .second, .val (Value.int v0), .val (Value.int v1), .val (Value.long v2), .second, .val (Value.long v3), .second, .val (Value.long v4), .second, .val (Value.long v5), .second, .val (Value.int md), .val (Value.ref b13), .val (Value.ref b17), .unset, .unset, .unset] []))
              refine own_iconst X19 hx hby at_253 ?_
              show own_G p e below s _ _ _ (T19.setTop (mkF m 254 #[.val (Value.int x0), .val (Value.int x1), .val (Value.long x2), .second, .val (Value.long x3), .second, .val (Value.long x4), .second, .val (Value.int x5), .val (Value.int u0), .val (Value.int u1), .val (Value.long u2), .second, .val (Value.long u3), .second, .val (Value.long u4), .second, .val (Value.long u5), .second, .val (Value.int v0), .val (Value.int v1), .val (Value.long v2), .second, .val (Value.long v3), .second, .val (Value.long v4), .second, .val (Value.long v5), .second, .val (Value.int md), .val (Value.ref b13), .val (Value.ref b17), .unset, .unset, .unset] [(Value.int (0 : Int32))]))
              exact J2 _ (by simp only [own_hd, if_pos hb43, if_pos hb44, if_pos hb45, if_pos hb46, if_pos hb47, if_neg hb48])
            · show own_G p e below s _ _ _ (T19.setTop (mkF m 249 #[.val (Value.int x0), .val (Value.int x1), .val (Value.long x2), .second, .val (Value.long x3), .second, .val (Value.long x4), .second, .val (Value.int x5), .val (Value.int u0), .val (Value.int u1), .val (Value.long u2), .second, .val (Value.long u3), .second, .val (Value.long u4), .second, .val (Value.long u5), .second, .val (Value.int v0), .val (Value.int v1), .val (Value.long v2), .second, .val (Value.long v3), .second, .val (Value.long v4), .second, .val (Value.long v5), .second, .val (Value.int md), .val (Value.ref b13), .val (Value.ref b17), .unset, .unset, .unset] []))
              refine own_iconst X19 hx hby at_249 ?_
              show own_G p e below s _ _ _ (T19.setTop (mkF m 250 #[.val (Value.int x0), .val (Value.int x1), .val (Value.long x2), .second, .val (Value.long x3), .second, .val (Value.long x4), .second, .val (Value.int x5), .val (Value.int u0), .val (Value.int u1), .val (Value.long u2), .second, .val (Value.long u3), .second, .val (Value.long u4), .second, .val (Value.long u5), .second, .val (Value.int v0), .val (Value.int v1), .val (Value.long v2), .second, .val (Value.long v3), .second, .val (Value.long v4), .second, .val (Value.long v5), .second, .val (Value.int md), .val (Value.ref b13), .val (Value.ref b17), .unset, .unset, .unset] [(Value.int (1 : Int32))]))
              refine own_goto X19 hx hby at_250 (pc' := 254) (by decide) (by decide) ?_
              show own_G p e below s _ _ _ (T19.setTop (mkF m 254 #[.val (Value.int x0), .val (Value.int x1), .val (Value.long x2), .second, .val (Value.long x3), .second, .val (Value.long x4), .second, .val (Value.int x5), .val (Value.int u0), .val (Value.int u1), .val (Value.long u2), .second, .val (Value.long u3), .second, .val (Value.long u4), .second, .val (Value.long u5), .second, .val (Value.int v0), .val (Value.int v1), .val (Value.long v2), .second, .val (Value.long v3), .second, .val (Value.long v4), .second, .val (Value.long v5), .second, .val (Value.int md), .val (Value.ref b13), .val (Value.ref b17), .unset, .unset, .unset] [(Value.int (1 : Int32))]))
              exact J2 _ (by simp only [own_hd, if_pos hb43, if_pos hb44, if_pos hb45, if_pos hb46, if_pos hb47, if_pos hb48])
set_option maxRecDepth 65536 in
set_option maxHeartbeats 40000000 in
theorem comes_1 {Post : Tables → Env → Array Value → State → Outcome → State → Prop} (hpost : ∀ tb e args s v u, (limb_1_1.after args s (.returned v) u = true ∧ limb_1_2.after args s (.returned v) u = true ∧ True) → FrameEnd s (.returned v) u (Jvm.fieldLocs frame_1_writes args s ++ Jvm.arrayLocs frame_1_arrays args s ++ Jvm.staticLocs frame_1_statics s) 16 128 → Post tb e args s (.returned v) u) :
    ArmFor flags0 classFile x code maxLocals ret World_1 tables_1 room_1 Calls_1 rest_1 Pre_1 Post := by
  intro l hfl _ _ p e ha hc hk s m args below hf hA hF happ hP
  obtain ⟨hcalls, hrest, hpre⟩ := hP
  obtain ⟨-, -, -, hnamed, -, -, -, hat⟩ := (Spec.applies_iff hf).mp happ
  obtain ⟨hg, hn⟩ := and_e (Cond.before_iff.mp (show (Jvm.Cond.and given_1 narrow_1).before args s = true from hpre))
  obtain ⟨hgc, hgr0⟩ := and_e hg
  obtain ⟨hga0, hgr1⟩ := and_e hgr0
  obtain ⟨hga1, hgr2⟩ := and_e hgr1
  obtain ⟨hga2, hgr3⟩ := and_e hgr2
  obtain ⟨hga3, hgr4⟩ := and_e hgr3
  obtain ⟨hga4, hgr5⟩ := and_e hgr4
  have hga5 := hgr5
  obtain ⟨w0, w1, w2, w3, w4, w5, rfl⟩ : ∃ w0 w1 w2 w3 w4 w5 : Value, args = #[w0, w1, w2, w3, w4, w5] := by
    have hs : args.size = 6 := by simpa [Cond.value, given_1] using hgc
    obtain ⟨L⟩ := args
    match L, hs with
    | [w0, w1, w2, w3, w4, w5], _ => exact ⟨w0, w1, w2, w3, w4, w5, rfl⟩
  have hw := fun d (hd : d ∈ tables_1) => atoms_spec (ws := Jvm.Cond.code x code maxLocals ret :: tables_1) hat d (List.mem_cons_of_mem _ hd)
  have hfit : Fit s := fun {y c} hc i hi => by
    obtain ⟨ha, rfl⟩ := Array.getElem?_eq_some_iff.mp hc
    have q := List.all_eq_true.mp ((Array.all_eq_true_iff_forall_mem.mp hF) _ (Array.getElem_mem ha)) i (List.mem_range.mpr hi)
    simpa [Array.getElem?_eq_getElem hi] using q
  obtain ⟨i0, ei0⟩ := is_v hga0
  obtain rfl : w0 = (.int i0) := Option.some.inj ei0
  obtain ⟨i1, ei1⟩ := is_v hga1
  obtain rfl : w1 = (.int i1) := Option.some.inj ei1
  obtain ⟨i2, ei2⟩ := isL_v hga2
  obtain rfl : w2 = (.long i2) := Option.some.inj ei2
  obtain ⟨i3, ei3⟩ := isL_v hga3
  obtain rfl : w3 = (.long i3) := Option.some.inj ei3
  obtain ⟨i4, ei4⟩ := isL_v hga4
  obtain rfl : w4 = (.long i4) := Option.some.inj ei4
  obtain ⟨i5, ei5⟩ := is_v hga5
  obtain rfl : w5 = (.int i5) := Option.some.inj ei5
  obtain ⟨hsets, hown0⟩ := atoms_of _ (rest_1_c_eq ▸ (show rest_1_c.before _ s = true from hrest))
  obtain ⟨arr, f, hC⟩ := own_cache (Or.inr ⟨(own_w40 hw), (hsets _ (List.mem_of_getElem? (i := 2) rfl))⟩) (hsets _ (List.mem_of_getElem? (i := 4) rfl)) (hsets _ (List.mem_of_getElem? (i := 6) rfl)) (hsets _ (List.mem_of_getElem? (i := 7) rfl))
  have hH : Sta s s.heap "java/lang/Integer$IntegerCache" "high" "I" (.int 127) := own_high (hsets _ (List.mem_of_getElem? (i := 3) rfl)) (Or.inl (hsets _ (List.mem_of_getElem? (i := 1) rfl)))
  obtain ⟨n, o, h1, h2, h3, _, L, rfl, ⟨rfl, N⟩, hq⟩ := own_rm0 l s _ hw tables_1 i0 i1 i2 i3 i4 i5 arr f s.heap s.heap.size (Old.start s) hC hH p e ha hc hk s m _ below hf ((Spec.applies_iff_loose hf).mp happ).1 ⟨rfl, State.Warmed39.refl s, rfl⟩ trivial
  refine ⟨n, _, h1, h2, h3, hpost _ _ _ _ _ _ ⟨Cond.after_iff.mpr rfl, Cond.after_iff.mpr (eq_i res_at (Term.int_eval (1)) rfl), trivial⟩ ⟨hq.1, hq.2.1, (hq.2.2.sift fun y hy => Or.inr (N y hy)).mono (by decide) (by decide)⟩⟩
theorem main_1_1 : Claimed_1_1 := comes_1 fun _ _ _ _ _ _ h hF => ⟨h.1, hF⟩
theorem main_1_2 : Claimed_1_2 := comes_1 fun _ _ _ _ _ _ h hF => ⟨h.2.1, hF⟩
end Jvm.Pilot.@@N@@
namespace Jvm.Pilot.@@N@@
open Jvm Jvm.ClassFile Sem Op Lib Jvm.Free Jvm.Stand Jvm.Pilot.@@N@@.Jvm.D
/-! MADE BY PROGRAM (witnessworld.py) out of the Statement's table words and the real class files: 16 classes; the members and pool entries that the words name. The judged class is class 1, her method 3. -/
namespace start1
open Jvm.ClassFile
def u (s : String) : CpInfo := .utf8 (stringToUtf16 s)
/-- a pool by its gaps: so many unusable entries, then the entry; so many at the end -/
def gap : Nat → List CpInfo → List CpInfo
  | 0, r => r
  | n + 1, r => .unusable :: gap n r
def poolList (es : List (Nat × CpInfo)) (last : Nat) : List CpInfo := es.foldr (fun e r => gap e.1 (e.2 :: r)) (gap last [])
def pool (es : List (Nat × CpInfo)) (last : Nat) : Array CpInfo := ⟨poolList es last⟩
def fileOf (pool : Array CpInfo) (this : Nat) (attrs : Array Attribute := #[]) (ms : Array MethodInfo := #[]) (fl : Nat := 33) (sup : Nat := 0) (ifs : Array Nat := #[]) (fds : Array FieldInfo := #[]) : ClassFile where
  minorVersion := 0
  majorVersion := 65
  constantPool := pool
  accessFlags := fl
  thisClass := this
  superClass := sup
  interfaces := ifs
  fields := fds
  methods := ms
  attributes := attrs
def plain (name : String) (sup : Option ClassId) : Class where
  name := name
  kind := .ordinary
  loader := none
  accessFlags := 33
  super := sup
  interfaces := #[]
  cf := none
  fields := #[]
  methods := #[]
  instanceTypes := #[]
  staticTypes := #[]
  resolved := #[]
  callSites := []
  init := .initialized
  statics := none
  mirror := none

def pool0 : Array CpInfo := pool [(5, u "<init>"), (0, u "()V"), (1, .class_ 10), (1, u "java/lang/Object")] 113

def k0c0 : Code := { maxStack := 0, maxLocals := 1, code := object_method_1_code, exceptionTable := #[], attributes := #[] }
def k0m0 : Method := { name := "<init>", desc := "()V", sig := { parameters := [], returnType := none }, accessFlags := 1, code := some k0c0 }
/-- java/lang/Object -/
def k0 : Class := { plain "java/lang/Object" none with
  accessFlags := 33
  interfaces := #[]
  cf := some (fileOf pool0 8 #[] #[{ accessFlags := 1, nameIndex := 5, descriptorIndex := 6, attributes := #[] }] 33 0 #[] #[])
  fields := #[]
  methods := #[k0m0]
  instanceTypes := #[]
  staticTypes := #[]
  resolved := Array.replicate 124 none
  statics := none }

def pool1 : Array CpInfo := pool [(2, .class_ 4), (1, u "java/lang/Object"), (0, u "<init>"), (0, u "()V"), (0, .methodref 8 9), (0, .class_ 10), (0, .nameAndType 11 12), (0, u "com/example/iron_log/ironlog/index/HeaderEqualsPinLaw"), (0, u "pickInt"), (0, u "(IIII)I"), (0, .methodref 8 14), (0, .nameAndType 15 16), (0, u "pickLong"), (0, u "(IIJJJ)J"), (0, .class_ 18), (0, u "com/example/iron_log/ironlog/index/IndexFile$Header"), (0, .methodref 17 20), (0, .nameAndType 5 21), (0, u "(IIJJJJ)V"), (0, .methodref 17 23), (0, .nameAndType 24 25), (0, u "equals"), (0, u "(Ljava/lang/Object;)Z"), (0, .methodref 27 28), (0, .class_ 29), (0, .nameAndType 30 31), (0, u "java/lang/Integer"), (0, u "valueOf"), (0, u "(I)Ljava/lang/Integer;"), (3, u "law"), (0, u "(IIJJJI)Z")] 6

def k1m0 : Method := { name := "<init>", desc := "()V", sig := { parameters := [], returnType := none }, accessFlags := 1, code := none }
def k1c1 : Code := { maxStack := 2, maxLocals := 4, code := method_2_code, exceptionTable := #[], attributes := #[] }
def k1m1 : Method := { name := "pickInt", desc := "(IIII)I", sig := { parameters := [.int, .int, .int, .int], returnType := some .int }, accessFlags := 10, code := some k1c1 }
def k1c2 : Code := { maxStack := 2, maxLocals := 9, code := method_3_code, exceptionTable := #[], attributes := #[] }
def k1m2 : Method := { name := "pickLong", desc := "(IIJJJ)J", sig := { parameters := [.int, .int, .long, .long, .long], returnType := some .long }, accessFlags := 10, code := some k1c2 }
def k1c3 : Code := { maxStack := 12, maxLocals := 35, code := code, exceptionTable := #[], attributes := #[] }
def k1m3 : Method := { name := "law", desc := "(IIJJJI)Z", sig := { parameters := [.int, .int, .long, .long, .long, .int], returnType := some .boolean }, accessFlags := 9, code := some k1c3 }
/-- com/example/iron_log/ironlog/index/HeaderEqualsPinLaw -/
def k1 : Class := { plain "com/example/iron_log/ironlog/index/HeaderEqualsPinLaw" (some 0) with
  accessFlags := 49
  interfaces := #[]
  cf := some (fileOf pool1 8 #[] #[{ accessFlags := 1, nameIndex := 5, descriptorIndex := 6, attributes := #[] }, { accessFlags := 10, nameIndex := 11, descriptorIndex := 12, attributes := #[] }, { accessFlags := 10, nameIndex := 15, descriptorIndex := 16, attributes := #[] }, { accessFlags := 9, nameIndex := 35, descriptorIndex := 36, attributes := #[] }] 49 2 #[] #[])
  fields := #[]
  methods := #[k1m0, k1m1, k1m2, k1m3]
  instanceTypes := #[]
  staticTypes := #[]
  resolved := Array.replicate 43 none
  statics := none }

def pool2 : Array CpInfo := pool [(1, .class_ 2), (0, u "com/example/iron_log/ironlog/index/IndexFile"), (0, .methodref 4 5), (0, .class_ 6), (0, .nameAndType 7 8), (0, u "java/lang/Object"), (0, u "<init>"), (0, u "()V"), (0, .fieldref 10 11), (0, .class_ 12), (0, .nameAndType 13 14), (0, u "com/example/iron_log/ironlog/index/IndexFile$Header"), (0, u "slotCount"), (0, u "I"), (0, .fieldref 10 16), (0, .nameAndType 17 14), (0, u "count"), (0, .fieldref 10 19), (0, .nameAndType 20 21), (0, u "beginTime"), (0, u "J"), (0, .fieldref 10 23), (0, .nameAndType 24 21), (0, u "endTime"), (0, .fieldref 10 26), (0, .nameAndType 27 21), (0, u "beginOffset"), (0, .fieldref 10 29), (0, .nameAndType 30 21), (0, u "endOffset"), (14, u "(IIJJJJ)V"), (17, u "ZEROS"), (0, u "Lcom/example/iron_log/ironlog/index/IndexFile$Header;"), (4, u "equals"), (0, u "(Ljava/lang/Object;)Z")] 9

def k2c0 : Code := { maxStack := 3, maxLocals := 11, code := prog_48_method_1_code, exceptionTable := #[], attributes := #[] }
def k2m0 : Method := { name := "<init>", desc := "(IIJJJJ)V", sig := { parameters := [.int, .int, .long, .long, .long, .long], returnType := none }, accessFlags := 0, code := some k2c0 }
def k2c1 : Code := { maxStack := 4, maxLocals := 4, code := prog_48_method_3_code, exceptionTable := #[], attributes := #[] }
def k2m1 : Method := { name := "equals", desc := "(Ljava/lang/Object;)Z", sig := { parameters := [(.object "java/lang/Object")], returnType := some .boolean }, accessFlags := 1, code := some k2c1 }
/-- com/example/iron_log/ironlog/index/IndexFile$Header -/
def k2 : Class := { plain "com/example/iron_log/ironlog/index/IndexFile$Header" (some 0) with
  accessFlags := 32
  interfaces := #[]
  cf := some (fileOf pool2 10 #[.nestHost 1] #[{ accessFlags := 0, nameIndex := 7, descriptorIndex := 45, attributes := #[] }, { accessFlags := 1, nameIndex := 69, descriptorIndex := 70, attributes := #[] }] 32 4 #[] #[{ accessFlags := 24, nameIndex := 63, descriptorIndex := 64, attributes := #[] }, { accessFlags := 18, nameIndex := 13, descriptorIndex := 14, attributes := #[] }, { accessFlags := 18, nameIndex := 17, descriptorIndex := 14, attributes := #[] }, { accessFlags := 18, nameIndex := 20, descriptorIndex := 21, attributes := #[] }, { accessFlags := 18, nameIndex := 24, descriptorIndex := 21, attributes := #[] }, { accessFlags := 18, nameIndex := 27, descriptorIndex := 21, attributes := #[] }, { accessFlags := 18, nameIndex := 30, descriptorIndex := 21, attributes := #[] }])
  fields := #[{ name := "ZEROS", type := (.object "com/example/iron_log/ironlog/index/IndexFile$Header"), accessFlags := 24, slot := 0, constantValue := 0 }, { name := "slotCount", type := .int, accessFlags := 18, slot := 0, constantValue := 0 }, { name := "count", type := .int, accessFlags := 18, slot := 1, constantValue := 0 }, { name := "beginTime", type := .long, accessFlags := 18, slot := 2, constantValue := 0 }, { name := "endTime", type := .long, accessFlags := 18, slot := 3, constantValue := 0 }, { name := "beginOffset", type := .long, accessFlags := 18, slot := 4, constantValue := 0 }, { name := "endOffset", type := .long, accessFlags := 18, slot := 5, constantValue := 0 }]
  methods := #[k2m0, k2m1]
  instanceTypes := #[.int, .int, .long, .long, .long, .long]
  staticTypes := #[(.object "com/example/iron_log/ironlog/index/IndexFile$Header")]
  resolved := Array.replicate 80 none
  statics := none }

def pool3 : Array CpInfo := pool [(1, .class_ 2), (0, u "java/io/Serializable"), (0, .class_ 4), (0, u "java/lang/Object")] 2

/-- java/io/Serializable -/
def k3 : Class := { plain "java/io/Serializable" (some 0) with
  accessFlags := 1537
  interfaces := #[]
  cf := some (fileOf pool3 1 #[] #[] 1537 3 #[] #[])
  fields := #[]
  methods := #[]
  instanceTypes := #[]
  staticTypes := #[]
  resolved := Array.replicate 7 none
  statics := none }

def pool4 : Array CpInfo := pool [(1, .methodref 2 3), (0, .class_ 4), (0, .nameAndType 5 6), (0, u "java/lang/Object"), (0, u "<init>"), (0, u "()V"), (1, .class_ 10), (1, u "java/lang/Number"), (2, .class_ 14), (0, u "java/io/Serializable"), (0, u "serialVersionUID"), (0, u "J")] 20

def k4c0 : Code := { maxStack := 1, maxLocals := 1, code := jdk_18_method_1_code, exceptionTable := #[], attributes := #[] }
def k4m0 : Method := { name := "<init>", desc := "()V", sig := { parameters := [], returnType := none }, accessFlags := 1, code := some k4c0 }
/-- java/lang/Number -/
def k4 : Class := { plain "java/lang/Number" (some 0) with
  accessFlags := 1057
  interfaces := #[3]
  cf := some (fileOf pool4 8 #[] #[{ accessFlags := 1, nameIndex := 5, descriptorIndex := 6, attributes := #[] }] 1057 2 #[13] #[{ accessFlags := 26, nameIndex := 15, descriptorIndex := 16, attributes := #[] }])
  fields := #[{ name := "serialVersionUID", type := .long, accessFlags := 26, slot := 0, constantValue := 0 }]
  methods := #[k4m0]
  instanceTypes := #[]
  staticTypes := #[.long]
  resolved := Array.replicate 37 none
  statics := none }

def pool5 : Array CpInfo := pool [(1, .class_ 2), (0, u "java/lang/Comparable"), (0, .class_ 4), (0, u "java/lang/Object")] 7

/-- java/lang/Comparable -/
def k5 : Class := { plain "java/lang/Comparable" (some 0) with
  accessFlags := 1537
  interfaces := #[]
  cf := some (fileOf pool5 1 #[] #[] 1537 3 #[] #[])
  fields := #[]
  methods := #[]
  instanceTypes := #[]
  staticTypes := #[]
  resolved := Array.replicate 12 none
  statics := none }

def pool6 : Array CpInfo := pool [(1, .class_ 2), (0, u "java/lang/constant/Constable"), (0, .class_ 4), (0, u "java/lang/Object")] 6

/-- java/lang/constant/Constable -/
def k6 : Class := { plain "java/lang/constant/Constable" (some 0) with
  accessFlags := 1537
  interfaces := #[]
  cf := some (fileOf pool6 1 #[] #[] 1537 3 #[] #[])
  fields := #[]
  methods := #[]
  instanceTypes := #[]
  staticTypes := #[]
  resolved := Array.replicate 11 none
  statics := none }

def pool7 : Array CpInfo := pool [(1, .class_ 2), (0, u "java/lang/constant/ConstantDesc"), (0, .class_ 4), (0, u "java/lang/Object")] 32

/-- java/lang/constant/ConstantDesc -/
def k7 : Class := { plain "java/lang/constant/ConstantDesc" (some 0) with
  accessFlags := 1537
  interfaces := #[]
  cf := some (fileOf pool7 1 #[] #[] 1537 3 #[] #[])
  fields := #[]
  methods := #[]
  instanceTypes := #[]
  staticTypes := #[]
  resolved := Array.replicate 37 none
  statics := none }

def pool8 : Array CpInfo := pool [(1, .class_ 2), (0, u "java/lang/Integer"), (16, u "digits"), (0, u "[C"), (46, u "<init>"), (17, u "DigitOnes"), (0, u "[B"), (2, u "DigitTens"), (10, .nameAndType 67 101), (0, u "()V"), (85, u "valueOf"), (0, u "(I)Ljava/lang/Integer;"), (0, .class_ 190), (0, u "java/lang/Integer$IntegerCache"), (0, .fieldref 189 192), (0, .nameAndType 193 194), (0, u "high"), (0, u "I"), (0, .fieldref 189 196), (0, .nameAndType 197 198), (0, u "cache"), (0, u "[Ljava/lang/Integer;"), (0, .methodref 1 200), (0, .nameAndType 67 201), (0, u "(I)V"), (0, .methodref 203 100), (0, .class_ 204), (0, u "java/lang/Number"), (0, .fieldref 1 206), (0, .nameAndType 207 194), (0, u "value"), (94, u "TYPE"), (0, u "Ljava/lang/Class;"), (0, .class_ 305), (0, u "java/lang/Comparable"), (0, .class_ 307), (0, u "java/lang/constant/Constable"), (0, .class_ 309), (0, u "java/lang/constant/ConstantDesc"), (0, u "MIN_VALUE"), (1, u "MAX_VALUE"), (3, u "SIZE"), (1, u "BYTES"), (1, u "serialVersionUID"), (0, u "J")] 131

def k8c0 : Code := { maxStack := 3, maxLocals := 1, code := jdk_33_method_22_code, exceptionTable := #[], attributes := #[] }
def k8m0 : Method := { name := "valueOf", desc := "(I)Ljava/lang/Integer;", sig := { parameters := [.int], returnType := some (.object "java/lang/Integer") }, accessFlags := 9, code := some k8c0 }
def k8c1 : Code := { maxStack := 2, maxLocals := 2, code := jdk_33_method_23_code, exceptionTable := #[], attributes := #[] }
def k8m1 : Method := { name := "<init>", desc := "(I)V", sig := { parameters := [.int], returnType := none }, accessFlags := 1, code := some k8c1 }
/-- java/lang/Integer -/
def k8 : Class := { plain "java/lang/Integer" (some 4) with
  accessFlags := 49
  interfaces := #[5, 6, 7]
  cf := some (fileOf pool8 1 #[.nestMembers #[189]] #[{ accessFlags := 9, nameIndex := 187, descriptorIndex := 188, attributes := #[] }, { accessFlags := 1, nameIndex := 67, descriptorIndex := 201, attributes := #[] }] 49 203 #[304, 306, 308] #[{ accessFlags := 25, nameIndex := 310, descriptorIndex := 194, attributes := #[] }, { accessFlags := 25, nameIndex := 312, descriptorIndex := 194, attributes := #[] }, { accessFlags := 25, nameIndex := 302, descriptorIndex := 303, attributes := #[] }, { accessFlags := 24, nameIndex := 19, descriptorIndex := 20, attributes := #[] }, { accessFlags := 24, nameIndex := 89, descriptorIndex := 86, attributes := #[] }, { accessFlags := 24, nameIndex := 85, descriptorIndex := 86, attributes := #[] }, { accessFlags := 18, nameIndex := 207, descriptorIndex := 194, attributes := #[] }, { accessFlags := 25, nameIndex := 316, descriptorIndex := 194, attributes := #[] }, { accessFlags := 25, nameIndex := 318, descriptorIndex := 194, attributes := #[] }, { accessFlags := 26, nameIndex := 320, descriptorIndex := 321, attributes := #[] }])
  fields := #[{ name := "MIN_VALUE", type := .int, accessFlags := 25, slot := 0, constantValue := 0 }, { name := "MAX_VALUE", type := .int, accessFlags := 25, slot := 1, constantValue := 0 }, { name := "TYPE", type := (.object "java/lang/Class"), accessFlags := 25, slot := 2, constantValue := 0 }, { name := "digits", type := (.array .char), accessFlags := 24, slot := 3, constantValue := 0 }, { name := "DigitTens", type := (.array .byte), accessFlags := 24, slot := 4, constantValue := 0 }, { name := "DigitOnes", type := (.array .byte), accessFlags := 24, slot := 5, constantValue := 0 }, { name := "value", type := .int, accessFlags := 18, slot := 0, constantValue := 0 }, { name := "SIZE", type := .int, accessFlags := 25, slot := 6, constantValue := 0 }, { name := "BYTES", type := .int, accessFlags := 25, slot := 7, constantValue := 0 }, { name := "serialVersionUID", type := .long, accessFlags := 26, slot := 8, constantValue := 0 }]
  methods := #[k8m0, k8m1]
  instanceTypes := #[.int]
  staticTypes := #[.int, .int, (.object "java/lang/Class"), (.array .char), (.array .byte), (.array .byte), .int, .int, .long]
  resolved := Array.replicate 453 none
  statics := none }

def pool9 : Array CpInfo := pool [(2, .class_ 4), (1, u "java/lang/Object"), (0, u "<init>"), (0, u "()V"), (0, .class_ 8), (0, u "java/lang/Integer"), (7, .class_ 18), (1, u "java/lang/Integer$IntegerCache"), (0, u "$assertionsDisabled"), (0, u "Z"), (26, u "high"), (0, u "I"), (8, u "archivedCache"), (0, u "[Ljava/lang/Integer;"), (12, u "cache"), (0, u "low")] 27

def k9m0 : Method := { name := "<init>", desc := "()V", sig := { parameters := [], returnType := none }, accessFlags := 2, code := none }
/-- java/lang/Integer$IntegerCache -/
def k9 : Class := { plain "java/lang/Integer$IntegerCache" (some 0) with
  accessFlags := 48
  interfaces := #[]
  cf := some (fileOf pool9 16 #[.nestHost 7] #[{ accessFlags := 2, nameIndex := 5, descriptorIndex := 6, attributes := #[] }] 48 2 #[] #[{ accessFlags := 24, nameIndex := 72, descriptorIndex := 48, attributes := #[] }, { accessFlags := 24, nameIndex := 47, descriptorIndex := 48, attributes := #[] }, { accessFlags := 24, nameIndex := 71, descriptorIndex := 58, attributes := #[] }, { accessFlags := 8, nameIndex := 57, descriptorIndex := 58, attributes := #[] }, { accessFlags := 4120, nameIndex := 19, descriptorIndex := 20, attributes := #[] }])
  fields := #[{ name := "low", type := .int, accessFlags := 24, slot := 0, constantValue := 0 }, { name := "high", type := .int, accessFlags := 24, slot := 1, constantValue := 0 }, { name := "cache", type := (.array (.object "java/lang/Integer")), accessFlags := 24, slot := 2, constantValue := 0 }, { name := "archivedCache", type := (.array (.object "java/lang/Integer")), accessFlags := 8, slot := 3, constantValue := 0 }, { name := "$assertionsDisabled", type := .boolean, accessFlags := 4120, slot := 4, constantValue := 0 }]
  methods := #[k9m0]
  instanceTypes := #[]
  staticTypes := #[.int, .int, (.array (.object "java/lang/Integer")), (.array (.object "java/lang/Integer")), .boolean]
  resolved := Array.replicate 100 none
  statics := some 0 }

def pool10 : Array CpInfo := pool [(1, u "java/lang/Cloneable"), (0, .class_ 1), (0, u "java/lang/Object"), (0, .class_ 3)] 3

/-- java/lang/Cloneable -/
def k10 : Class := { plain "java/lang/Cloneable" (some 0) with
  accessFlags := 1537
  interfaces := #[]
  cf := some (fileOf pool10 2 #[] #[] 1537 4 #[] #[])
  fields := #[]
  methods := #[]
  instanceTypes := #[]
  staticTypes := #[]
  resolved := Array.replicate 8 none
  statics := none }

/-- the primitive byte -/
def k11 : Class := { plain "byte" none with kind := .primitive 'B', accessFlags := 0x411 }
/-- [B -/
def k12 : Class := { plain "[B" (some 0) with kind := .array 11 .byte, interfaces := #[10, 3], accessFlags := 1041 }

/-- the primitive int -/
def k13 : Class := { plain "int" none with kind := .primitive 'I', accessFlags := 0x411 }
/-- [I -/
def k14 : Class := { plain "[I" (some 0) with kind := .array 13 .int, interfaces := #[10, 3], accessFlags := 1041 }

/-- [Ljava/lang/Integer; -/
def k15 : Class := { plain "[Ljava/lang/Integer;" (some 0) with kind := .array 8 (.object "java/lang/Integer"), interfaces := #[10, 3], accessFlags := 1041 }

def heap : Heap := #[{ cls := 9, slots := #[.int 0, .int 127, .ref 1, .null, .int 0], vm := .statics 9 },
  { cls := 15, slots := #[.ref 2, .ref 3, .ref 4, .ref 5, .ref 6, .ref 7, .ref 8, .ref 9, .ref 10, .ref 11, .ref 12, .ref 13, .ref 14, .ref 15, .ref 16, .ref 17, .ref 18, .ref 19, .ref 20, .ref 21, .ref 22, .ref 23, .ref 24, .ref 25, .ref 26, .ref 27, .ref 28, .ref 29, .ref 30, .ref 31, .ref 32, .ref 33, .ref 34, .ref 35, .ref 36, .ref 37, .ref 38, .ref 39, .ref 40, .ref 41, .ref 42, .ref 43, .ref 44, .ref 45, .ref 46, .ref 47, .ref 48, .ref 49, .ref 50, .ref 51, .ref 52, .ref 53, .ref 54, .ref 55, .ref 56, .ref 57, .ref 58, .ref 59, .ref 60, .ref 61, .ref 62, .ref 63, .ref 64, .ref 65, .ref 66, .ref 67, .ref 68, .ref 69, .ref 70, .ref 71, .ref 72, .ref 73, .ref 74, .ref 75, .ref 76, .ref 77, .ref 78, .ref 79, .ref 80, .ref 81, .ref 82, .ref 83, .ref 84, .ref 85, .ref 86, .ref 87, .ref 88, .ref 89, .ref 90, .ref 91, .ref 92, .ref 93, .ref 94, .ref 95, .ref 96, .ref 97, .ref 98, .ref 99, .ref 100, .ref 101, .ref 102, .ref 103, .ref 104, .ref 105, .ref 106, .ref 107, .ref 108, .ref 109, .ref 110, .ref 111, .ref 112, .ref 113, .ref 114, .ref 115, .ref 116, .ref 117, .ref 118, .ref 119, .ref 120, .ref 121, .ref 122, .ref 123, .ref 124, .ref 125, .ref 126, .ref 127, .ref 128, .ref 129, .ref 130, .ref 131, .ref 132, .ref 133, .ref 134, .ref 135, .ref 136, .ref 137, .ref 138, .ref 139, .ref 140, .ref 141, .ref 142, .ref 143, .ref 144, .ref 145, .ref 146, .ref 147, .ref 148, .ref 149, .ref 150, .ref 151, .ref 152, .ref 153, .ref 154, .ref 155, .ref 156, .ref 157, .ref 158, .ref 159, .ref 160, .ref 161, .ref 162, .ref 163, .ref 164, .ref 165, .ref 166, .ref 167, .ref 168, .ref 169, .ref 170, .ref 171, .ref 172, .ref 173, .ref 174, .ref 175, .ref 176, .ref 177, .ref 178, .ref 179, .ref 180, .ref 181, .ref 182, .ref 183, .ref 184, .ref 185, .ref 186, .ref 187, .ref 188, .ref 189, .ref 190, .ref 191, .ref 192, .ref 193, .ref 194, .ref 195, .ref 196, .ref 197, .ref 198, .ref 199, .ref 200, .ref 201, .ref 202, .ref 203, .ref 204, .ref 205, .ref 206, .ref 207, .ref 208, .ref 209, .ref 210, .ref 211, .ref 212, .ref 213, .ref 214, .ref 215, .ref 216, .ref 217, .ref 218, .ref 219, .ref 220, .ref 221, .ref 222, .ref 223, .ref 224, .ref 225, .ref 226, .ref 227, .ref 228, .ref 229, .ref 230, .ref 231, .ref 232, .ref 233, .ref 234, .ref 235, .ref 236, .ref 237, .ref 238, .ref 239, .ref 240, .ref 241, .ref 242, .ref 243, .ref 244, .ref 245, .ref 246, .ref 247, .ref 248, .ref 249, .ref 250, .ref 251, .ref 252, .ref 253, .ref 254, .ref 255, .ref 256, .ref 257], vm := .none },
  { cls := 8, slots := #[.int (-128)], vm := .none },
  { cls := 8, slots := #[.int (-127)], vm := .none },
  { cls := 8, slots := #[.int (-126)], vm := .none },
  { cls := 8, slots := #[.int (-125)], vm := .none },
  { cls := 8, slots := #[.int (-124)], vm := .none },
  { cls := 8, slots := #[.int (-123)], vm := .none },
  { cls := 8, slots := #[.int (-122)], vm := .none },
  { cls := 8, slots := #[.int (-121)], vm := .none },
  { cls := 8, slots := #[.int (-120)], vm := .none },
  { cls := 8, slots := #[.int (-119)], vm := .none },
  { cls := 8, slots := #[.int (-118)], vm := .none },
  { cls := 8, slots := #[.int (-117)], vm := .none },
  { cls := 8, slots := #[.int (-116)], vm := .none },
  { cls := 8, slots := #[.int (-115)], vm := .none },
  { cls := 8, slots := #[.int (-114)], vm := .none },
  { cls := 8, slots := #[.int (-113)], vm := .none },
  { cls := 8, slots := #[.int (-112)], vm := .none },
  { cls := 8, slots := #[.int (-111)], vm := .none },
  { cls := 8, slots := #[.int (-110)], vm := .none },
  { cls := 8, slots := #[.int (-109)], vm := .none },
  { cls := 8, slots := #[.int (-108)], vm := .none },
  { cls := 8, slots := #[.int (-107)], vm := .none },
  { cls := 8, slots := #[.int (-106)], vm := .none },
  { cls := 8, slots := #[.int (-105)], vm := .none },
  { cls := 8, slots := #[.int (-104)], vm := .none },
  { cls := 8, slots := #[.int (-103)], vm := .none },
  { cls := 8, slots := #[.int (-102)], vm := .none },
  { cls := 8, slots := #[.int (-101)], vm := .none },
  { cls := 8, slots := #[.int (-100)], vm := .none },
  { cls := 8, slots := #[.int (-99)], vm := .none },
  { cls := 8, slots := #[.int (-98)], vm := .none },
  { cls := 8, slots := #[.int (-97)], vm := .none },
  { cls := 8, slots := #[.int (-96)], vm := .none },
  { cls := 8, slots := #[.int (-95)], vm := .none },
  { cls := 8, slots := #[.int (-94)], vm := .none },
  { cls := 8, slots := #[.int (-93)], vm := .none },
  { cls := 8, slots := #[.int (-92)], vm := .none },
  { cls := 8, slots := #[.int (-91)], vm := .none },
  { cls := 8, slots := #[.int (-90)], vm := .none },
  { cls := 8, slots := #[.int (-89)], vm := .none },
  { cls := 8, slots := #[.int (-88)], vm := .none },
  { cls := 8, slots := #[.int (-87)], vm := .none },
  { cls := 8, slots := #[.int (-86)], vm := .none },
  { cls := 8, slots := #[.int (-85)], vm := .none },
  { cls := 8, slots := #[.int (-84)], vm := .none },
  { cls := 8, slots := #[.int (-83)], vm := .none },
  { cls := 8, slots := #[.int (-82)], vm := .none },
  { cls := 8, slots := #[.int (-81)], vm := .none },
  { cls := 8, slots := #[.int (-80)], vm := .none },
  { cls := 8, slots := #[.int (-79)], vm := .none },
  { cls := 8, slots := #[.int (-78)], vm := .none },
  { cls := 8, slots := #[.int (-77)], vm := .none },
  { cls := 8, slots := #[.int (-76)], vm := .none },
  { cls := 8, slots := #[.int (-75)], vm := .none },
  { cls := 8, slots := #[.int (-74)], vm := .none },
  { cls := 8, slots := #[.int (-73)], vm := .none },
  { cls := 8, slots := #[.int (-72)], vm := .none },
  { cls := 8, slots := #[.int (-71)], vm := .none },
  { cls := 8, slots := #[.int (-70)], vm := .none },
  { cls := 8, slots := #[.int (-69)], vm := .none },
  { cls := 8, slots := #[.int (-68)], vm := .none },
  { cls := 8, slots := #[.int (-67)], vm := .none },
  { cls := 8, slots := #[.int (-66)], vm := .none },
  { cls := 8, slots := #[.int (-65)], vm := .none },
  { cls := 8, slots := #[.int (-64)], vm := .none },
  { cls := 8, slots := #[.int (-63)], vm := .none },
  { cls := 8, slots := #[.int (-62)], vm := .none },
  { cls := 8, slots := #[.int (-61)], vm := .none },
  { cls := 8, slots := #[.int (-60)], vm := .none },
  { cls := 8, slots := #[.int (-59)], vm := .none },
  { cls := 8, slots := #[.int (-58)], vm := .none },
  { cls := 8, slots := #[.int (-57)], vm := .none },
  { cls := 8, slots := #[.int (-56)], vm := .none },
  { cls := 8, slots := #[.int (-55)], vm := .none },
  { cls := 8, slots := #[.int (-54)], vm := .none },
  { cls := 8, slots := #[.int (-53)], vm := .none },
  { cls := 8, slots := #[.int (-52)], vm := .none },
  { cls := 8, slots := #[.int (-51)], vm := .none },
  { cls := 8, slots := #[.int (-50)], vm := .none },
  { cls := 8, slots := #[.int (-49)], vm := .none },
  { cls := 8, slots := #[.int (-48)], vm := .none },
  { cls := 8, slots := #[.int (-47)], vm := .none },
  { cls := 8, slots := #[.int (-46)], vm := .none },
  { cls := 8, slots := #[.int (-45)], vm := .none },
  { cls := 8, slots := #[.int (-44)], vm := .none },
  { cls := 8, slots := #[.int (-43)], vm := .none },
  { cls := 8, slots := #[.int (-42)], vm := .none },
  { cls := 8, slots := #[.int (-41)], vm := .none },
  { cls := 8, slots := #[.int (-40)], vm := .none },
  { cls := 8, slots := #[.int (-39)], vm := .none },
  { cls := 8, slots := #[.int (-38)], vm := .none },
  { cls := 8, slots := #[.int (-37)], vm := .none },
  { cls := 8, slots := #[.int (-36)], vm := .none },
  { cls := 8, slots := #[.int (-35)], vm := .none },
  { cls := 8, slots := #[.int (-34)], vm := .none },
  { cls := 8, slots := #[.int (-33)], vm := .none },
  { cls := 8, slots := #[.int (-32)], vm := .none },
  { cls := 8, slots := #[.int (-31)], vm := .none },
  { cls := 8, slots := #[.int (-30)], vm := .none },
  { cls := 8, slots := #[.int (-29)], vm := .none },
  { cls := 8, slots := #[.int (-28)], vm := .none },
  { cls := 8, slots := #[.int (-27)], vm := .none },
  { cls := 8, slots := #[.int (-26)], vm := .none },
  { cls := 8, slots := #[.int (-25)], vm := .none },
  { cls := 8, slots := #[.int (-24)], vm := .none },
  { cls := 8, slots := #[.int (-23)], vm := .none },
  { cls := 8, slots := #[.int (-22)], vm := .none },
  { cls := 8, slots := #[.int (-21)], vm := .none },
  { cls := 8, slots := #[.int (-20)], vm := .none },
  { cls := 8, slots := #[.int (-19)], vm := .none },
  { cls := 8, slots := #[.int (-18)], vm := .none },
  { cls := 8, slots := #[.int (-17)], vm := .none },
  { cls := 8, slots := #[.int (-16)], vm := .none },
  { cls := 8, slots := #[.int (-15)], vm := .none },
  { cls := 8, slots := #[.int (-14)], vm := .none },
  { cls := 8, slots := #[.int (-13)], vm := .none },
  { cls := 8, slots := #[.int (-12)], vm := .none },
  { cls := 8, slots := #[.int (-11)], vm := .none },
  { cls := 8, slots := #[.int (-10)], vm := .none },
  { cls := 8, slots := #[.int (-9)], vm := .none },
  { cls := 8, slots := #[.int (-8)], vm := .none },
  { cls := 8, slots := #[.int (-7)], vm := .none },
  { cls := 8, slots := #[.int (-6)], vm := .none },
  { cls := 8, slots := #[.int (-5)], vm := .none },
  { cls := 8, slots := #[.int (-4)], vm := .none },
  { cls := 8, slots := #[.int (-3)], vm := .none },
  { cls := 8, slots := #[.int (-2)], vm := .none },
  { cls := 8, slots := #[.int (-1)], vm := .none },
  { cls := 8, slots := #[.int 0], vm := .none },
  { cls := 8, slots := #[.int 1], vm := .none },
  { cls := 8, slots := #[.int 2], vm := .none },
  { cls := 8, slots := #[.int 3], vm := .none },
  { cls := 8, slots := #[.int 4], vm := .none },
  { cls := 8, slots := #[.int 5], vm := .none },
  { cls := 8, slots := #[.int 6], vm := .none },
  { cls := 8, slots := #[.int 7], vm := .none },
  { cls := 8, slots := #[.int 8], vm := .none },
  { cls := 8, slots := #[.int 9], vm := .none },
  { cls := 8, slots := #[.int 10], vm := .none },
  { cls := 8, slots := #[.int 11], vm := .none },
  { cls := 8, slots := #[.int 12], vm := .none },
  { cls := 8, slots := #[.int 13], vm := .none },
  { cls := 8, slots := #[.int 14], vm := .none },
  { cls := 8, slots := #[.int 15], vm := .none },
  { cls := 8, slots := #[.int 16], vm := .none },
  { cls := 8, slots := #[.int 17], vm := .none },
  { cls := 8, slots := #[.int 18], vm := .none },
  { cls := 8, slots := #[.int 19], vm := .none },
  { cls := 8, slots := #[.int 20], vm := .none },
  { cls := 8, slots := #[.int 21], vm := .none },
  { cls := 8, slots := #[.int 22], vm := .none },
  { cls := 8, slots := #[.int 23], vm := .none },
  { cls := 8, slots := #[.int 24], vm := .none },
  { cls := 8, slots := #[.int 25], vm := .none },
  { cls := 8, slots := #[.int 26], vm := .none },
  { cls := 8, slots := #[.int 27], vm := .none },
  { cls := 8, slots := #[.int 28], vm := .none },
  { cls := 8, slots := #[.int 29], vm := .none },
  { cls := 8, slots := #[.int 30], vm := .none },
  { cls := 8, slots := #[.int 31], vm := .none },
  { cls := 8, slots := #[.int 32], vm := .none },
  { cls := 8, slots := #[.int 33], vm := .none },
  { cls := 8, slots := #[.int 34], vm := .none },
  { cls := 8, slots := #[.int 35], vm := .none },
  { cls := 8, slots := #[.int 36], vm := .none },
  { cls := 8, slots := #[.int 37], vm := .none },
  { cls := 8, slots := #[.int 38], vm := .none },
  { cls := 8, slots := #[.int 39], vm := .none },
  { cls := 8, slots := #[.int 40], vm := .none },
  { cls := 8, slots := #[.int 41], vm := .none },
  { cls := 8, slots := #[.int 42], vm := .none },
  { cls := 8, slots := #[.int 43], vm := .none },
  { cls := 8, slots := #[.int 44], vm := .none },
  { cls := 8, slots := #[.int 45], vm := .none },
  { cls := 8, slots := #[.int 46], vm := .none },
  { cls := 8, slots := #[.int 47], vm := .none },
  { cls := 8, slots := #[.int 48], vm := .none },
  { cls := 8, slots := #[.int 49], vm := .none },
  { cls := 8, slots := #[.int 50], vm := .none },
  { cls := 8, slots := #[.int 51], vm := .none },
  { cls := 8, slots := #[.int 52], vm := .none },
  { cls := 8, slots := #[.int 53], vm := .none },
  { cls := 8, slots := #[.int 54], vm := .none },
  { cls := 8, slots := #[.int 55], vm := .none },
  { cls := 8, slots := #[.int 56], vm := .none },
  { cls := 8, slots := #[.int 57], vm := .none },
  { cls := 8, slots := #[.int 58], vm := .none },
  { cls := 8, slots := #[.int 59], vm := .none },
  { cls := 8, slots := #[.int 60], vm := .none },
  { cls := 8, slots := #[.int 61], vm := .none },
  { cls := 8, slots := #[.int 62], vm := .none },
  { cls := 8, slots := #[.int 63], vm := .none },
  { cls := 8, slots := #[.int 64], vm := .none },
  { cls := 8, slots := #[.int 65], vm := .none },
  { cls := 8, slots := #[.int 66], vm := .none },
  { cls := 8, slots := #[.int 67], vm := .none },
  { cls := 8, slots := #[.int 68], vm := .none },
  { cls := 8, slots := #[.int 69], vm := .none },
  { cls := 8, slots := #[.int 70], vm := .none },
  { cls := 8, slots := #[.int 71], vm := .none },
  { cls := 8, slots := #[.int 72], vm := .none },
  { cls := 8, slots := #[.int 73], vm := .none },
  { cls := 8, slots := #[.int 74], vm := .none },
  { cls := 8, slots := #[.int 75], vm := .none },
  { cls := 8, slots := #[.int 76], vm := .none },
  { cls := 8, slots := #[.int 77], vm := .none },
  { cls := 8, slots := #[.int 78], vm := .none },
  { cls := 8, slots := #[.int 79], vm := .none },
  { cls := 8, slots := #[.int 80], vm := .none },
  { cls := 8, slots := #[.int 81], vm := .none },
  { cls := 8, slots := #[.int 82], vm := .none },
  { cls := 8, slots := #[.int 83], vm := .none },
  { cls := 8, slots := #[.int 84], vm := .none },
  { cls := 8, slots := #[.int 85], vm := .none },
  { cls := 8, slots := #[.int 86], vm := .none },
  { cls := 8, slots := #[.int 87], vm := .none },
  { cls := 8, slots := #[.int 88], vm := .none },
  { cls := 8, slots := #[.int 89], vm := .none },
  { cls := 8, slots := #[.int 90], vm := .none },
  { cls := 8, slots := #[.int 91], vm := .none },
  { cls := 8, slots := #[.int 92], vm := .none },
  { cls := 8, slots := #[.int 93], vm := .none },
  { cls := 8, slots := #[.int 94], vm := .none },
  { cls := 8, slots := #[.int 95], vm := .none },
  { cls := 8, slots := #[.int 96], vm := .none },
  { cls := 8, slots := #[.int 97], vm := .none },
  { cls := 8, slots := #[.int 98], vm := .none },
  { cls := 8, slots := #[.int 99], vm := .none },
  { cls := 8, slots := #[.int 100], vm := .none },
  { cls := 8, slots := #[.int 101], vm := .none },
  { cls := 8, slots := #[.int 102], vm := .none },
  { cls := 8, slots := #[.int 103], vm := .none },
  { cls := 8, slots := #[.int 104], vm := .none },
  { cls := 8, slots := #[.int 105], vm := .none },
  { cls := 8, slots := #[.int 106], vm := .none },
  { cls := 8, slots := #[.int 107], vm := .none },
  { cls := 8, slots := #[.int 108], vm := .none },
  { cls := 8, slots := #[.int 109], vm := .none },
  { cls := 8, slots := #[.int 110], vm := .none },
  { cls := 8, slots := #[.int 111], vm := .none },
  { cls := 8, slots := #[.int 112], vm := .none },
  { cls := 8, slots := #[.int 113], vm := .none },
  { cls := 8, slots := #[.int 114], vm := .none },
  { cls := 8, slots := #[.int 115], vm := .none },
  { cls := 8, slots := #[.int 116], vm := .none },
  { cls := 8, slots := #[.int 117], vm := .none },
  { cls := 8, slots := #[.int 118], vm := .none },
  { cls := 8, slots := #[.int 119], vm := .none },
  { cls := 8, slots := #[.int 120], vm := .none },
  { cls := 8, slots := #[.int 121], vm := .none },
  { cls := 8, slots := #[.int 122], vm := .none },
  { cls := 8, slots := #[.int 123], vm := .none },
  { cls := 8, slots := #[.int 124], vm := .none },
  { cls := 8, slots := #[.int 125], vm := .none },
  { cls := 8, slots := #[.int 126], vm := .none },
  { cls := 8, slots := #[.int 127], vm := .none }]
def classes : Array Class := #[k0, k1, k2, k3, k4, k5, k6, k7, k8, k9, k10, k11, k12, k13, k14, k15]
def interned : List (Array UInt16 × Addr) := []
def slotsUsed : Nat := 517
def theMethod : MethodId := ⟨1, 3⟩
def args0 : Array Value := #[.int 5, .int 7, .long 9, .long 1, .long 2, .int 0]
def aboutOver (below : List Frame) : State where
  vm := { classes := classes, interned := interned.toArray }
  heap := heap
  slotsUsed := slotsUsed
  threads := #[{ frames := .invoking theMethod args0 :: below }]
def below0 : List Frame := [.native { method := ⟨0, 0⟩, args := #[] }]
def about1 : State := aboutOver below0
def p0 : Program := .bare "" "" ""
def e0 : Env := launch0.env 0 0 0
theorem w_frames : about1.frames = Frame.invoking theMethod args0 :: below0 := rfl
set_option maxRecDepth 65536 in
theorem w_args : argsFit about1.vm theMethod args0 = true := by decide +kernel
set_option maxRecDepth 65536 in
theorem w_heap : heapFits about1 = true := by decide +kernel
set_option maxRecDepth 65536 in
theorem w_runnable : about1.curStatus? = some .runnable := by decide +kernel
set_option maxRecDepth 65536 in
theorem w_alone : about1.alone = true := by decide +kernel
set_option maxRecDepth 65536 in
theorem w_named : about1.methodNamed? x = some theMethod := by decide +kernel
set_option maxRecDepth 65536 in
theorem w_hears : about1.hears theMethod below0 = true := by decide +kernel
set_option maxRecDepth 65536 in
theorem w_ripe : about1.ripe theMethod args0 below0 = true := by decide +kernel
theorem w_running : about1.status = .running := rfl
set_option maxRecDepth 65536 in
theorem w_room : about1.hasRoom e0.platform room_1 = true :=
  launch0.hasRoom_least _ room_1 (by decide +kernel) (by decide +kernel) (by decide +kernel) (by decide +kernel) (by decide +kernel) (by decide +kernel)
theorem allAtoms_all (ts : List Jvm.Cond) (a : Array Jvm.Value) (st : Jvm.State) : (allAtoms ts).before a st = ts.all (fun c => c.before a st) := by
  induction ts with
  | nil => rfl
  | cons c t ih =>
    show (Jvm.Cond.and c (allAtoms t)).before a st = _
    rw [Jvm.Cond.before_and, ih, List.all_cons]
def words1 : List Jvm.Cond := Jvm.Cond.code x code maxLocals ret :: tables_1
/-- a 'code' word, met by the world's own term for the bytes: nothing is compared byte by byte -/
theorem code_word {y : MethodName} {bytes : ByteArray} {mx : Nat} {rt : Option FieldType} {a : Array Value} {s : State} {m : MethodId} {meth : Method} {c : Code} (h1 : s.methodNamed? y = some m) (h2 : s.vm.method? m = some meth) (h3 : meth.code = some c) (h4 : c.code = bytes)
    (h5 : (c.maxLocals == mx && c.exceptionTable.isEmpty && decide (c.maxStack ≤ mostOperands) && decide (meth.sig.returnType = rt) && !meth.locks && decide (parseMethodDescriptor y.desc = some meth.sig)) = true) : (Jvm.Cond.code y bytes mx rt).before a s = true := by
  simp only [Bool.and_eq_true, beq_iff_eq, Bool.not_eq_true', decide_eq_true_eq] at h5
  obtain ⟨⟨⟨⟨⟨g1, g2⟩, g3⟩, g4⟩, g5⟩, g6⟩ := h5
  simp [Cond.before, Cond.holds, Cond.value, h1, h2, h3, h4, g1, g2, g3, g4, g5, g6]
def isCode : Jvm.Cond → Bool
  | .code _ _ _ _ => true
  | _ => false
theorem all_split {L : List Jvm.Cond} {P : Jvm.Cond → Bool} (h1 : L.all (fun c => isCode c || P c) = true) (h2 : ∀ c ∈ L.filter isCode, P c = true) : L.all P = true := by
  refine List.all_eq_true.mpr fun c hc => ?_
  have h := List.all_eq_true.mp h1 c hc
  rcases Bool.eq_false_or_eq_true (isCode c) with hi | hi
  · exact h2 c (List.mem_filter.mpr ⟨hc, hi⟩)
  · simpa [hi] using h
set_option maxRecDepth 65536 in
theorem w_c0 : (Jvm.Cond.code x code maxLocals ret).before args0 about1 = true := code_word (m := ⟨1, 3⟩) (meth := k1m3) (c := k1c3) (by decide +kernel) rfl rfl rfl (by decide +kernel)
set_option maxRecDepth 65536 in
theorem w_c1 : (Jvm.Cond.code ({ cls := "com/example/iron_log/ironlog/index/HeaderEqualsPinLaw", name := "pickInt", desc := "(IIII)I" } : Jvm.MethodName) method_2_code (4 : Nat) (Option.some Jvm.ClassFile.FieldType.int)).before args0 about1 = true := code_word (m := ⟨1, 1⟩) (meth := k1m1) (c := k1c1) (by decide +kernel) rfl rfl rfl (by decide +kernel)
set_option maxRecDepth 65536 in
theorem w_c2 : (Jvm.Cond.code ({ cls := "com/example/iron_log/ironlog/index/HeaderEqualsPinLaw", name := "pickLong", desc := "(IIJJJ)J" } : Jvm.MethodName) method_3_code (9 : Nat) (Option.some Jvm.ClassFile.FieldType.long)).before args0 about1 = true := code_word (m := ⟨1, 2⟩) (meth := k1m2) (c := k1c2) (by decide +kernel) rfl rfl rfl (by decide +kernel)
set_option maxRecDepth 65536 in
theorem w_c3 : (Jvm.Cond.code ({ cls := "com/example/iron_log/ironlog/index/IndexFile$Header", name := "<init>", desc := "(IIJJJJ)V" } : Jvm.MethodName) prog_48_method_1_code (11 : Nat) (Option.none : Option Jvm.ClassFile.FieldType)).before args0 about1 = true := code_word (m := ⟨2, 0⟩) (meth := k2m0) (c := k2c0) (by decide +kernel) rfl rfl rfl (by decide +kernel)
set_option maxRecDepth 65536 in
theorem w_c4 : (Jvm.Cond.code ({ cls := "java/lang/Object", name := "<init>", desc := "()V" } : Jvm.MethodName) object_method_1_code (1 : Nat) (Option.none : Option Jvm.ClassFile.FieldType)).before args0 about1 = true := code_word (m := ⟨0, 0⟩) (meth := k0m0) (c := k0c0) (by decide +kernel) rfl rfl rfl (by decide +kernel)
set_option maxRecDepth 65536 in
theorem w_c5 : (Jvm.Cond.code ({ cls := "com/example/iron_log/ironlog/index/IndexFile$Header", name := "equals", desc := "(Ljava/lang/Object;)Z" } : Jvm.MethodName) prog_48_method_3_code (4 : Nat) (Option.some Jvm.ClassFile.FieldType.boolean)).before args0 about1 = true := code_word (m := ⟨2, 1⟩) (meth := k2m1) (c := k2c1) (by decide +kernel) rfl rfl rfl (by decide +kernel)
set_option maxRecDepth 65536 in
theorem w_c6 : (Jvm.Cond.code ({ cls := "java/lang/Integer", name := "valueOf", desc := "(I)Ljava/lang/Integer;" } : Jvm.MethodName) jdk_33_method_22_code (1 : Nat) (Option.some (Jvm.ClassFile.FieldType.object "java/lang/Integer"))).before args0 about1 = true := code_word (m := ⟨8, 0⟩) (meth := k8m0) (c := k8c0) (by decide +kernel) rfl rfl rfl (by decide +kernel)
set_option maxRecDepth 65536 in
theorem w_c7 : (Jvm.Cond.code ({ cls := "java/lang/Integer", name := "<init>", desc := "(I)V" } : Jvm.MethodName) jdk_33_method_23_code (2 : Nat) (Option.none : Option Jvm.ClassFile.FieldType)).before args0 about1 = true := code_word (m := ⟨8, 1⟩) (meth := k8m1) (c := k8c1) (by decide +kernel) rfl rfl rfl (by decide +kernel)
set_option maxRecDepth 65536 in
theorem w_c8 : (Jvm.Cond.code ({ cls := "java/lang/Number", name := "<init>", desc := "()V" } : Jvm.MethodName) jdk_18_method_1_code (1 : Nat) (Option.none : Option Jvm.ClassFile.FieldType)).before args0 about1 = true := code_word (m := ⟨4, 0⟩) (meth := k4m0) (c := k4c0) (by decide +kernel) rfl rfl rfl (by decide +kernel)
def codes1 : List Jvm.Cond := [Jvm.Cond.code x code maxLocals ret, Jvm.Cond.code ({ cls := "com/example/iron_log/ironlog/index/HeaderEqualsPinLaw", name := "pickInt", desc := "(IIII)I" } : Jvm.MethodName) method_2_code (4 : Nat) (Option.some Jvm.ClassFile.FieldType.int), Jvm.Cond.code ({ cls := "com/example/iron_log/ironlog/index/HeaderEqualsPinLaw", name := "pickLong", desc := "(IIJJJ)J" } : Jvm.MethodName) method_3_code (9 : Nat) (Option.some Jvm.ClassFile.FieldType.long), Jvm.Cond.code ({ cls := "com/example/iron_log/ironlog/index/IndexFile$Header", name := "<init>", desc := "(IIJJJJ)V" } : Jvm.MethodName) prog_48_method_1_code (11 : Nat) (Option.none : Option Jvm.ClassFile.FieldType), Jvm.Cond.code ({ cls := "java/lang/Object", name := "<init>", desc := "()V" } : Jvm.MethodName) object_method_1_code (1 : Nat) (Option.none : Option Jvm.ClassFile.FieldType), Jvm.Cond.code ({ cls := "com/example/iron_log/ironlog/index/IndexFile$Header", name := "equals", desc := "(Ljava/lang/Object;)Z" } : Jvm.MethodName) prog_48_method_3_code (4 : Nat) (Option.some Jvm.ClassFile.FieldType.boolean), Jvm.Cond.code ({ cls := "java/lang/Integer", name := "valueOf", desc := "(I)Ljava/lang/Integer;" } : Jvm.MethodName) jdk_33_method_22_code (1 : Nat) (Option.some (Jvm.ClassFile.FieldType.object "java/lang/Integer")), Jvm.Cond.code ({ cls := "java/lang/Integer", name := "<init>", desc := "(I)V" } : Jvm.MethodName) jdk_33_method_23_code (2 : Nat) (Option.none : Option Jvm.ClassFile.FieldType), Jvm.Cond.code ({ cls := "java/lang/Number", name := "<init>", desc := "()V" } : Jvm.MethodName) jdk_18_method_1_code (1 : Nat) (Option.none : Option Jvm.ClassFile.FieldType)]
set_option maxRecDepth 65536 in
theorem codes_eq : words1.filter isCode = codes1 := rfl
theorem w_codes : ∀ c ∈ words1.filter isCode, c.before args0 about1 = true := by
  rw [codes_eq]
  intro c hc
  simp only [codes1, List.mem_cons, List.not_mem_nil, or_false] at hc
  rcases hc with rfl | rfl | rfl | rfl | rfl | rfl | rfl | rfl | rfl
  · exact w_c0
  · exact w_c1
  · exact w_c2
  · exact w_c3
  · exact w_c4
  · exact w_c5
  · exact w_c6
  · exact w_c7
  · exact w_c8
set_option maxRecDepth 65536 in
theorem w_t1 : (words1.take 24).all (fun c => isCode c || c.before args0 about1) = true := by decide +kernel
set_option maxRecDepth 65536 in
theorem w_t2 : ((words1.drop 24).take 24).all (fun c => isCode c || c.before args0 about1) = true := by decide +kernel
set_option maxRecDepth 65536 in
theorem w_t3 : ((words1.drop 24).drop 24).all (fun c => isCode c || c.before args0 about1) = true := by decide +kernel
theorem w_tables : (allAtoms (Jvm.Cond.code x code maxLocals ret :: tables_1)).before args0 about1 = true := by
  rw [allAtoms_all]
  show words1.all (fun c => c.before args0 about1) = true
  refine all_split ?_ w_codes
  rw [← List.take_append_drop 24 words1, List.all_append, w_t1, ← List.take_append_drop 24 (words1.drop 24), List.all_append, w_t2, w_t3]
  rfl
set_option maxRecDepth 65536 in
theorem w_rest : rest_1_c.before args0 about1 = true := by decide +kernel
set_option maxRecDepth 65536 in
theorem w_case : (Jvm.Cond.and given_1 narrow_1).before args0 about1 = true := by decide +kernel
theorem w_applies : (headSpec (Jvm.Cond.code x code maxLocals ret :: tables_1) room_1).applies x e0.platform about1 = true :=
  (Spec.applies_iff w_frames).mpr ⟨w_running, w_runnable, w_alone, w_named, w_hears, w_ripe, w_room, w_tables⟩
theorem atStart : AtStart classFile x code maxLocals ret World_1 tables_1 room_1 Calls_1 rest_1 Pre_1 launch0 p0 e0 about1 theMethod args0 below0 :=
  ⟨lists_1, trivial, launch0.admits_env _ _ _, launch0.least_env, fairChoices_fair.cas, fairChoices_fair.clock, w_frames, w_args, w_heap, w_applies, trivial, w_rest, w_case⟩
end start1
theorem witness_1 : WitnessClaimed_1 := ⟨start1.p0, start1.e0, start1.about1, start1.theMethod, start1.args0, start1.below0, start1.atStart⟩
end Jvm.Pilot.@@N@@
