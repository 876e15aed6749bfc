import JvmDerived
import JvmDerived.Pilot.@@N@@Statement
import JvmDerived.Pilot.@@N@@Code
set_option linter.unusedVariables false
set_option linter.unusedSimpArgs false
@@BLOCK:NumsL.lean.txt@@
namespace Jvm.Pilot.@@N@@
open Jvm Jvm.ClassFile Sem Op Lib Jvm.Free Jvm.Stand Jvm.LawKit Jvm.RoadKit Bundle Jvm.Pilot.@@N@@.Jvm.D
set_option maxRecDepth 65536
set_option maxHeartbeats 40000000
section Own
variable {p : Program} {l : Launch} {e : Env} {R : Room} {s : State} {m : MethodId} {args : Array Value} {below : List Frame} {meth : Method} {c : Code} {T : State} {locs : List Loc} {cells slots : Nat} {Q : Option Value → Heap → List Loc → Prop} {kc ks : Nat} {G : State → Outcome → State → List Loc → Nat → Nat → Prop}
/-- the run from U returns; Q says of what it returned, of the heap and of the places written; kc, ks: how much it may have made -/
def own_Ends (p : Program) (e : Env) (below : List Frame) (s : State) (G : State → Outcome → State → List Loc → Nat → Nat → Prop) (Q : Option Value → Heap → List Loc → Prop) (kc ks : Nat) (U : State) : Prop :=
  ∃ s₂ o, Steps p.tables e below U s₂ ∧ s₂.status = .running ∧ Ended s₂ below o ∧ ∃ v L, o = .returned v ∧ Q v s₂.heap L ∧ G s o s₂ L kc ks
theorem own_of {U U' : State} (h : ∀ t, Steps p.tables e below U' t → Steps p.tables e below U t) (k : own_Ends p e below s G Q kc ks U') : own_Ends p e below s G Q kc ks U := by
  obtain ⟨s₂, o, h1, r⟩ := k
  exact ⟨s₂, o, h _ h1, r⟩
theorem own_eq {U U' : State} (h : U = U') (k : own_Ends p e below s G Q kc ks U') : own_Ends p e below s G Q kc ks U := h ▸ k
theorem own_retN (X : Stand p l e R s m args below meth c T locs cells slots) (hx : p.tables.exec = Jvm.exec) (hlk : meth.locks = false) {pc : Nat} {Ls : Array Slot} {z : Int32} {t : FieldType} {rest : List Value} (hret : meth.sig.returnType = some t) (ht : t = .boolean ∨ t = .byte ∨ t = .char ∨ t = .short)
    (hd : decode c.code pc = .ok (.ireturn, 1)) (hc : cells ≤ kc) (hs : slots ≤ ks) (hq : Q (some (.int (nar t z))) T.heap locs) : own_Ends p e below s FrameEnd Q kc ks (T.setTop (mkF m pc Ls (.int z :: rest))) := by
  obtain ⟨fs, hr, hrun, hended, hW, hsame⟩ := X.leave (v := some (.int (nar t z))) (fun h => by rw [hret] at h; cases h) hlk
  exact ⟨_, _, retN X hx hret ht hd hr, hrun, hended, _, _, rfl, hq, ⟨_, rfl⟩, hW, hsame.mono hc hs⟩
theorem own_retI (X : Stand p l e R s m args below meth c T locs cells slots) (hx : p.tables.exec = Jvm.exec) (hlk : meth.locks = false) {pc : Nat} {Ls : Array Slot} {z : Int32} {rest : List Value} (hret : meth.sig.returnType = some .int)
    (hd : decode c.code pc = .ok (.ireturn, 1)) (hc : cells ≤ kc) (hs : slots ≤ ks) (hq : Q (some (.int z)) T.heap locs) : own_Ends p e below s FrameEnd Q kc ks (T.setTop (mkF m pc Ls (.int z :: rest))) := by
  obtain ⟨fs, hr, hrun, hended, hW, hsame⟩ := X.leave (v := some (.int z)) (fun h => by rw [hret] at h; cases h) hlk
  exact ⟨_, _, retOut X hx hret rfl (Or.inl ⟨rfl, Or.inl rfl, _, rfl⟩) hd hr, hrun, hended, _, _, rfl, hq, ⟨_, rfl⟩, hW, hsame.mono hc hs⟩
theorem own_retL (X : Stand p l e R s m args below meth c T locs cells slots) (hx : p.tables.exec = Jvm.exec) (hlk : meth.locks = false) {pc : Nat} {Ls : Array Slot} {z : Int64} {rest : List Value} (hret : meth.sig.returnType = some .long)
    (hd : decode c.code pc = .ok (.lreturn, 1)) (hc : cells ≤ kc) (hs : slots ≤ ks) (hq : Q (some (.long z)) T.heap locs) : own_Ends p e below s FrameEnd Q kc ks (T.setTop (mkF m pc Ls (.long z :: rest))) := by
  obtain ⟨fs, hr, hrun, hended, hW, hsame⟩ := X.leave (v := some (.long z)) (fun h => by rw [hret] at h; cases h) hlk
  exact ⟨_, _, retOut X hx hret rfl (Or.inr (Or.inl ⟨rfl, rfl, _, rfl⟩)) hd hr, hrun, hended, _, _, rfl, hq, ⟨_, rfl⟩, hW, hsame.mono hc hs⟩
theorem own_retA (X : Stand p l e R s m args below meth c T locs cells slots) (hx : p.tables.exec = Jvm.exec) (hlk : meth.locks = false) {pc : Nat} {Ls : Array Slot} {w : Value} {t : FieldType} {rest : List Value} (hret : meth.sig.returnType = some t) (ht : t.isReference = true) (hw : w.isRef = true)
    (hd : decode c.code pc = .ok (.areturn, 1)) (hc : cells ≤ kc) (hs : slots ≤ ks) (hq : Q (some w) T.heap locs) : own_Ends p e below s FrameEnd Q kc ks (T.setTop (mkF m pc Ls (w :: rest))) := by
  obtain ⟨fs, hr, hrun, hended, hW, hsame⟩ := X.leave (v := some w) (fun h => by rw [hret] at h; cases h) hlk
  have hn : narrow t w = w := by cases t <;> first | (cases ht; done) | rfl | (cases w <;> rfl)
  exact ⟨_, _, retOut X hx hret hn (Or.inr (Or.inr (Or.inr (Or.inr ⟨rfl, ht, hw⟩)))) hd hr, hrun, hended, _, _, rfl, hq, ⟨_, rfl⟩, hW, hsame.mono hc hs⟩
theorem own_ret0 (X : Stand p l e R s m args below meth c T locs cells slots) (hx : p.tables.exec = Jvm.exec) (hlk : meth.locks = false) {pc : Nat} {Ls : Array Slot} (hret : meth.sig.returnType = none)
    (hd : decode c.code pc = .ok (.return_, 1)) (hc : cells ≤ kc) (hs : slots ≤ ks) (hq : Q none T.heap locs) : own_Ends p e below s FrameEnd Q kc ks (T.setTop (mkF m pc Ls [])) := by
  obtain ⟨fs, hr, hrun, hended, hW, hsame⟩ := X.leave (v := none) (fun _ => rfl) hlk
  exact ⟨_, _, X.returnOut hx hret hd hr, hrun, hended, _, _, rfl, hq, ⟨_, rfl⟩, hW, hsame.mono hc hs⟩
variable {vm₁ : Vm} {nS : Nat}
theorem own_monoW {t : State} {o : Outcome} {L : List Loc} {k n k' n' : Nat} (h : ReturnedEndW s o t L k n) (hk : k ≤ k') (hn : n ≤ n') : ReturnedEndW s o t L k' n' := ⟨h.1, h.2.1, h.2.2.1, h.2.2.2.mono hk hn⟩
theorem own_retNW (X : Stand p l e R (s.setVm vm₁) m args below meth c T locs cells slots) (hx : p.tables.exec = Jvm.exec) (hlk : meth.locks = false) (hS : s.Since vm₁ nS) (hk : nS ≤ T.heap.size) {pc : Nat} {Ls : Array Slot} {z : Int32} {t : FieldType} {rest : List Value} (hret : meth.sig.returnType = some t) (ht : t = .boolean ∨ t = .byte ∨ t = .char ∨ t = .short)
    (hd : decode c.code pc = .ok (.ireturn, 1)) (hc : cells ≤ kc) (hs : slots ≤ ks) (hq : Q (some (.int (nar t z))) T.heap locs) : own_Ends p e below s ReturnedEndW Q kc ks (T.setTop (mkF m pc Ls (.int z :: rest))) := by
  obtain ⟨fs, hr, hrun, hended, hW⟩ := X.leaveW hS hk (v := some (.int (nar t z))) (fun h => by rw [hret] at h; cases h) hlk
  exact ⟨_, _, retN X hx hret ht hd hr, hrun, hended, _, _, rfl, hq, own_monoW hW hc hs⟩
theorem own_retIW (X : Stand p l e R (s.setVm vm₁) m args below meth c T locs cells slots) (hx : p.tables.exec = Jvm.exec) (hlk : meth.locks = false) (hS : s.Since vm₁ nS) (hk : nS ≤ T.heap.size) {pc : Nat} {Ls : Array Slot} {z : Int32} {rest : List Value} (hret : meth.sig.returnType = some .int)
    (hd : decode c.code pc = .ok (.ireturn, 1)) (hc : cells ≤ kc) (hs : slots ≤ ks) (hq : Q (some (.int z)) T.heap locs) : own_Ends p e below s ReturnedEndW Q kc ks (T.setTop (mkF m pc Ls (.int z :: rest))) := by
  obtain ⟨fs, hr, hrun, hended, hW⟩ := X.leaveW hS hk (v := some (.int z)) (fun h => by rw [hret] at h; cases h) hlk
  exact ⟨_, _, retOut X hx hret rfl (Or.inl ⟨rfl, Or.inl rfl, _, rfl⟩) hd hr, hrun, hended, _, _, rfl, hq, own_monoW hW hc hs⟩
theorem own_retAW (X : Stand p l e R (s.setVm vm₁) m args below meth c T locs cells slots) (hx : p.tables.exec = Jvm.exec) (hlk : meth.locks = false) (hS : s.Since vm₁ nS) (hk : nS ≤ T.heap.size) {pc : Nat} {Ls : Array Slot} {w : Value} {t : FieldType} {rest : List Value} (hret : meth.sig.returnType = some t) (ht : t.isReference = true) (hw : w.isRef = true)
    (hd : decode c.code pc = .ok (.areturn, 1)) (hc : cells ≤ kc) (hs : slots ≤ ks) (hq : Q (some w) T.heap locs) : own_Ends p e below s ReturnedEndW Q kc ks (T.setTop (mkF m pc Ls (w :: rest))) := by
  obtain ⟨fs, hr, hrun, hended, hW⟩ := X.leaveW hS hk (v := some w) (fun h => by rw [hret] at h; cases h) hlk
  have hn : narrow t w = w := by cases t <;> first | (cases ht; done) | rfl | (cases w <;> rfl)
  exact ⟨_, _, retOut X hx hret hn (Or.inr (Or.inr (Or.inr (Or.inr ⟨rfl, ht, hw⟩)))) hd hr, hrun, hended, _, _, rfl, hq, own_monoW hW hc hs⟩
theorem own_ret0W (X : Stand p l e R (s.setVm vm₁) m args below meth c T locs cells slots) (hx : p.tables.exec = Jvm.exec) (hlk : meth.locks = false) (hS : s.Since vm₁ nS) (hk : nS ≤ T.heap.size) {pc : Nat} {Ls : Array Slot} (hret : meth.sig.returnType = none)
    (hd : decode c.code pc = .ok (.return_, 1)) (hc : cells ≤ kc) (hs : slots ≤ ks) (hq : Q none T.heap locs) : own_Ends p e below s ReturnedEndW Q kc ks (T.setTop (mkF m pc Ls [])) := by
  obtain ⟨fs, hr, hrun, hended, hW⟩ := X.leaveW hS hk (v := none) (fun _ => rfl) hlk
  exact ⟨_, _, X.returnOut hx hret hd hr, hrun, hended, _, _, rfl, hq, own_monoW hW hc hs⟩
end Own
theorem own_b1 : nar .boolean (1 : Int32) = 1 := rfl
theorem own_b0 : nar .boolean (0 : Int32) = 0 := rfl
section Own2
variable {p : Program} {l : Launch} {e : Env} {R : Room} {s sS : State} {m : MethodId} {args : Array Value} {below : List Frame} {meth : Method} {c : Code} {T : State} {locs : List Loc} {cells slots : Nat} {Q : Option Value → Heap → List Loc → Prop} {kc ks : Nat} {G : State → Outcome → State → List Loc → Nat → Nat → Prop}
theorem own_iloadN (X : Stand p l e R sS m args below meth c T locs cells slots) (hx : p.tables.exec = Jvm.exec) {code : ByteArray} (hby : c.code = code) {pc : Nat} {Ls : Array Slot} {St : List Value} {k : Fin 4} {v : Int32} (hd : decode code pc = .ok (.iload_n k, 1)) (hl : Ls[k.val]? = some (.val (.int v))) (k : own_Ends p e below s G Q kc ks (T.setTop (mkF m (pc + 1) Ls (.int v :: St)))) : own_Ends p e below s G Q kc ks (T.setTop (mkF m pc Ls (St))) := own_of (fun _ q => XS.iloadN X.here hx rfl (hb hby hd) hl q) k
theorem own_iload (X : Stand p l e R sS m args below meth c T locs cells slots) (hx : p.tables.exec = Jvm.exec) {code : ByteArray} (hby : c.code = code) {pc : Nat} {Ls : Array Slot} {St : List Value} {k : Nat} {v : Int32} (hd : decode code pc = .ok (.iload k, 2)) (hl : Ls[k]? = some (.val (.int v))) (k : own_Ends p e below s G Q kc ks (T.setTop (mkF m (pc + 2) Ls (.int v :: St)))) : own_Ends p e below s G Q kc ks (T.setTop (mkF m pc Ls (St))) := own_of (fun _ q => XS.iload X.here hx rfl (hb hby hd) hl q) k
theorem own_lloadN (X : Stand p l e R sS m args below meth c T locs cells slots) (hx : p.tables.exec = Jvm.exec) {code : ByteArray} (hby : c.code = code) {pc : Nat} {Ls : Array Slot} {St : List Value} {k : Fin 4} {v : Int64} (hd : decode code pc = .ok (.lload_n k, 1)) (hl : Ls[k.val]? = some (.val (.long v))) (k : own_Ends p e below s G Q kc ks (T.setTop (mkF m (pc + 1) Ls (.long v :: St)))) : own_Ends p e below s G Q kc ks (T.setTop (mkF m pc Ls (St))) := own_of (fun _ q => XT.lloadN X.here hx rfl (hb hby hd) hl q) k
theorem own_lload (X : Stand p l e R sS m args below meth c T locs cells slots) (hx : p.tables.exec = Jvm.exec) {code : ByteArray} (hby : c.code = code) {pc : Nat} {Ls : Array Slot} {St : List Value} {k : Nat} {v : Int64} (hd : decode code pc = .ok (.lload k, 2)) (hl : Ls[k]? = some (.val (.long v))) (k : own_Ends p e below s G Q kc ks (T.setTop (mkF m (pc + 2) Ls (.long v :: St)))) : own_Ends p e below s G Q kc ks (T.setTop (mkF m pc Ls (St))) := own_of (fun _ q => XT.lload X.here hx rfl (hb hby hd) hl q) k
theorem own_dloadN (X : Stand p l e R sS m args below meth c T locs cells slots) (hx : p.tables.exec = Jvm.exec) {code : ByteArray} (hby : c.code = code) {pc : Nat} {Ls : Array Slot} {St : List Value} {k : Fin 4} {v : UInt64} (hd : decode code pc = .ok (.dload_n k, 1)) (hl : Ls[k.val]? = some (.val (.double v))) (k : own_Ends p e below s G Q kc ks (T.setTop (mkF m (pc + 1) Ls (.double v :: St)))) : own_Ends p e below s G Q kc ks (T.setTop (mkF m pc Ls (St))) := own_of (fun _ q => XS.dloadN X.here hx rfl (hb hby hd) hl q) k
theorem own_dload (X : Stand p l e R sS m args below meth c T locs cells slots) (hx : p.tables.exec = Jvm.exec) {code : ByteArray} (hby : c.code = code) {pc : Nat} {Ls : Array Slot} {St : List Value} {k : Nat} {v : UInt64} (hd : decode code pc = .ok (.dload k, 2)) (hl : Ls[k]? = some (.val (.double v))) (k : own_Ends p e below s G Q kc ks (T.setTop (mkF m (pc + 2) Ls (.double v :: St)))) : own_Ends p e below s G Q kc ks (T.setTop (mkF m pc Ls (St))) := own_of (fun _ q => XS.dload X.here hx rfl (hb hby hd) hl q) k
theorem own_aloadN (X : Stand p l e R sS m args below meth c T locs cells slots) (hx : p.tables.exec = Jvm.exec) {code : ByteArray} (hby : c.code = code) {pc : Nat} {Ls : Array Slot} {St : List Value} {k : Fin 4} {v : Value} (hd : decode code pc = .ok (.aload_n k, 1)) (hl : Ls[k.val]? = some (.val v)) (hv : v.isRef = true) (k : own_Ends p e below s G Q kc ks (T.setTop (mkF m (pc + 1) Ls (v :: St)))) : own_Ends p e below s G Q kc ks (T.setTop (mkF m pc Ls (St))) := own_of (fun _ q => XS.aloadN X.here hx rfl (hb hby hd) hl hv q) k
theorem own_aload (X : Stand p l e R sS m args below meth c T locs cells slots) (hx : p.tables.exec = Jvm.exec) {code : ByteArray} (hby : c.code = code) {pc : Nat} {Ls : Array Slot} {St : List Value} {k : Nat} {v : Value} (hd : decode code pc = .ok (.aload k, 2)) (hl : Ls[k]? = some (.val v)) (hv : v.isRef = true) (k : own_Ends p e below s G Q kc ks (T.setTop (mkF m (pc + 2) Ls (v :: St)))) : own_Ends p e below s G Q kc ks (T.setTop (mkF m pc Ls (St))) := own_of (fun _ q => XS.aload X.here hx rfl (hb hby hd) hl hv q) k
theorem own_istoreN (X : Stand p l e R sS m args below meth c T locs cells slots) (hx : p.tables.exec = Jvm.exec) {code : ByteArray} (hby : c.code = code) {pc : Nat} {Ls : Array Slot} {St : List Value} {k : Fin 4} {x : Int32} {l' : Array Slot} (hd : decode code pc = .ok (.istore_n k, 1)) (hl : storeLocals Ls k.val (.int x) = some l') (k : own_Ends p e below s G Q kc ks (T.setTop (mkF m (pc + 1) l' (St)))) : own_Ends p e below s G Q kc ks (T.setTop (mkF m pc Ls (.int x :: St))) := own_of (fun _ q => XS.istoreN X.here hx rfl (hb hby hd) rfl hl q) k
theorem own_istore (X : Stand p l e R sS m args below meth c T locs cells slots) (hx : p.tables.exec = Jvm.exec) {code : ByteArray} (hby : c.code = code) {pc : Nat} {Ls : Array Slot} {St : List Value} {k : Nat} {x : Int32} {l' : Array Slot} (hd : decode code pc = .ok (.istore k, 2)) (hl : storeLocals Ls k (.int x) = some l') (k : own_Ends p e below s G Q kc ks (T.setTop (mkF m (pc + 2) l' (St)))) : own_Ends p e below s G Q kc ks (T.setTop (mkF m pc Ls (.int x :: St))) := own_of (fun _ q => XS.istore X.here hx rfl (hb hby hd) rfl hl q) k
theorem own_lstoreN (X : Stand p l e R sS m args below meth c T locs cells slots) (hx : p.tables.exec = Jvm.exec) {code : ByteArray} (hby : c.code = code) {pc : Nat} {Ls : Array Slot} {St : List Value} {k : Fin 4} {x : Int64} {l' : Array Slot} (hd : decode code pc = .ok (.lstore_n k, 1)) (hl : storeLocals Ls k.val (.long x) = some l') (k : own_Ends p e below s G Q kc ks (T.setTop (mkF m (pc + 1) l' (St)))) : own_Ends p e below s G Q kc ks (T.setTop (mkF m pc Ls (.long x :: St))) := own_of (fun _ q => XT.lstoreN X.here hx rfl (hb hby hd) rfl hl q) k
theorem own_lstore (X : Stand p l e R sS m args below meth c T locs cells slots) (hx : p.tables.exec = Jvm.exec) {code : ByteArray} (hby : c.code = code) {pc : Nat} {Ls : Array Slot} {St : List Value} {k : Nat} {x : Int64} {l' : Array Slot} (hd : decode code pc = .ok (.lstore k, 2)) (hl : storeLocals Ls k (.long x) = some l') (k : own_Ends p e below s G Q kc ks (T.setTop (mkF m (pc + 2) l' (St)))) : own_Ends p e below s G Q kc ks (T.setTop (mkF m pc Ls (.long x :: St))) := own_of (fun _ q => XT.lstore X.here hx rfl (hb hby hd) rfl hl q) k
theorem own_astoreN (X : Stand p l e R sS m args below meth c T locs cells slots) (hx : p.tables.exec = Jvm.exec) {code : ByteArray} (hby : c.code = code) {pc : Nat} {Ls : Array Slot} {St : List Value} {k : Fin 4} {x : Value} {l' : Array Slot} (hd : decode code pc = .ok (.astore_n k, 1)) (hv : x.isRef = true) (hl : storeLocals Ls k.val x = some l') (k : own_Ends p e below s G Q kc ks (T.setTop (mkF m (pc + 1) l' (St)))) : own_Ends p e below s G Q kc ks (T.setTop (mkF m pc Ls (x :: St))) := own_of (fun _ q => XS.astoreN X.here hx rfl (hb hby hd) rfl hv hl q) k
theorem own_astore (X : Stand p l e R sS m args below meth c T locs cells slots) (hx : p.tables.exec = Jvm.exec) {code : ByteArray} (hby : c.code = code) {pc : Nat} {Ls : Array Slot} {St : List Value} {k : Nat} {x : Value} {l' : Array Slot} (hd : decode code pc = .ok (.astore k, 2)) (hv : x.isRef = true) (hl : storeLocals Ls k x = some l') (k : own_Ends p e below s G Q kc ks (T.setTop (mkF m (pc + 2) l' (St)))) : own_Ends p e below s G Q kc ks (T.setTop (mkF m pc Ls (x :: St))) := own_of (fun _ q => XS.astore X.here hx rfl (hb hby hd) rfl hv hl q) k
theorem own_aconstNull (X : Stand p l e R sS m args below meth c T locs cells slots) (hx : p.tables.exec = Jvm.exec) {code : ByteArray} (hby : c.code = code) {pc : Nat} {Ls : Array Slot} {St : List Value}  (hd : decode code pc = .ok (.aconst_null, 1)) (k : own_Ends p e below s G Q kc ks (T.setTop (mkF m (pc + 1) Ls (.null :: St)))) : own_Ends p e below s G Q kc ks (T.setTop (mkF m pc Ls (St))) := own_of (fun _ q => XS.aconstNull X.here hx rfl (hb hby hd) q) k
theorem own_iadd (X : Stand p l e R sS m args below meth c T locs cells slots) (hx : p.tables.exec = Jvm.exec) {code : ByteArray} (hby : c.code = code) {pc : Nat} {Ls : Array Slot} {St : List Value} {x y : Int32} (hd : decode code pc = .ok (.iadd, 1)) (k : own_Ends p e below s G Q kc ks (T.setTop (mkF m (pc + 1) Ls (.int (x + y) :: St)))) : own_Ends p e below s G Q kc ks (T.setTop (mkF m pc Ls (.int y :: .int x :: St))) := own_of (fun _ q => XS.iadd X.here hx rfl (hb hby hd) rfl q) k
theorem own_isub (X : Stand p l e R sS m args below meth c T locs cells slots) (hx : p.tables.exec = Jvm.exec) {code : ByteArray} (hby : c.code = code) {pc : Nat} {Ls : Array Slot} {St : List Value} {x y : Int32} (hd : decode code pc = .ok (.isub, 1)) (k : own_Ends p e below s G Q kc ks (T.setTop (mkF m (pc + 1) Ls (.int (x - y) :: St)))) : own_Ends p e below s G Q kc ks (T.setTop (mkF m pc Ls (.int y :: .int x :: St))) := own_of (fun _ q => XS.isub X.here hx rfl (hb hby hd) rfl q) k
theorem own_imul (X : Stand p l e R sS m args below meth c T locs cells slots) (hx : p.tables.exec = Jvm.exec) {code : ByteArray} (hby : c.code = code) {pc : Nat} {Ls : Array Slot} {St : List Value} {x y : Int32} (hd : decode code pc = .ok (.imul, 1)) (k : own_Ends p e below s G Q kc ks (T.setTop (mkF m (pc + 1) Ls (.int (x * y) :: St)))) : own_Ends p e below s G Q kc ks (T.setTop (mkF m pc Ls (.int y :: .int x :: St))) := own_of (fun _ q => XS.imul X.here hx rfl (hb hby hd) rfl q) k
theorem own_iand (X : Stand p l e R sS m args below meth c T locs cells slots) (hx : p.tables.exec = Jvm.exec) {code : ByteArray} (hby : c.code = code) {pc : Nat} {Ls : Array Slot} {St : List Value} {x y : Int32} (hd : decode code pc = .ok (.iand, 1)) (k : own_Ends p e below s G Q kc ks (T.setTop (mkF m (pc + 1) Ls (.int (x &&& y) :: St)))) : own_Ends p e below s G Q kc ks (T.setTop (mkF m pc Ls (.int y :: .int x :: St))) := own_of (fun _ q => XS.iand X.here hx rfl (hb hby hd) rfl q) k
theorem own_ior (X : Stand p l e R sS m args below meth c T locs cells slots) (hx : p.tables.exec = Jvm.exec) {code : ByteArray} (hby : c.code = code) {pc : Nat} {Ls : Array Slot} {St : List Value} {x y : Int32} (hd : decode code pc = .ok (.ior, 1)) (k : own_Ends p e below s G Q kc ks (T.setTop (mkF m (pc + 1) Ls (.int (x ||| y) :: St)))) : own_Ends p e below s G Q kc ks (T.setTop (mkF m pc Ls (.int y :: .int x :: St))) := own_of (fun _ q => XT.ior X.here hx rfl (hb hby hd) rfl q) k
theorem own_ixor (X : Stand p l e R sS m args below meth c T locs cells slots) (hx : p.tables.exec = Jvm.exec) {code : ByteArray} (hby : c.code = code) {pc : Nat} {Ls : Array Slot} {St : List Value} {x y : Int32} (hd : decode code pc = .ok (.ixor, 1)) (k : own_Ends p e below s G Q kc ks (T.setTop (mkF m (pc + 1) Ls (.int (x ^^^ y) :: St)))) : own_Ends p e below s G Q kc ks (T.setTop (mkF m pc Ls (.int y :: .int x :: St))) := own_of (fun _ q => XT.ixor X.here hx rfl (hb hby hd) rfl q) k
theorem own_ladd (X : Stand p l e R sS m args below meth c T locs cells slots) (hx : p.tables.exec = Jvm.exec) {code : ByteArray} (hby : c.code = code) {pc : Nat} {Ls : Array Slot} {St : List Value} {x y : Int64} (hd : decode code pc = .ok (.ladd, 1)) (k : own_Ends p e below s G Q kc ks (T.setTop (mkF m (pc + 1) Ls (.long (x + y) :: St)))) : own_Ends p e below s G Q kc ks (T.setTop (mkF m pc Ls (.long y :: .long x :: St))) := own_of (fun _ q => XT.ladd X.here hx rfl (hb hby hd) rfl q) k
theorem own_lsub (X : Stand p l e R sS m args below meth c T locs cells slots) (hx : p.tables.exec = Jvm.exec) {code : ByteArray} (hby : c.code = code) {pc : Nat} {Ls : Array Slot} {St : List Value} {x y : Int64} (hd : decode code pc = .ok (.lsub, 1)) (k : own_Ends p e below s G Q kc ks (T.setTop (mkF m (pc + 1) Ls (.long (x - y) :: St)))) : own_Ends p e below s G Q kc ks (T.setTop (mkF m pc Ls (.long y :: .long x :: St))) := own_of (fun _ q => XT.lsub X.here hx rfl (hb hby hd) rfl q) k
theorem own_lmul (X : Stand p l e R sS m args below meth c T locs cells slots) (hx : p.tables.exec = Jvm.exec) {code : ByteArray} (hby : c.code = code) {pc : Nat} {Ls : Array Slot} {St : List Value} {x y : Int64} (hd : decode code pc = .ok (.lmul, 1)) (k : own_Ends p e below s G Q kc ks (T.setTop (mkF m (pc + 1) Ls (.long (x * y) :: St)))) : own_Ends p e below s G Q kc ks (T.setTop (mkF m pc Ls (.long y :: .long x :: St))) := own_of (fun _ q => XT.lmul X.here hx rfl (hb hby hd) rfl q) k
theorem own_land (X : Stand p l e R sS m args below meth c T locs cells slots) (hx : p.tables.exec = Jvm.exec) {code : ByteArray} (hby : c.code = code) {pc : Nat} {Ls : Array Slot} {St : List Value} {x y : Int64} (hd : decode code pc = .ok (.land, 1)) (k : own_Ends p e below s G Q kc ks (T.setTop (mkF m (pc + 1) Ls (.long (x &&& y) :: St)))) : own_Ends p e below s G Q kc ks (T.setTop (mkF m pc Ls (.long y :: .long x :: St))) := own_of (fun _ q => XT.land X.here hx rfl (hb hby hd) rfl q) k
theorem own_lor (X : Stand p l e R sS m args below meth c T locs cells slots) (hx : p.tables.exec = Jvm.exec) {code : ByteArray} (hby : c.code = code) {pc : Nat} {Ls : Array Slot} {St : List Value} {x y : Int64} (hd : decode code pc = .ok (.lor, 1)) (k : own_Ends p e below s G Q kc ks (T.setTop (mkF m (pc + 1) Ls (.long (x ||| y) :: St)))) : own_Ends p e below s G Q kc ks (T.setTop (mkF m pc Ls (.long y :: .long x :: St))) := own_of (fun _ q => XT.lor X.here hx rfl (hb hby hd) rfl q) k
theorem own_lxor (X : Stand p l e R sS m args below meth c T locs cells slots) (hx : p.tables.exec = Jvm.exec) {code : ByteArray} (hby : c.code = code) {pc : Nat} {Ls : Array Slot} {St : List Value} {x y : Int64} (hd : decode code pc = .ok (.lxor, 1)) (k : own_Ends p e below s G Q kc ks (T.setTop (mkF m (pc + 1) Ls (.long (x ^^^ y) :: St)))) : own_Ends p e below s G Q kc ks (T.setTop (mkF m pc Ls (.long y :: .long x :: St))) := own_of (fun _ q => XT.lxor X.here hx rfl (hb hby hd) rfl q) k
theorem own_ishl (X : Stand p l e R sS m args below meth c T locs cells slots) (hx : p.tables.exec = Jvm.exec) {code : ByteArray} (hby : c.code = code) {pc : Nat} {Ls : Array Slot} {St : List Value} {x y : Int32} (hd : decode code pc = .ok (.ishl, 1)) (k : own_Ends p e below s G Q kc ks (T.setTop (mkF m (pc + 1) Ls (.int (x <<< (y &&& 31)) :: St)))) : own_Ends p e below s G Q kc ks (T.setTop (mkF m pc Ls (.int y :: .int x :: St))) := own_of (fun _ q => XT.ishl X.here hx rfl (hb hby hd) rfl q) k
theorem own_ishr (X : Stand p l e R sS m args below meth c T locs cells slots) (hx : p.tables.exec = Jvm.exec) {code : ByteArray} (hby : c.code = code) {pc : Nat} {Ls : Array Slot} {St : List Value} {x y : Int32} (hd : decode code pc = .ok (.ishr, 1)) (k : own_Ends p e below s G Q kc ks (T.setTop (mkF m (pc + 1) Ls (.int (x >>> (y &&& 31)) :: St)))) : own_Ends p e below s G Q kc ks (T.setTop (mkF m pc Ls (.int y :: .int x :: St))) := own_of (fun _ q => XT.ishr X.here hx rfl (hb hby hd) rfl q) k
theorem own_iushr (X : Stand p l e R sS m args below meth c T locs cells slots) (hx : p.tables.exec = Jvm.exec) {code : ByteArray} (hby : c.code = code) {pc : Nat} {Ls : Array Slot} {St : List Value} {x y : Int32} (hd : decode code pc = .ok (.iushr, 1)) (k : own_Ends p e below s G Q kc ks (T.setTop (mkF m (pc + 1) Ls (.int (XT.ushr x y) :: St)))) : own_Ends p e below s G Q kc ks (T.setTop (mkF m pc Ls (.int y :: .int x :: St))) := own_of (fun _ q => XT.iushr X.here hx rfl (hb hby hd) rfl q) k
theorem own_lshl (X : Stand p l e R sS m args below meth c T locs cells slots) (hx : p.tables.exec = Jvm.exec) {code : ByteArray} (hby : c.code = code) {pc : Nat} {Ls : Array Slot} {St : List Value} {x : Int64} {y : Int32} (hd : decode code pc = .ok (.lshl, 1)) (k : own_Ends p e below s G Q kc ks (T.setTop (mkF m (pc + 1) Ls (.long (x <<< (y.toInt64 &&& 63)) :: St)))) : own_Ends p e below s G Q kc ks (T.setTop (mkF m pc Ls (.int y :: .long x :: St))) := own_of (fun _ q => XT.lshl X.here hx rfl (hb hby hd) rfl q) k
theorem own_lshr (X : Stand p l e R sS m args below meth c T locs cells slots) (hx : p.tables.exec = Jvm.exec) {code : ByteArray} (hby : c.code = code) {pc : Nat} {Ls : Array Slot} {St : List Value} {x : Int64} {y : Int32} (hd : decode code pc = .ok (.lshr, 1)) (k : own_Ends p e below s G Q kc ks (T.setTop (mkF m (pc + 1) Ls (.long (x >>> (y.toInt64 &&& 63)) :: St)))) : own_Ends p e below s G Q kc ks (T.setTop (mkF m pc Ls (.int y :: .long x :: St))) := own_of (fun _ q => XT.lshr X.here hx rfl (hb hby hd) rfl q) k
theorem own_lushr (X : Stand p l e R sS m args below meth c T locs cells slots) (hx : p.tables.exec = Jvm.exec) {code : ByteArray} (hby : c.code = code) {pc : Nat} {Ls : Array Slot} {St : List Value} {x : Int64} {y : Int32} (hd : decode code pc = .ok (.lushr, 1)) (k : own_Ends p e below s G Q kc ks (T.setTop (mkF m (pc + 1) Ls (.long (XT.ushrL x y) :: St)))) : own_Ends p e below s G Q kc ks (T.setTop (mkF m pc Ls (.int y :: .long x :: St))) := own_of (fun _ q => XT.lushr X.here hx rfl (hb hby hd) rfl q) k
theorem own_ineg (X : Stand p l e R sS m args below meth c T locs cells slots) (hx : p.tables.exec = Jvm.exec) {code : ByteArray} (hby : c.code = code) {pc : Nat} {Ls : Array Slot} {St : List Value} {x : Int32} (hd : decode code pc = .ok (.ineg, 1)) (k : own_Ends p e below s G Q kc ks (T.setTop (mkF m (pc + 1) Ls (.int (-x) :: St)))) : own_Ends p e below s G Q kc ks (T.setTop (mkF m pc Ls (.int x :: St))) := own_of (fun _ q => XS.ineg X.here hx rfl (hb hby hd) rfl q) k
theorem own_lneg (X : Stand p l e R sS m args below meth c T locs cells slots) (hx : p.tables.exec = Jvm.exec) {code : ByteArray} (hby : c.code = code) {pc : Nat} {Ls : Array Slot} {St : List Value} {x : Int64} (hd : decode code pc = .ok (.lneg, 1)) (k : own_Ends p e below s G Q kc ks (T.setTop (mkF m (pc + 1) Ls (.long (-x) :: St)))) : own_Ends p e below s G Q kc ks (T.setTop (mkF m pc Ls (.long x :: St))) := own_of (fun _ q => XT.lneg X.here hx rfl (hb hby hd) rfl q) k
theorem own_i2l (X : Stand p l e R sS m args below meth c T locs cells slots) (hx : p.tables.exec = Jvm.exec) {code : ByteArray} (hby : c.code = code) {pc : Nat} {Ls : Array Slot} {St : List Value} {x : Int32} (hd : decode code pc = .ok (.i2l, 1)) (k : own_Ends p e below s G Q kc ks (T.setTop (mkF m (pc + 1) Ls (.long (x.toInt64) :: St)))) : own_Ends p e below s G Q kc ks (T.setTop (mkF m pc Ls (.int x :: St))) := own_of (fun _ q => XT.i2l X.here hx rfl (hb hby hd) rfl q) k
theorem own_l2i (X : Stand p l e R sS m args below meth c T locs cells slots) (hx : p.tables.exec = Jvm.exec) {code : ByteArray} (hby : c.code = code) {pc : Nat} {Ls : Array Slot} {St : List Value} {x : Int64} (hd : decode code pc = .ok (.l2i, 1)) (k : own_Ends p e below s G Q kc ks (T.setTop (mkF m (pc + 1) Ls (.int (x.toInt32) :: St)))) : own_Ends p e below s G Q kc ks (T.setTop (mkF m pc Ls (.long x :: St))) := own_of (fun _ q => XT.l2i X.here hx rfl (hb hby hd) rfl q) k
theorem own_i2b (X : Stand p l e R sS m args below meth c T locs cells slots) (hx : p.tables.exec = Jvm.exec) {code : ByteArray} (hby : c.code = code) {pc : Nat} {Ls : Array Slot} {St : List Value} {x : Int32} (hd : decode code pc = .ok (.i2b, 1)) (k : own_Ends p e below s G Q kc ks (T.setTop (mkF m (pc + 1) Ls (.int (x.toInt8.toInt32) :: St)))) : own_Ends p e below s G Q kc ks (T.setTop (mkF m pc Ls (.int x :: St))) := own_of (fun _ q => XT.i2b X.here hx rfl (hb hby hd) rfl q) k
theorem own_i2s (X : Stand p l e R sS m args below meth c T locs cells slots) (hx : p.tables.exec = Jvm.exec) {code : ByteArray} (hby : c.code = code) {pc : Nat} {Ls : Array Slot} {St : List Value} {x : Int32} (hd : decode code pc = .ok (.i2s, 1)) (k : own_Ends p e below s G Q kc ks (T.setTop (mkF m (pc + 1) Ls (.int (x.toInt16.toInt32) :: St)))) : own_Ends p e below s G Q kc ks (T.setTop (mkF m pc Ls (.int x :: St))) := own_of (fun _ q => XT.i2s X.here hx rfl (hb hby hd) rfl q) k
theorem own_i2c (X : Stand p l e R sS m args below meth c T locs cells slots) (hx : p.tables.exec = Jvm.exec) {code : ByteArray} (hby : c.code = code) {pc : Nat} {Ls : Array Slot} {St : List Value} {x : Int32} (hd : decode code pc = .ok (.i2c, 1)) (k : own_Ends p e below s G Q kc ks (T.setTop (mkF m (pc + 1) Ls (.int (x.toUInt32.toUInt16.toUInt32.toInt32) :: St)))) : own_Ends p e below s G Q kc ks (T.setTop (mkF m pc Ls (.int x :: St))) := own_of (fun _ q => XT.i2c X.here hx rfl (hb hby hd) rfl q) k
theorem own_lcmp (X : Stand p l e R sS m args below meth c T locs cells slots) (hx : p.tables.exec = Jvm.exec) {code : ByteArray} (hby : c.code = code) {pc : Nat} {Ls : Array Slot} {St : List Value} {x y : Int64} (hd : decode code pc = .ok (.lcmp, 1)) (k : own_Ends p e below s G Q kc ks (T.setTop (mkF m (pc + 1) Ls (.int (XT.cmpL x y) :: St)))) : own_Ends p e below s G Q kc ks (T.setTop (mkF m pc Ls (.long y :: .long x :: St))) := own_of (fun _ q => XT.lcmp X.here hx rfl (hb hby hd) rfl q) k
theorem own_dup (X : Stand p l e R sS m args below meth c T locs cells slots) (hx : p.tables.exec = Jvm.exec) {code : ByteArray} (hby : c.code = code) {pc : Nat} {Ls : Array Slot} {St : List Value} {x : Value} (hd : decode code pc = .ok (.dup, 1)) (hc : x.category = 1) (k : own_Ends p e below s G Q kc ks (T.setTop (mkF m (pc + 1) Ls (x :: x :: St)))) : own_Ends p e below s G Q kc ks (T.setTop (mkF m pc Ls (x :: St))) := own_of (fun _ q => XS.dup X.here hx rfl (hb hby hd) rfl hc q) k
theorem own_dupX1 (X : Stand p l e R sS m args below meth c T locs cells slots) (hx : p.tables.exec = Jvm.exec) {code : ByteArray} (hby : c.code = code) {pc : Nat} {Ls : Array Slot} {St : List Value} {x y : Value} (hd : decode code pc = .ok (.dup_x1, 1)) (hc : x.category = 1) (hc' : y.category = 1) (k : own_Ends p e below s G Q kc ks (T.setTop (mkF m (pc + 1) Ls (x :: y :: x :: St)))) : own_Ends p e below s G Q kc ks (T.setTop (mkF m pc Ls (x :: y :: St))) := own_of (fun _ q => XT.dupX1 X.here hx rfl (hb hby hd) rfl hc hc' q) k
theorem own_dup2 (X : Stand p l e R sS m args below meth c T locs cells slots) (hx : p.tables.exec = Jvm.exec) {code : ByteArray} (hby : c.code = code) {pc : Nat} {Ls : Array Slot} {St : List Value} {x y : Value} (hd : decode code pc = .ok (.dup2, 1)) (hc : x.category = 1) (hc' : y.category = 1) (k : own_Ends p e below s G Q kc ks (T.setTop (mkF m (pc + 1) Ls (x :: y :: x :: y :: St)))) : own_Ends p e below s G Q kc ks (T.setTop (mkF m pc Ls (x :: y :: St))) := own_of (fun _ q => XT.dup2 X.here hx rfl (hb hby hd) rfl hc hc' q) k
theorem own_dup2L (X : Stand p l e R sS m args below meth c T locs cells slots) (hx : p.tables.exec = Jvm.exec) {code : ByteArray} (hby : c.code = code) {pc : Nat} {Ls : Array Slot} {St : List Value} {x : Int64} (hd : decode code pc = .ok (.dup2, 1)) (k : own_Ends p e below s G Q kc ks (T.setTop (mkF m (pc + 1) Ls (.long x :: .long x :: St)))) : own_Ends p e below s G Q kc ks (T.setTop (mkF m pc Ls (.long x :: St))) := own_of (fun _ q => XT.dup2L X.here hx rfl (hb hby hd) rfl q) k
theorem own_pop (X : Stand p l e R sS m args below meth c T locs cells slots) (hx : p.tables.exec = Jvm.exec) {code : ByteArray} (hby : c.code = code) {pc : Nat} {Ls : Array Slot} {St : List Value} {x : Value} (hd : decode code pc = .ok (.pop, 1)) (hc : x.category = 1) (k : own_Ends p e below s G Q kc ks (T.setTop (mkF m (pc + 1) Ls (St)))) : own_Ends p e below s G Q kc ks (T.setTop (mkF m pc Ls (x :: St))) := own_of (fun _ q => XT.pop X.here hx rfl (hb hby hd) rfl hc q) k
theorem own_iinc (X : Stand p l e R sS m args below meth c T locs cells slots) (hx : p.tables.exec = Jvm.exec) {code : ByteArray} (hby : c.code = code) {pc : Nat} {Ls : Array Slot} {St : List Value} {k : Nat} {cst : Int} {x : Int32} {l' : Array Slot} (hd : decode code pc = .ok (.iinc k cst, 3)) (hl : Ls[k]? = some (.val (.int x))) (hl' : storeLocals Ls k (.int (x + Int32.ofInt cst)) = some l') (k : own_Ends p e below s G Q kc ks (T.setTop (mkF m (pc + 3) l' (St)))) : own_Ends p e below s G Q kc ks (T.setTop (mkF m pc Ls (St))) := own_of (fun _ q => XS.iinc X.here hx rfl (hb hby hd) hl hl' q) k
theorem own_iconst (X : Stand p l e R sS m args below meth c T locs cells slots) (hx : p.tables.exec = Jvm.exec) {code : ByteArray} (hby : c.code = code) {pc : Nat} {Ls : Array Slot} {St : List Value} {i : Int} (z : Int32) (hd : decode code pc = .ok (.iconst i, 1)) (hz : Int32.ofInt i = z) (k : own_Ends p e below s G Q kc ks (T.setTop (mkF m (pc + 1) Ls (.int z :: St)))) : own_Ends p e below s G Q kc ks (T.setTop (mkF m pc Ls St)) := by subst hz; exact own_of (fun _ q => XS.iconst X.here hx rfl (hb hby hd) q) k
theorem own_bipush (X : Stand p l e R sS m args below meth c T locs cells slots) (hx : p.tables.exec = Jvm.exec) {code : ByteArray} (hby : c.code = code) {pc : Nat} {Ls : Array Slot} {St : List Value} {i : Int} (z : Int32) (hd : decode code pc = .ok (.bipush i, 2)) (hz : (Int8.ofInt i).toInt32 = z) (k : own_Ends p e below s G Q kc ks (T.setTop (mkF m (pc + 2) Ls (.int z :: St)))) : own_Ends p e below s G Q kc ks (T.setTop (mkF m pc Ls St)) := by subst hz; exact own_of (fun _ q => XS.bipush X.here hx rfl (hb hby hd) q) k
theorem own_sipush (X : Stand p l e R sS m args below meth c T locs cells slots) (hx : p.tables.exec = Jvm.exec) {code : ByteArray} (hby : c.code = code) {pc : Nat} {Ls : Array Slot} {St : List Value} {i : Int} (z : Int32) (hd : decode code pc = .ok (.sipush i, 3)) (hz : (Int16.ofInt i).toInt32 = z) (k : own_Ends p e below s G Q kc ks (T.setTop (mkF m (pc + 3) Ls (.int z :: St)))) : own_Ends p e below s G Q kc ks (T.setTop (mkF m pc Ls St)) := by subst hz; exact own_of (fun _ q => XS.sipush X.here hx rfl (hb hby hd) q) k
theorem own_lconst (X : Stand p l e R sS m args below meth c T locs cells slots) (hx : p.tables.exec = Jvm.exec) {code : ByteArray} (hby : c.code = code) {pc : Nat} {Ls : Array Slot} {St : List Value} {i : Fin 2} (z : Int64) (hd : decode code pc = .ok (.lconst i, 1)) (hz : Int64.ofNat i = z) (k : own_Ends p e below s G Q kc ks (T.setTop (mkF m (pc + 1) Ls (.long z :: St)))) : own_Ends p e below s G Q kc ks (T.setTop (mkF m pc Ls St)) := by subst hz; exact own_of (fun _ q => XT.lconst X.here hx rfl (hb hby hd) q) k
theorem own_goto (X : Stand p l e R sS m args below meth c T locs cells slots) (hx : p.tables.exec = Jvm.exec) {code : ByteArray} (hby : c.code = code) {Ls : Array Slot} {St : List Value} (pc pc' : Nat) {o : Int}  (hd : decode code pc = .ok (.goto o, 3)) (ho : 0 ≤ (pc : Int) + o) (hp : ((pc : Int) + o).toNat = pc') (k : own_Ends p e below s G Q kc ks (T.setTop (mkF m pc' Ls St))) : own_Ends p e below s G Q kc ks (T.setTop (mkF m pc Ls (St))) := own_of (fun _ q => XS.goto X.here hx rfl (pc0 := pc) (pc' := pc') rfl (hb hby hd) ho hp q) k
theorem own_ifYes (X : Stand p l e R sS m args below meth c T locs cells slots) (hx : p.tables.exec = Jvm.exec) {code : ByteArray} (hby : c.code = code) {Ls : Array Slot} {St : List Value} (pc pc' : Nat) {o : Int} {cd : ClassFile.Cond} {x : Int32} (hd : decode code pc = .ok (.ifCond cd o, 3)) (hc : ifCond.holds cd x = true) (ho : 0 ≤ (pc : Int) + o) (hp : ((pc : Int) + o).toNat = pc') (k : own_Ends p e below s G Q kc ks (T.setTop (mkF m pc' Ls St))) : own_Ends p e below s G Q kc ks (T.setTop (mkF m pc Ls (.int x :: St))) := own_of (fun _ q => XS.ifYes X.here hx rfl (pc0 := pc) (pc' := pc') rfl (hb hby hd) rfl hc ho hp q) k
theorem own_icmpYes (X : Stand p l e R sS m args below meth c T locs cells slots) (hx : p.tables.exec = Jvm.exec) {code : ByteArray} (hby : c.code = code) {Ls : Array Slot} {St : List Value} (pc pc' : Nat) {o : Int} {cd : ClassFile.Cond} {x y : Int32} (hd : decode code pc = .ok (.if_icmp cd o, 3)) (hc : if_icmp.holds cd x y = true) (ho : 0 ≤ (pc : Int) + o) (hp : ((pc : Int) + o).toNat = pc') (k : own_Ends p e below s G Q kc ks (T.setTop (mkF m pc' Ls St))) : own_Ends p e below s G Q kc ks (T.setTop (mkF m pc Ls (.int y :: .int x :: St))) := own_of (fun _ q => XS.icmpYes X.here hx rfl (pc0 := pc) (pc' := pc') rfl (hb hby hd) rfl hc ho hp q) k
theorem own_ifnullYes (X : Stand p l e R sS m args below meth c T locs cells slots) (hx : p.tables.exec = Jvm.exec) {code : ByteArray} (hby : c.code = code) {Ls : Array Slot} {St : List Value} (pc pc' : Nat) {o : Int}  (hd : decode code pc = .ok (.ifnull o, 3)) (ho : 0 ≤ (pc : Int) + o) (hp : ((pc : Int) + o).toNat = pc') (k : own_Ends p e below s G Q kc ks (T.setTop (mkF m pc' Ls St))) : own_Ends p e below s G Q kc ks (T.setTop (mkF m pc Ls (.null :: St))) := own_of (fun _ q => XS.ifnullYes X.here hx rfl (pc0 := pc) (pc' := pc') rfl (hb hby hd) rfl ho hp q) k
theorem own_ifnonnullYes (X : Stand p l e R sS m args below meth c T locs cells slots) (hx : p.tables.exec = Jvm.exec) {code : ByteArray} (hby : c.code = code) {Ls : Array Slot} {St : List Value} (pc pc' : Nat) {o : Int} {b : Addr} (hd : decode code pc = .ok (.ifnonnull o, 3)) (ho : 0 ≤ (pc : Int) + o) (hp : ((pc : Int) + o).toNat = pc') (k : own_Ends p e below s G Q kc ks (T.setTop (mkF m pc' Ls St))) : own_Ends p e below s G Q kc ks (T.setTop (mkF m pc Ls (.ref b :: St))) := own_of (fun _ q => XT.ifnonnullYes X.here hx rfl (pc0 := pc) (pc' := pc') rfl (hb hby hd) rfl ho hp q) k
theorem own_ifNo (X : Stand p l e R sS m args below meth c T locs cells slots) (hx : p.tables.exec = Jvm.exec) {code : ByteArray} (hby : c.code = code) {pc : Nat} {Ls : Array Slot} {St : List Value} {cd : ClassFile.Cond} {o : Int} {x : Int32} (hd : decode code pc = .ok (.ifCond cd o, 3)) (hc : ifCond.holds cd x = false) (k : own_Ends p e below s G Q kc ks (T.setTop (mkF m (pc + 3) Ls (St)))) : own_Ends p e below s G Q kc ks (T.setTop (mkF m pc Ls (.int x :: St))) := own_of (fun _ q => XS.ifNo X.here hx rfl (hb hby hd) rfl hc q) k
theorem own_icmpNo (X : Stand p l e R sS m args below meth c T locs cells slots) (hx : p.tables.exec = Jvm.exec) {code : ByteArray} (hby : c.code = code) {pc : Nat} {Ls : Array Slot} {St : List Value} {cd : ClassFile.Cond} {o : Int} {x y : Int32} (hd : decode code pc = .ok (.if_icmp cd o, 3)) (hc : if_icmp.holds cd x y = false) (k : own_Ends p e below s G Q kc ks (T.setTop (mkF m (pc + 3) Ls (St)))) : own_Ends p e below s G Q kc ks (T.setTop (mkF m pc Ls (.int y :: .int x :: St))) := own_of (fun _ q => XS.icmpNo X.here hx rfl (hb hby hd) rfl hc q) k
theorem own_ifnullNo (X : Stand p l e R sS m args below meth c T locs cells slots) (hx : p.tables.exec = Jvm.exec) {code : ByteArray} (hby : c.code = code) {pc : Nat} {Ls : Array Slot} {St : List Value} {o : Int} {b : Addr} (hd : decode code pc = .ok (.ifnull o, 3)) (k : own_Ends p e below s G Q kc ks (T.setTop (mkF m (pc + 3) Ls (St)))) : own_Ends p e below s G Q kc ks (T.setTop (mkF m pc Ls (.ref b :: St))) := own_of (fun _ q => XS.ifnullNo X.here hx rfl (hb hby hd) rfl q) k
theorem own_ifnonnullNo (X : Stand p l e R sS m args below meth c T locs cells slots) (hx : p.tables.exec = Jvm.exec) {code : ByteArray} (hby : c.code = code) {pc : Nat} {Ls : Array Slot} {St : List Value} {o : Int} (hd : decode code pc = .ok (.ifnonnull o, 3)) (k : own_Ends p e below s G Q kc ks (T.setTop (mkF m (pc + 3) Ls (St)))) : own_Ends p e below s G Q kc ks (T.setTop (mkF m pc Ls (.null :: St))) := own_of (fun _ q => XT.ifnonnullNo X.here hx rfl (hb hby hd) rfl q) k
end Own2
theorem own_w {Z : State} {a0 : Array Value} (hw : ∀ d ∈ tables_1, d.before a0 Z = true) (i : Nat) {d : Jvm.Cond} (h : tables_1[i]? = some d) : d.before a0 Z = true := hw _ (List.mem_of_getElem? h)
abbrev c_0 := jdk_42_method_152_code
abbrev c_1 := jdk_42_method_154_code
abbrev c_2 := jdk_42_method_54_code
abbrev c_3 := jdk_68_method_68_code
abbrev c_4 := jdk_68_method_64_code
abbrev c_5 := jdk_68_method_6_code
abbrev c_6 := jdk_67_method_93_code
abbrev c_7 := jdk_29_method_69_code
abbrev c_8 := jdk_29_method_65_code
abbrev c_9 := jdk_65_method_131_code
abbrev c_10 := jdk_41_method_11_code
abbrev c_11 := jdk_42_method_155_code
abbrev c_12 := jdk_41_method_12_code
abbrev c_13 := jdk_42_method_158_code
abbrev c_14 := jdk_41_method_13_code
abbrev c_15 := jdk_42_method_157_code
abbrev c_16 := jdk_52_method_6_code
abbrev c_17 := jdk_52_method_91_code
abbrev c_18 := jdk_52_method_94_code
abbrev c_19 := jdk_52_method_93_code
abbrev c_20 := jdk_43_method_3_code
abbrev c_21 := jdk_43_method_4_code
abbrev c_22 := jdk_52_method_3_code
abbrev c_23 := jdk_52_method_2_code
abbrev c_24 := jdk_52_method_4_code
abbrev c_25 := jdk_52_method_71_code
abbrev c_26 := jdk_52_method_5_code
abbrev c_27 := jdk_52_method_86_code
abbrev c_28 := jdk_43_method_50_code
abbrev c_29 := jdk_68_method_11_code
abbrev c_30 := jdk_68_method_9_code
abbrev c_31 := jdk_68_method_71_code
abbrev c_32 := jdk_42_method_147_code
abbrev c_33 := jdk_68_method_73_code
abbrev c_34 := jdk_68_method_22_code
abbrev c_35 := jdk_67_method_7_code
abbrev c_36 := jdk_68_method_31_code
abbrev c_37 := jdk_67_method_14_code
abbrev c_38 := jdk_68_method_2_code
abbrev c_39 := jdk_67_method_1_code
abbrev c_40 := jdk_65_method_133_code
abbrev c_41 := jdk_65_method_132_code
abbrev c_42 := jdk_42_method_151_code
abbrev c_43 := jdk_42_method_150_code
abbrev c_44 := jdk_42_method_53_code
abbrev c_45 := jdk_67_method_42_code
abbrev c_46 := jdk_52_method_21_code
abbrev c_47 := jdk_52_method_14_code
abbrev c_48 := jdk_52_method_16_code
abbrev c_49 := jdk_52_method_15_code
abbrev c_50 := jdk_42_method_149_code
abbrev c_51 := jdk_42_method_3_code
abbrev c_52 := jdk_43_method_46_code
abbrev c_53 := jdk_52_method_24_code
abbrev c_54 := jdk_42_method_139_code
abbrev c_55 := jdk_43_method_23_code
abbrev c_56 := jdk_43_method_22_code
abbrev c_57 := jdk_52_method_48_code
abbrev c_58 := jdk_52_method_47_code
abbrev c_59 := jdk_52_method_40_code
abbrev c_60 := jdk_42_method_80_code
abbrev c_61 := jdk_42_method_79_code
abbrev c_62 := jdk_52_method_22_code
abbrev c_63 := jdk_52_method_17_code
abbrev c_64 := jdk_52_method_69_code
abbrev c_65 := jdk_43_method_47_code
abbrev c_66 := jdk_42_method_92_code
abbrev c_67 := jdk_43_method_13_code
abbrev c_68 := jdk_42_method_66_code
abbrev c_69 := method_2_code
abbrev c_70 := method_3_code
abbrev c_71 := method_4_code
abbrev c_72 := prog_5_method_2_code
abbrev c_73 := prog_5_method_4_code
theorem oV {Z s : State} {a0 args : Array Value} (hZ : Z.Warmed39 s.vm) (hw : ∀ d ∈ tables_1, d.before a0 Z = true) (i : Nat) {d : Jvm.Cond} (h : tables_1[i]? = some d) (hd : (d.onTables && d.keepsFace) = true := by first | rfl | simp [Cond.onTables, Cond.keepsFace, Cond.keeps, Cond.steady]) : d.before args s = true := mvT hZ (own_w hw i h) hd
theorem nT {a b c : Nat} (h : a ≤ b) (k : b ≤ c) : a ≤ c := Nat.le_trans h k
theorem nE {a b : Nat} (h : a = b) : a ≤ b := Nat.le_of_eq h
theorem nL {a b c : Nat} (h : a < b) (k : b ≤ c) : a ≠ c := Nat.ne_of_lt (Nat.lt_of_lt_of_le h k)
theorem oZ {a b : Nat} (h : 2 * 0 + a = b) : 2 * 0 + a ≤ b := Nat.le_of_eq h
abbrev own_M (l : Launch) (y : MethodName) (bytes : ByteArray) (ml : Nat) (rt : Option FieldType) (ws : List Jvm.Cond) (rm : Room) (Z : State) (h0 : Heap) (as' : Array Value) (Q : Option Value → Heap → List Loc → Prop) : Prop := MetFree l y (head1 (Jvm.Cond.code y bytes ml rt :: ws) rm) (fun a U => a = as' ∧ Z.Warmed39 U.vm ∧ U.heap = h0) (fun _ _ _ _ _ => True) (fun _ U o U' => ∃ v L, o = .returned v ∧ Q v U'.heap L ∧ FrameEnd U o U' L rm.cells rm.slots)
theorem own_go {l : Launch} {y : MethodName} {bytes : ByteArray} {ml : Nat} {rt : Option FieldType} {ws : List Jvm.Cond} {rm : Room} {Z : State} {h0 : Heap} {as' : Array Value} {Q : Option Value → Heap → List Loc → Prop} (Ls : Array Slot) (pf : plainFor y = true) (ef : ∀ m, entryFrame m as' ml = mkF m 0 Ls [])
    (k : ∀ (p : Program) (e : Env) (s : State) (m : MethodId) (below : List Frame) (meth : Method) (c : Code) (s₁ : State), p.tables.exec = Jvm.exec → c.code = bytes → c.maxLocals = ml → s.vm.findClass y.cls = some m.cls → meth.name = y.name → meth.locks = false → Stand p l e rm s m as' below meth c s₁ [] 0 0 → s₁.heap = h0 → Z.Warmed39 s.vm → meth.sig.returnType = rt → own_Ends p e below s FrameEnd Q rm.cells rm.slots (s₁.setTop (mkF m 0 Ls []))) : own_M l y bytes ml rt ws rm Z h0 as' Q := by
  refine MetFree.of_bodySF pf hisR ?_
  intro p e s m args below meth c s₁ Bd hml0 hP hK
  obtain ⟨rfl, hZ, hh⟩ := hP
  have e0 : s₁.heap = h0 := by rw [← hh, Bd.state]; rfl
  have q := k p e s m below meth c s₁ Bd.exec Bd.bytes hml0 (findClass_of_methodNamed Bd.named) (name_of_methodNamed Bd.named Bd.method).1 Bd.notSynchronized (Stand.of_body Bd) e0 hZ Bd.returns
  rw [← ef m] at q
  exact q
theorem own_eqk {args : Array Value} {s : State} {t : Term} {k : Int32} (h : (Cond.eq t (.int k)).value args s none s [] = some true) : t.eval args s none [] s = some (.int k) := by
  obtain ⟨x, y, ex, ey, k1, k2⟩ := cmp_v (Or.inl h)
  obtain rfl : y = .int k := (Option.some.inj ((Term.int_eval k).symm.trans ey)).symm
  obtain ⟨z, rfl⟩ := k2
  rw [ex, gotT (Cond.eq_ints ex ey) h]
theorem own_staKeep {Z : State} {h h' : Heap} {C n d : String} {v : Value} {ws : List Addr} (F : Sta Z h C n d v) (K : Keep h h' ws) (q : ∀ x ∈ ws, ∀ c : Cell, h[x]? = some c → c.vm.isStatics = false) : Sta Z h' C n d v := by
  obtain ⟨cf, i, k, f, st, cell, h1, h2, h3, h4, h5, h6, h7⟩ := F
  refine ⟨cf, i, k, f, st, cell, h1, h2, h3, h4, K.2.1 st cell h5 (fun z => ?_), h6, h7⟩
  have := q st z cell h5
  rw [h6] at this; cases this
theorem own_nar2 (x : Int32) : nar .char (nar .char x) = nar .char x := by
  show (x.toUInt32.toUInt16.toUInt32.toInt32).toUInt32.toUInt16.toUInt32.toInt32 = x.toUInt32.toUInt16.toUInt32.toInt32
  have : (x.toUInt32.toUInt16.toUInt32.toInt32).toUInt32 = x.toUInt32.toUInt16.toUInt32 := rfl
  rw [this, UInt16.toUInt16_toUInt32]
def Qv (x : Int32) (h0 : Heap) (n0 : Nat) (v : Option Value) (h : Heap) (L : List Loc) : Prop := v = some (.int x) ∧ Fr n0 L ∧ h = h0
def Qn (h0 : Heap) (n0 : Nat) (v : Option Value) (h : Heap) (L : List Loc) : Prop := v = none ∧ Fr n0 L ∧ h = h0
def own_at (cs : List Int32) (j : Int32) : Int32 := cs.getD j.toNatClampNeg 0
theorem own_at_eq (cs : List Int32) (j : Int32) : (cs.map Value.int).getD j.toNatClampNeg (.int 0) = .int (own_at cs j) := by
  unfold own_at
  simp only [List.getD_eq_getElem?_getD, List.getElem?_map]
  cases cs[j.toNatClampNeg]? <;> rfl
/-- the sign at a place of a String of one-byte signs -/
def own_ch (cs : List Int32) (j : Int32) : Int32 := nar .char (((own_at cs j) &&& 255).toUInt32.toUInt16.toUInt32.toInt32)
def own_gc (x y : Int32) : Int32 := nar .char (((((x &&& 255) <<< ((0 : Int32) &&& 31)) ||| ((y &&& 255) <<< ((8 : Int32) &&& 31))).toUInt32.toUInt16.toUInt32.toInt32))
/-- the sign at a place of a String of two-byte signs -/
def own_chu (cs : List Int32) (j : Int32) : Int32 := own_gc (own_at cs (j <<< ((1 : Int32) &&& 31))) (own_at cs ((j <<< ((1 : Int32) &&& 31)) + 1))
def own_b8 (c : Int32) : Int32 := nar .byte (c.toInt8.toInt32)
def own_lo8 (c : Int32) : Int32 := nar .byte ((c >>> ((0 : Int32) &&& 31)).toInt8.toInt32)
def own_hi8 (c : Int32) : Int32 := nar .byte ((c >>> ((8 : Int32) &&& 31)).toInt8.toInt32)
def own_u16 : List Int32 → List Int32
  | [] => []
  | c :: r => own_lo8 c :: own_hi8 c :: own_u16 r
theorem own_mono {l : Launch} {x : MethodName} {S : Spec} {P : Array Value → State → Prop} {K : Program → Env → List Frame → State → Array Value → Prop} {Q Q' : Array Value → State → Outcome → State → Prop} (h : MetFree l x S P K Q) (hq : ∀ a s o t, Q a s o t → Q' a s o t) : MetFree l x S P K Q' := fun p e ha hc hk s m args below hf happ hP hK => by
  obtain ⟨n, o, h1, h2, h3, h4⟩ := h p e ha hc hk s m args below hf happ hP hK
  exact ⟨n, o, h1, h2, h3, hq _ _ _ _ h4⟩
theorem own_char_bd (x : Int32) : 0 ≤ (nar .char x).toInt ∧ (nar .char x).toInt < 65536 := by
  have e : (nar .char x).toBitVec.toNat = (x.toUInt32.toUInt16).toNat := by
    show (x.toUInt32.toUInt16.toUInt32).toNat = _
    rw [UInt16.toNat_toUInt32]
  have h := (x.toUInt32.toUInt16).toNat_lt
  have q : (nar .char x).toInt = ((nar .char x).toBitVec.toNat : Int) := by
    show (nar .char x).toBitVec.toInt = _
    rw [BitVec.toInt_eq_toNat_cond, if_pos (by omega)]
  omega
theorem own_nat {x : Int32} (h1 : 0 ≤ x.toInt) : x.toInt = (x.toBitVec.toNat : Int) := by
  have e : x.toInt = x.toBitVec.toInt := rfl
  rw [e] at h1 ⊢
  rw [BitVec.toInt_eq_toNat_cond] at h1 ⊢
  have := x.toBitVec.isLt
  split at h1 <;> rename_i hc
  · rw [if_pos hc]
  · omega
theorem own_toc {x : Int32} (h1 : 0 ≤ x.toInt) (h2 : x.toInt < 65536) : x.toUInt32.toUInt16.toUInt32.toInt32 = x := by
  apply Int32.toInt_inj.mp
  have e1 := own_nat h1
  have e3 : (x.toUInt32.toUInt16.toUInt32.toInt32).toBitVec.toNat = x.toBitVec.toNat % 65536 := by
    show (x.toUInt32.toUInt16.toUInt32).toNat = _
    rw [UInt16.toNat_toUInt32, UInt32.toNat_toUInt16]
    rfl
  have e4 : x.toBitVec.toNat < 65536 := by omega
  show (x.toUInt32.toUInt16.toUInt32.toInt32).toBitVec.toInt = x.toInt
  rw [BitVec.toInt_eq_toNat_cond, e3, Nat.mod_eq_of_lt e4, if_pos (by omega), e1]
theorem own_nar_i2c (x : Int32) : nar .char (x.toUInt32.toUInt16.toUInt32.toInt32) = x.toUInt32.toUInt16.toUInt32.toInt32 := own_nar2 x
/-- a byte's sign, masked: the low eight bits of what was narrowed -/
theorem own_mask8 (c : Int32) : (nar .byte (c.toInt8.toInt32)) &&& 255 = c &&& 255 := by
  apply Int32.toBitVec_inj.mp
  show ((c.toInt8.toInt32).toInt8.toInt32).toBitVec &&& (255 : Int32).toBitVec = c.toBitVec &&& (255 : Int32).toBitVec
  rw [Int8.toInt8_toInt32]
  show (c.toBitVec.signExtend 8).signExtend 32 &&& 255#32 = c.toBitVec &&& 255#32
  apply BitVec.eq_of_getLsbD_eq
  intro i hi
  simp only [BitVec.getLsbD_and, BitVec.getLsbD_signExtend]
  by_cases h8 : i < 8
  · simp [h8, hi] <;> omega
  · have : (255#32).getLsbD i = false := by
      rw [show (255#32) = BitVec.ofNat 32 (2 ^ 8 - 1) from rfl, BitVec.getLsbD_ofNat, Nat.testBit_two_pow_sub_one]
      simp [h8]
    simp [this]
theorem own_and255 {c : Int32} (h1 : 0 ≤ c.toInt) (h2 : ¬ ((255 : Int32) < c)) : c &&& 255 = c := by
  apply Int32.toInt_inj.mp
  rw [Jvm.Kit.i32_mask c 255 (k := 8) (by decide) (by decide)]
  rw [Int32.lt_iff_toInt_lt, show (255 : Int32).toInt = 255 by decide] at h2
  omega
theorem own_ch_eq {c : Int32} (h : 0 ≤ c.toInt ∧ c.toInt < 65536) (h2 : ¬ ((255 : Int32) < c)) : nar .char (((own_b8 c) &&& 255).toUInt32.toUInt16.toUInt32.toInt32) = c := by
  have e : own_b8 c &&& 255 = c := (own_mask8 c).trans (own_and255 h.1 h2)
  rw [e, own_toc h.1 h.2]
  exact own_toc h.1 h.2
theorem own_gc_eq {c : Int32} (h : 0 ≤ c.toInt ∧ c.toInt < 65536) : own_gc (own_lo8 c) (own_hi8 c) = c := by
  have e1 : own_lo8 c &&& 255 = (c >>> ((0 : Int32) &&& 31)) &&& 255 := own_mask8 _
  have e2 : own_hi8 c &&& 255 = (c >>> ((8 : Int32) &&& 31)) &&& 255 := own_mask8 _
  have k0 : (((0 : Int32) &&& 31).toBitVec.smod 32).toNat = 0 := by decide
  have k8 : (((8 : Int32) &&& 31).toBitVec.smod 32).toNat = 8 := by decide
  have s0 : c >>> ((0 : Int32) &&& 31) = c := by
    apply Int32.toInt_inj.mp
    rw [Jvm.Kit.i32_shr c _ k0]; omega
  have m0 := Jvm.Kit.i32_mask c 255 (k := 8) (by decide) (by decide)
  have s8 := Jvm.Kit.i32_shr c ((8 : Int32) &&& 31) k8
  have m8 := Jvm.Kit.i32_mask (c >>> ((8 : Int32) &&& 31)) 255 (k := 8) (by decide) (by decide)
  have l0 : ((c &&& 255) <<< ((0 : Int32) &&& 31)) = c &&& 255 := by
    apply Int32.toInt_inj.mp
    rw [Jvm.Kit.i32_shl _ _ k0 (by omega) (by omega)]; omega
  have l8 := Jvm.Kit.i32_shl ((c >>> ((8 : Int32) &&& 31)) &&& 255) ((8 : Int32) &&& 31) k8 (by omega) (by omega)
  unfold own_gc
  rw [e1, e2, s0, l0]
  have key : ((c &&& 255) ||| (((c >>> ((8 : Int32) &&& 31)) &&& 255) <<< ((8 : Int32) &&& 31))) = c := by
    generalize hx : (c &&& 255) = x at *
    generalize hy : (((c >>> ((8 : Int32) &&& 31)) &&& 255) <<< ((8 : Int32) &&& 31)) = y at *
    have nx : 0 ≤ x.toInt := by omega
    have ny : 0 ≤ y.toInt := by omega
    have ex := own_nat nx
    have ey := own_nat ny
    have ec := own_nat h.1
    apply Int32.toBitVec_inj.mp
    apply BitVec.eq_of_toNat_eq
    show (x.toBitVec ||| y.toBitVec).toNat = c.toBitVec.toNat
    rw [BitVec.toNat_or]
    have d : y.toBitVec.toNat = 2 ^ 8 * (y.toBitVec.toNat / 256) := by omega
    have lx : x.toBitVec.toNat < 2 ^ 8 := by omega
    rw [d, Nat.or_comm, ← Nat.two_pow_add_eq_or_of_lt lx]
    omega
  rw [key, own_toc h.1 h.2]
  exact own_toc h.1 h.2
/-- a String at a, its signs cs: one byte a sign (z of them, no sign above 255), or two (z2 bytes) -/
def own_Str (Z : State) (h : Heap) (a : Addr) (z z2 : Int32) (cs : List Int32) : Prop := Exa Z h a "java/lang/String" ∧ ∃ (b : Addr) (kb : ClassId), Fld Z h a "java/lang/String" "value" "[B" (.ref b) ∧
  ((Fld Z h a "java/lang/String" "coder" "B" (.int 0) ∧ Arv Z h b kb .byte z ((cs.map own_b8).map Value.int) (.int 0) ∧ ∀ c ∈ cs, ¬ ((255 : Int32) < c)) ∨
   (Fld Z h a "java/lang/String" "coder" "B" (.int 1) ∧ Arv Z h b kb .byte z2 ((own_u16 cs).map Value.int) (.int 0)))
theorem own_notFace {s : State} {args : Array Value} {C : String} {y w : MethodName} (ws : (Cond.selects C w w).before args s = true) (hc : w.cls = y.cls) : NotFace s y := fun r0 h0 => by
  obtain ⟨c2, r2, m2, q1, q2, q3, q4, kP, hkP, hkPi⟩ := Cond.selects_spec ws
  have f1 := findClass_of_methodNamed h0
  have f2 := findClass_of_methodNamed q3
  rw [hc, f1] at f2
  have e : r0.cls = m2.cls := Option.some.inj f2
  exact ⟨kP, by rw [e]; exact hkP, hkPi⟩
theorem own_selQ {Z : State} {a0 : Array Value} {C : String} {y : MethodName} (ws : (Cond.selects C y y).before a0 Z = true) (wp : (Cond.privateMethod y).before a0 Z = true) (wm : (Cond.instanceMethod y).before a0 Z = true) (hy : y.cls ≠ "java/lang/invoke/MethodHandle" ∧ y.cls ≠ "java/lang/invoke/VarHandle") : (Cond.selects y.cls y y).before a0 Z = true := by
  obtain ⟨c2, r2, m2, q1, q2, q3, q4, kP, hkP, hkPi⟩ := Cond.selects_spec ws
  exact selects_self_of_private (findClass_of_methodNamed q3) hkP hkPi (Cond.privateMethod_at wp) wm hy
theorem own_sameM {Z : State} {a0 : Array Value} {C : String} {y w : MethodName} (wd : (Cond.declares y).before a0 Z = true) (ws : (Cond.selects C w w).before a0 Z = true) (hc : w.cls = y.cls) (hy : y.cls ≠ "java/lang/invoke/MethodHandle" ∧ y.cls ≠ "java/lang/invoke/VarHandle") : (Cond.sameMethod y.cls y.cls y.name y.desc).before a0 Z = true := by
  obtain ⟨m, meth, hn, -, -, -⟩ := Cond.declares_spec wd
  obtain ⟨c2, r2, m2, q1, q2, q3, q4, kP, hkP, hkPi⟩ := Cond.selects_spec ws
  have f1 := findClass_of_methodNamed hn
  have f2 := findClass_of_methodNamed q3
  rw [hc, f1] at f2
  have f3 : m.cls = m2.cls := Option.some.inj f2
  have e := State.methodFound?_of_named hn hy
  have hn' : Z.methodNamed? ⟨y.cls, y.name, y.desc⟩ = some m := hn
  simp [Cond.before, Cond.holds, Cond.value, f1, e, hn', f3, hkP, hkPi]
section OwnClone
variable {p : Program} {l : Launch} {e : Env} {R : Room} {s : State} {m : MethodId} {args : Array Value} {below : List Frame} {meth : Method} {c : Code} {T : State} {locs : List Loc} {cells slots : Nat} {Z : State} {h : Heap} {a : Addr} {ty : FieldType}
theorem own_cloneV (X : Stand p l e R s m args below meth c T locs cells slots) (hx : p.tables.exec = Jvm.exec) (hZ : Z.Warmed39 s.vm) {a0 : Array Value} {own ad : String} {index : Nat} (hown : s.vm.findClass own = some m.cls)
    (w1 : (Cond.methodLink own index ⟨ad, "clone", "()Ljava/lang/Object;"⟩).before a0 Z = true) (w2 : (Cond.sameMethod ad "java/lang/Object" "clone" "()Ljava/lang/Object;").before a0 Z = true) (w3 : (Cond.native ⟨"java/lang/Object", "clone", "()Ljava/lang/Object;"⟩).before a0 Z = true)
    (w4 : (Cond.instanceMethod ⟨"java/lang/Object", "clone", "()Ljava/lang/Object;"⟩).before a0 Z = true) (w5 : (Cond.selects ad ⟨ad, "clone", "()Ljava/lang/Object;"⟩ ⟨"java/lang/Object", "clone", "()Ljava/lang/Object;"⟩).before a0 Z = true) (w6 : (Cond.castable ad "java/lang/Cloneable").before a0 Z = true)
    (eT : T.heap = h) {k : ClassId} {z : Int32} {vs : List Value} {dv : Value} (F : Arv Z h a k ty z vs dv) (E : Exa Z h a ad) {g : JFrame} (hg : g.method = m) (hsize : g.locals.size = c.maxLocals) {rest : List Value} (hst : g.stack = .ref a :: rest) (hd : decode c.code g.pc = .ok (.invokevirtual index, 3))
    (hf : 1 ≤ R.frames) {W cap : Nat} (hW : 2 * g.monitorRoom + (rest.map fun v => v.category).sum ≤ W) (hl : W + 14 ≤ R.locals) (hcap : z.toNatClampNeg ≤ cap) (hc : cells + 1 ≤ R.cells) (hsl : slots + cap ≤ R.slots) :
    ∃ T' h', Stand p l e R s m args below meth c T' locs (cells + 1) (slots + cap) ∧ T'.heap = h' ∧ Ext h h' ∧ Arv Z h' h.size k ty z vs dv ∧ Exa Z h' h.size ad ∧
      ∀ target, Steps p.tables e below (T'.setTop { g with pc := g.pc + 3, stack := .ref h.size :: rest }) target → Steps p.tables e below (T.setTop g) target := by
  obtain ⟨cl, A, q1, S, q3, H, G⟩ := F
  have FC : FitC Z cl := fitC_of A fun i hi v hv => by rw [H i hi] at hv; cases hv; exact G i hi
  obtain ⟨T', h', X', e', ex, A', E', st⟩ := cloneA X hx hZ hown w1 w2 w3 w4 w5 w6 eT A E FC hg hsize hst hd hf hW hl (by rw [S]; exact hcap) hc hsl
  exact ⟨T', h', X', e', ex, ⟨cloneOf cl, A', q1, S, q3, H, G⟩, E', st⟩
end OwnClone
theorem own_neor {o b b' : Addr} {n : Nat} (h : b = b' ∨ n ≤ b') (h1 : o ≠ b) (h2 : o < n) : o ≠ b' := by
  rcases h with rfl | h
  · exact h1
  · exact Nat.ne_of_lt (Nat.lt_of_lt_of_le h2 h)
def own_lat (cs : List Int32) : Prop := ∀ c ∈ cs, ¬ ((255 : Int32) < c)
def own_chs (cs : List Int32) : Prop := ∀ c ∈ cs, 0 ≤ c.toInt ∧ c.toInt < 65536
theorem own_u16_app : ∀ (a b : List Int32), own_u16 (a ++ b) = own_u16 a ++ own_u16 b
  | [], _ => rfl
  | c :: r, b => by show own_lo8 c :: own_hi8 c :: own_u16 (r ++ b) = _; rw [own_u16_app r b]; rfl
theorem own_u16_len : ∀ a : List Int32, (own_u16 a).length = 2 * a.length
  | [] => rfl
  | c :: r => by show (own_u16 r).length + 1 + 1 = 2 * (r.length + 1); rw [own_u16_len r]; omega
theorem own_u16_at : ∀ (cs : List Int32) (j : Nat), j < cs.length → (own_u16 cs).getD (2 * j) 0 = own_lo8 (cs.getD j 0) ∧ (own_u16 cs).getD (2 * j + 1) 0 = own_hi8 (cs.getD j 0)
  | c :: r, 0, _ => ⟨rfl, rfl⟩
  | c :: r, j + 1, h => by
    have q := own_u16_at r j (Nat.lt_of_succ_lt_succ h)
    rw [show 2 * (j + 1) = 2 * j + 1 + 1 by omega]
    exact q
theorem own_latapp {a b : List Int32} : own_lat (a ++ b) ↔ own_lat a ∧ own_lat b := by
  unfold own_lat
  exact ⟨fun h => ⟨fun c hc => h c (List.mem_append.mpr (Or.inl hc)), fun c hc => h c (List.mem_append.mpr (Or.inr hc))⟩, fun h c hc => (List.mem_append.mp hc).elim (h.1 c) (h.2 c)⟩
theorem own_chsapp {a b : List Int32} (h1 : own_chs a) (h2 : own_chs b) : own_chs (a ++ b) := fun c hc => (List.mem_append.mp hc).elim (h1 c) (h2 c)
theorem own_shr0 (z : Int32) : z >>> ((0 : Int32) &&& 31) = z := by
  apply Int32.toInt_inj.mp
  rw [c_ishr z 0 0 (by decide)]
  simp
theorem own_shl0 (z : Int32) : z <<< ((0 : Int32) &&& 31) = z := by
  have h := c_ishl z 0 0 (by decide)
  have r1 := rng32 z
  have r2 := rng32 (z <<< ((0 : Int32) &&& 31))
  apply Int32.toInt_inj.mp
  generalize (z <<< ((0 : Int32) &&& 31)).toInt = w at *
  rw [show ((2 ^ 0 : Nat) : Int) = 1 from rfl] at h
  omega
theorem own_half (z : Int32) : (z >>> ((1 : Int32) &&& 31)).toInt = z.toInt / 2 := by
  rw [c_ishr z 1 1 (by decide)]; rfl
theorem own_dbl {n : Int32} (h0 : 0 ≤ n.toInt) (h1 : n.toInt ≤ 1000000) : (n <<< ((1 : Int32) &&& 31)).toInt = 2 * n.toInt := by
  have h := c_ishl n 1 1 (by decide)
  have r2 := rng32 (n <<< ((1 : Int32) &&& 31))
  rw [show ((2 ^ 1 : Nat) : Int) = 2 from rfl] at h
  omega
theorem own_sub0 (z : Int32) : z - (0 : Int32) = z := Int32.sub_zero z
theorem own_add0 (z : Int32) : (0 : Int32) + z = z := Int32.zero_add z
def own_min (x y : Int32) : Int32 := if y < x then y else x
def own_max (x y : Int32) : Int32 := if x < y then y else x
theorem own_i0 : (0 : Int32).toInt = 0 := by decide
theorem own_i1 : (1 : Int32).toInt = 1 := by decide
theorem own_i16 : (16 : Int32).toInt = 16 := by decide
theorem own_i32 : (32 : Int32).toInt = 32 := by decide
theorem own_i255 : (255 : Int32).toInt = 255 := by decide
theorem own_ge0 {x : Int32} (h : 0 ≤ x.toInt) : ¬ (x < (0 : Int32)) := by rw [Int32.lt_iff_toInt_lt, own_i0]; omega
theorem own_ltI {x y : Int32} : x < y ↔ x.toInt < y.toInt := Int32.lt_iff_toInt_lt
theorem own_clamp {x : Int32} {n : Nat} (h : x.toInt = n) : x.toNatClampNeg = n := by simp only [Int32.toNatClampNeg, h]; rfl
theorem own_leN {x : Int32} {n : Nat} (h : (n : Int) ≤ x.toInt) : n ≤ x.toNatClampNeg := by
  simp only [Int32.toNatClampNeg]; omega
theorem own_Nle {x : Int32} {n : Nat} (h : x.toInt ≤ (n : Int)) : x.toNatClampNeg ≤ n := by
  simp only [Int32.toNatClampNeg]; omega
theorem own_z0 : (0 : Int32).toNatClampNeg = 0 := rfl
theorem own_addI {x y : Int32} (h1 : -2147483648 ≤ x.toInt + y.toInt) (h2 : x.toInt + y.toInt < 2147483648) : (x + y).toInt = x.toInt + y.toInt := by
  have h := c_iadd x y
  have r := rng32 (x + y)
  omega
theorem own_subI {x y : Int32} (h1 : -2147483648 ≤ x.toInt - y.toInt) (h2 : x.toInt - y.toInt < 2147483648) : (x - y).toInt = x.toInt - y.toInt := by
  have h := c_isub x y
  have r := rng32 (x - y)
  omega
theorem own_inc {x : Int32} {j : Nat} (h : x.toInt = j) (hj : j ≤ 1000000) : (x + (1 : Int32)).toInt = ((j + 1 : Nat) : Int) := by
  rw [own_addI (by rw [own_i1]; omega) (by rw [own_i1]; omega), own_i1]; omega
theorem own_minr {x y : Int32} (h : y.toInt ≤ x.toInt) : own_min x y = y := by
  unfold own_min
  split
  · rfl
  · rename_i q
    apply Int32.toInt_inj.mp
    rw [own_ltI] at q; omega
theorem own_minl {x y : Int32} (h : x.toInt ≤ y.toInt) : own_min x y = x := by
  unfold own_min
  rw [if_neg (by rw [own_ltI]; omega)]
theorem own_max0 {x : Int32} (h : 0 ≤ x.toInt) : own_max x (0 : Int32) = x := by
  unfold own_max
  rw [if_neg (by rw [own_ltI, own_i0]; omega)]
theorem own_padk (cs : List Int32) (k : Nat) : ∀ i, (List.map Value.int (cs ++ List.replicate k (0 : Int32))).getD i (.int 0) = (List.map Value.int cs).getD i (.int 0) := by
  rw [List.map_append, List.map_replicate]; exact pad_rep _ _ _
/-- what a copy of the first n of bs behind cs holds -/
theorem own_cp (cs bs : List Int32) (k n : Nat) (i : Nat) : (List.map Value.int (cs ++ bs.take n)).getD i (.int 0) = (((List.map Value.int (cs ++ List.replicate k (0 : Int32))).take cs.length) ++ ((List.range n).map fun j => (List.map Value.int bs).getD (0 + j) (.int 0)) ++ ((List.map Value.int (cs ++ List.replicate k (0 : Int32))).drop (cs.length + n))).getD i (.int 0) := by
  have e1 : (List.map Value.int (cs ++ List.replicate k (0 : Int32))).take cs.length = List.map Value.int cs := by
    rw [List.map_append, List.take_append_of_le_length (by rw [List.length_map]; exact Nat.le_refl _), List.take_of_length_le (by rw [List.length_map]; exact Nat.le_refl _)]
  have e2 : (List.map Value.int (cs ++ List.replicate k (0 : Int32))).drop (cs.length + n) = List.replicate (k - n) (.int 0) := by
    rw [List.map_append, List.map_replicate, List.drop_append, List.drop_of_length_le (by rw [List.length_map]; omega), List.nil_append, List.length_map, List.drop_replicate]
    congr 1; omega
  rw [e1, e2, pad_rep, List.map_append]
  simp only [List.getD_eq_getElem?_getD]
  by_cases h1 : i < (List.map Value.int cs).length
  · rw [List.getElem?_append_left h1, List.getElem?_append_left h1]
  · rw [List.getElem?_append_right (Nat.le_of_not_lt h1), List.getElem?_append_right (Nat.le_of_not_lt h1), List.getElem?_map, List.getElem?_map]
    by_cases h2 : i - (List.map Value.int cs).length < n
    · rw [List.getElem?_range h2, List.getElem?_take_of_lt h2]; simp [List.getElem?_map]
    · rw [List.getElem?_eq_none (l := bs.take n) (by rw [List.length_take]; omega), List.getElem?_eq_none (l := List.range n) (by rw [List.length_range]; omega)]; rfl
theorem own_cpI (cs bs : List Int32) {sp dp nn : Int32} (hs : sp.toNatClampNeg = 0) (hp : dp.toNatClampNeg = cs.length) : ∀ i, (List.map Value.int (cs ++ bs.take nn.toNatClampNeg)).getD i (.int 0) = (((List.map Value.int (cs ++ List.replicate nn.toNatClampNeg (0 : Int32))).take dp.toNatClampNeg) ++ ((List.range nn.toNatClampNeg).map fun j => (List.map Value.int bs).getD (sp.toNatClampNeg + j) (.int 0)) ++ ((List.map Value.int (cs ++ List.replicate nn.toNatClampNeg (0 : Int32))).drop (dp.toNatClampNeg + nn.toNatClampNeg))).getD i (.int 0) := by
  rw [hs, hp]; exact own_cp cs bs _ _
theorem own_cpl (cs : List Int32) {dp nn : Int32} (hp : dp.toNatClampNeg = cs.length) : dp.toNatClampNeg + nn.toNatClampNeg ≤ (List.map Value.int (cs ++ List.replicate nn.toNatClampNeg (0 : Int32))).length := by
  rw [List.length_map, List.length_append, List.length_replicate, hp]; exact Nat.le_refl _
/-- how the byte[] at b keeps the signs cs -/
def own_Rep (Z : State) (h : Heap) (b : Addr) (kb : ClassId) (cd z : Int32) (cs : List Int32) : Prop := (cd = 0 ∧ own_lat cs ∧ z.toInt = cs.length ∧ Arv Z h b kb .byte z (List.map Value.int (List.map own_b8 cs)) (.int 0)) ∨ (cd = 1 ∧ ¬ own_lat cs ∧ z.toInt = 2 * (cs.length : Int) ∧ Arv Z h b kb .byte z (List.map Value.int (own_u16 cs)) (.int 0))
/-- a String at a, its signs cs; its objects lie below n -/
def own_S2 (Z : State) (h : Heap) (n : Nat) (a : Addr) (cs : List Int32) : Prop := ∃ (b : Addr) (kb : ClassId) (cd z : Int32), a < n ∧ b < n ∧ Exa Z h a "java/lang/String" ∧ Fld Z h a "java/lang/String" "coder" "B" (.int cd) ∧ Fld Z h a "java/lang/String" "value" "[B" (.ref b) ∧ own_Rep Z h b kb cd z cs
theorem own_Repkeep {Z : State} {h h' : Heap} {b : Addr} {kb : ClassId} {cd z : Int32} {cs : List Int32} {ws : List Addr} (O : own_Rep Z h b kb cd z cs) (K : Keep h h' ws) (q : b ∉ ws) : own_Rep Z h' b kb cd z cs := by
  rcases O with ⟨a1, a2, a3, V⟩ | ⟨a1, a2, a3, V⟩
  · exact Or.inl ⟨a1, a2, a3, V.keep K q⟩
  · exact Or.inr ⟨a1, a2, a3, V.keep K q⟩
theorem own_S2keep {Z : State} {h h' : Heap} {n : Nat} {a : Addr} {cs : List Int32} {ws : List Addr} (O : own_S2 Z h n a cs) (K : Keep h h' ws) (q : ∀ x ∈ ws, n ≤ x) : own_S2 Z h' n a cs := by
  obtain ⟨b, kb, cd, z, la, lb, E, C, F, R⟩ := O
  exact ⟨b, kb, cd, z, la, lb, E.keep K, C.keep K (fun m => absurd (q a m) (Nat.not_le.mpr la)), F.keep K (fun m => absurd (q a m) (Nat.not_le.mpr la)), own_Repkeep R K (fun m => absurd (q b m) (Nat.not_le.mpr lb))⟩
theorem own_S2ext {Z : State} {h h' : Heap} {n : Nat} {a : Addr} {cs : List Int32} (O : own_S2 Z h n a cs) (E' : Ext h h') : own_S2 Z h' n a cs := by
  obtain ⟨b, kb, cd, z, la, lb, E, C, F, R⟩ := O
  refine ⟨b, kb, cd, z, la, lb, E.ext E', C.ext E', F.ext E', ?_⟩
  rcases R with ⟨a1, a2, a3, V⟩ | ⟨a1, a2, a3, V⟩
  · exact Or.inl ⟨a1, a2, a3, V.ext E'⟩
  · exact Or.inr ⟨a1, a2, a3, V.ext E'⟩
theorem own_S2mono {Z : State} {h : Heap} {n n' : Nat} {a : Addr} {cs : List Int32} (O : own_S2 Z h n a cs) (q : n ≤ n') : own_S2 Z h n' a cs := by
  obtain ⟨b, kb, cd, z, la, lb, r⟩ := O
  exact ⟨b, kb, cd, z, Nat.lt_of_lt_of_le la q, Nat.lt_of_lt_of_le lb q, r⟩
theorem own_S2exa {Z : State} {h : Heap} {n : Nat} {a : Addr} {cs : List Int32} (O : own_S2 Z h n a cs) : Exa Z h a "java/lang/String" := by
  obtain ⟨b, kb, cd, z, la, lb, E, r⟩ := O
  exact E
/-- the coder and the array of a StringBuilder -/
def own_C (Z : State) (h : Heap) (a b : Addr) (cs : List Int32) : Prop := ∃ kb : ClassId, (own_lat cs ∧ Fld Z h a "java/lang/AbstractStringBuilder" "coder" "B" (.int 0) ∧ Arv Z h b kb .byte (16 : Int32) (List.map Value.int (List.map own_b8 cs)) (.int 0)) ∨ (¬ own_lat cs ∧ Fld Z h a "java/lang/AbstractStringBuilder" "coder" "B" (.int 1) ∧ Arv Z h b kb .byte (32 : Int32) (List.map Value.int (own_u16 cs)) (.int 0))
theorem own_Cnostat {Z : State} {h : Heap} {a b : Addr} {cs : List Int32} (C : own_C Z h a b cs) : ∀ cell : Cell, h[b]? = some cell → cell.vm.isStatics = false := by
  obtain ⟨kb, ⟨lt, F, V⟩ | ⟨lt, F, V⟩⟩ := C
  · exact V.nostat
  · exact V.nostat
/-- a StringBuilder at a, its array at b, its signs cs -/
def own_B (Z : State) (h : Heap) (a b : Addr) (cs : List Int32) : Prop := ∃ n : Int32, Exa Z h a "java/lang/StringBuilder" ∧ Fld Z h a "java/lang/AbstractStringBuilder" "value" "[B" (.ref b) ∧ Fld Z h a "java/lang/AbstractStringBuilder" "count" "I" (.int n) ∧ Fld Z h a "java/lang/AbstractStringBuilder" "maybeLatin1" "Z" (.int 0) ∧ own_C Z h a b cs ∧ n.toInt = cs.length ∧ own_chs cs
theorem own_Bnostat {Z : State} {h : Heap} {a b : Addr} {cs : List Int32} (B : own_B Z h a b cs) : ∀ cell : Cell, h[b]? = some cell → cell.vm.isStatics = false := by
  obtain ⟨n, E, F1, F2, F3, C, r⟩ := B
  exact own_Cnostat C
theorem own_bmask {c : Int32} (h : 0 ≤ c.toInt ∧ c.toInt < 65536) (h2 : ¬ ((255 : Int32) < c)) : own_b8 c &&& (255 : Int32) = c := (own_mask8 c).trans (own_and255 h.1 h2)
theorem own_atN {cs : List Int32} {x : Int32} {j : Nat} (h : x.toInt = j) : own_at cs x = cs.getD j 0 := by unfold own_at; rw [own_clamp h]
theorem own_atb {us : List Int32} {x : Int32} {j : Nat} (h : x.toInt = j) (hj : j < us.length) : own_at (List.map own_b8 us) x = own_b8 (us.getD j 0) := by
  unfold own_at
  rw [own_clamp h, List.getD_eq_getElem?_getD, List.getD_eq_getElem?_getD, List.getElem?_map, List.getElem?_eq_getElem hj]; rfl
theorem own_getmem {cs : List Int32} {j : Nat} (hj : j < cs.length) : cs.getD j 0 ∈ cs := by
  rw [List.getD_eq_getElem?_getD, List.getElem?_eq_getElem hj]; exact List.getElem_mem hj
theorem own_take1 {cs : List Int32} {j : Nat} (hj : j < cs.length) : cs.take j ++ [cs.getD j 0] = cs.take (j + 1) := by
  rw [List.getD_eq_getElem?_getD, List.take_add_one, List.getElem?_eq_getElem hj]; rfl
theorem own_chu_at {cs : List Int32} {x : Int32} {j : Nat} (h : x.toInt = j) (hj : j < cs.length) (hc : own_chs cs) (hl : cs.length ≤ 100000) : own_chu (own_u16 cs) x = cs.getD j 0 := by
  have d := own_dbl (n := x) (by omega) (by omega)
  have d1 := own_addI (x := x <<< ((1 : Int32) &&& 31)) (y := 1) (by rw [own_i1]; omega) (by rw [own_i1]; omega)
  have q := own_u16_at cs j hj
  unfold own_chu own_at
  rw [own_clamp (n := 2 * j) (by rw [d, h]; omega), own_clamp (n := 2 * j + 1) (by rw [d1, d, h, own_i1]; omega), q.1, q.2]
  exact own_gc_eq (hc _ (own_getmem hj))
theorem own_lattake {cs : List Int32} (h : own_lat cs) (j : Nat) : own_lat (cs.take j) := fun c hc => h c (List.mem_of_mem_take hc)
theorem own_chstake {cs : List Int32} (h : own_chs cs) (j : Nat) : own_chs (cs.take j) := fun c hc => h c (List.mem_of_mem_take hc)
theorem own_u16_take : ∀ (cs : List Int32) (j : Nat), (own_u16 cs).take (2 * j) = own_u16 (cs.take j)
  | [], j => by simp [own_u16]
  | c :: r, 0 => rfl
  | c :: r, j + 1 => by
    rw [show 2 * (j + 1) = 2 * j + 1 + 1 by omega]
    show own_lo8 c :: own_hi8 c :: (own_u16 r).take (2 * j) = own_lo8 c :: own_hi8 c :: own_u16 (r.take j)
    rw [own_u16_take r j]
theorem own_setR (cs ds : List Int32) (n : Nat) (d : Int32) : (cs ++ (List.replicate (n + 1) (0 : Int32) ++ ds)).set (cs.length + n) d = cs ++ (List.replicate n (0 : Int32) ++ d :: ds) := by
  rw [List.set_append_right _ _ (by omega), Nat.add_sub_cancel_left]
  congr 1
  rw [List.set_append_left _ _ (by rw [List.length_replicate]; omega), List.replicate_succ', List.set_append_right _ _ (by rw [List.length_replicate]; exact Nat.le_refl _), List.length_replicate, Nat.sub_self, List.append_assoc]
  rfl
theorem own_cfz (z : Int32) : nar .byte ((XT.ushr (z - z) (31 : Int32)).toInt8.toInt32) = 0 := by
  rw [Int32.sub_self]; decide
theorem own_nog {x : Int32} (h0 : 0 ≤ x.toInt) (h1 : x.toInt ≤ 16) : ¬ ((0 : Int32) < (x - (16 : Int32))) := by
  rw [own_ltI, own_subI (by rw [own_i16]; omega) (by rw [own_i16]; omega), own_i0, own_i16]; omega
theorem own_Cwr {Z : State} {h h' : Heap} {a b : Addr} {cs : List Int32} {sl : Nat} {v : Value} (C : own_C Z h a b cs) (W : Wr h h' a sl v) (hc : ∀ v0 : Value, Fld Z h a "java/lang/AbstractStringBuilder" "coder" "B" v0 → Fld Z h' a "java/lang/AbstractStringBuilder" "coder" "B" v0) (hb : b ≠ a) : own_C Z h' a b cs := by
  obtain ⟨kb, ⟨lt, F, V⟩ | ⟨lt, F, V⟩⟩ := C
  · exact ⟨kb, Or.inl ⟨lt, hc _ F, V.other W hb⟩⟩
  · exact ⟨kb, Or.inr ⟨lt, hc _ F, V.other W hb⟩⟩
theorem own_Bexa {Z : State} {h : Heap} {a b : Addr} {cs : List Int32} (B : own_B Z h a b cs) : Exa Z h a "java/lang/StringBuilder" := by
  obtain ⟨n, E, r⟩ := B
  exact E
theorem own_Replt {Z : State} {h : Heap} {b : Addr} {kb : ClassId} {cd z : Int32} {cs : List Int32} (O : own_Rep Z h b kb cd z cs) : b < h.size := by
  rcases O with ⟨a1, a2, a3, V⟩ | ⟨a1, a2, a3, V⟩
  · exact V.lt
  · exact V.lt
theorem own_taket {bs : List Int32} {x : Int32} {t : Nat} (h : x.toInt = t) : bs.take x.toNatClampNeg = bs.take t := by rw [own_clamp h]
theorem own_58b : (58 : Int32).toInt8.toInt32 = own_b8 (58 : Int32) := by decide
theorem own_b8c (c : Int32) : nar .byte (c.toInt8.toInt32) = own_b8 c := rfl
theorem own_take1b {cs : List Int32} {j : Nat} (hj : j < cs.length) : List.map own_b8 (cs.take j) ++ (List.replicate 0 (0 : Int32) ++ own_b8 (cs.getD j 0) :: []) = List.map own_b8 (cs.take (j + 1)) := by
  rw [← own_take1 hj, List.map_append]; rfl
theorem own_cf1 {z n : Int32} {c : Nat} (hz : z.toInt = 2 * (c : Int)) (hn : n.toInt = c) (h1 : 1 ≤ c) (h2 : c ≤ 1000) : nar .byte ((XT.ushr (n - z) (31 : Int32)).toInt8.toInt32) = 1 := by
  have e := own_subI (x := n) (y := z) (by omega) (by omega)
  have u := c_iushr (n - z) 31 31 (by decide) (by decide)
  have r : (XT.ushr (n - z) (31 : Int32)).toInt = 1 := by
    show (((n - z).toUInt32 >>> ((31 : Int32) &&& 31).toUInt32).toInt32).toInt = 1
    rw [u, e, show ((2 ^ 31 : Nat) : Int) = 2147483648 from rfl]; omega
  have r2 : XT.ushr (n - z) (31 : Int32) = 1 := Int32.toInt_inj.mp (by rw [r, own_i1])
  rw [r2]; decide
theorem own_Blt {Z : State} {h : Heap} {a b : Addr} {cs : List Int32} (B : own_B Z h a b cs) : b < h.size := by
  obtain ⟨n, E, F1, F2, F3, ⟨kb, ⟨lt, F, V⟩ | ⟨lt, F, V⟩⟩, r⟩ := B
  · exact V.lt
  · exact V.lt
theorem own_Bext {Z : State} {h h' : Heap} {a b : Addr} {cs : List Int32} (B : own_B Z h a b cs) (E' : Ext h h') : own_B Z h' a b cs := by
  obtain ⟨n, E, F1, F2, F3, ⟨kb, ⟨lt, F, V⟩ | ⟨lt, F, V⟩⟩, r⟩ := B
  · exact ⟨n, E.ext E', F1.ext E', F2.ext E', F3.ext E', ⟨kb, Or.inl ⟨lt, F.ext E', V.ext E'⟩⟩, r⟩
  · exact ⟨n, E.ext E', F1.ext E', F2.ext E', F3.ext E', ⟨kb, Or.inr ⟨lt, F.ext E', V.ext E'⟩⟩, r⟩
theorem own_latnil : own_lat [] := fun _ q => nomatch q
theorem own_latsnoc {cs : List Int32} {j : Nat} (hj : j < cs.length) (h : own_lat (cs.take j)) (h2 : ¬ ((255 : Int32) < cs.getD j 0)) : own_lat (cs.take (j + 1)) := by
  rw [← own_take1 hj]
  exact own_latapp.mpr ⟨h, fun c hc => by rw [List.mem_singleton.mp hc]; exact h2⟩
theorem own_latall {cs : List Int32} {j : Nat} (hj : cs.length ≤ j) (h : own_lat (cs.take j)) : own_lat cs := by rwa [List.take_of_length_le hj] at h
theorem own_lat1 {c : Int32} (h : ¬ ((255 : Int32) < c)) : own_lat [c] := fun d hd => by rw [List.mem_singleton.mp hd]; exact h
theorem own_nlat1 {c : Int32} (h : (255 : Int32) < c) : ¬ own_lat [c] := fun q => q c (List.mem_singleton.mpr rfl) h
theorem own_b58 {c : Int32} (h : 0 ≤ c.toInt ∧ c.toInt < 65536) (h2 : ¬ ((255 : Int32) < c)) (e : own_b8 c = 58) : c = 58 := by
  have q := own_bmask h h2
  rw [e] at q
  rw [← q]; decide
theorem own_b858 : own_b8 (58 : Int32) = 58 := by decide
theorem own_lattk {cs : List Int32} {i j : Nat} (h : own_lat (cs.take j)) (hij : i + 1 ≤ j) : own_lat (cs.take (i + 1)) := fun c hc => h c (by
  rw [show cs.take (i + 1) = (cs.take j).take (i + 1) by rw [List.take_take, Nat.min_eq_left hij]] at hc
  exact List.mem_of_mem_take hc)
theorem own_gettake {cs : List Int32} {i j : Nat} (h : i < j) : (cs.take j).getD i 0 = cs.getD i 0 := by
  rw [List.getD_eq_getElem?_getD, List.getD_eq_getElem?_getD, List.getElem?_take_of_lt h]
theorem own_latget {cs : List Int32} {i j : Nat} (h : own_lat (cs.take j)) (hij : i < j) (hj : i < cs.length) : ¬ ((255 : Int32) < cs.getD i 0) := by
  rw [← own_gettake hij]
  exact h _ (own_getmem (by rw [List.length_take]; omega))
abbrev mN_0 : MethodName := ⟨"java/lang/String", "coder", "()B"⟩
theorem d20_0 : decode c_0 0 = .ok (.getstatic 38, 3) := by decide +kernel
theorem d20_3 : decode c_0 3 = .ok (.ifCond .eq 10, 3) := by decide +kernel
theorem d20_6 : decode c_0 6 = .ok (.aload_n 0, 1) := by decide +kernel
theorem d20_7 : decode c_0 7 = .ok (.getfield 15, 3) := by decide +kernel
theorem d20_10 : decode c_0 10 = .ok (.goto 4, 3) := by decide +kernel
theorem d20_14 : decode c_0 14 = .ok (.ireturn, 1) := by decide +kernel
theorem pn_0 : plainName "java/lang/String" = true := by first | (simp [plainName, overriddenIn]; done) | decide +kernel
theorem ef_coL (m : MethodId) (x0 : Addr) : entryFrame m #[(.ref x0)] 1 = mkF m 0 #[.val (.ref x0)] [] := by first | (simp [entryFrame, mkF, argsToLocals, Value.category]; done) | rfl
theorem rmcoL (l : Launch) (Z : State) (a0 : Array Value) (hw : ∀ d ∈ tables_1, d.before a0 Z = true) (ws : List Jvm.Cond) (a1 : Addr) (g1 : Int32) (h0 : Heap) (n0 : Nat) (Z0 : n0 ≤ h0.size) (Fc : Fld Z h0 a1 "java/lang/String" "coder" "B" (.int 0)) (SC : Sta Z h0 "java/lang/String" "COMPACT_STRINGS" "Z" (.int g1)) (hg1 : ¬ (g1 = (0 : Int32))) : own_M l mN_0 jdk_42_method_152_code 1 (some .byte) ws ({ frames := 0, cells := 0, slots := 0, locals := 0 } : Room) Z h0 #[(.ref a1)] (Qv 0 h0 n0) := by
  refine own_go #[.val (.ref a1)] (plainFor_of_name pn_0) (fun m => ef_coL m a1) ?_
  intro p e s m below meth c s₁ hx hby hml hown hnm hlk X0 e0 hZ hrt
  have N0 := Fr.nil n0
  obtain ⟨T1, X1, e1, st1⟩ := getS2 X0 hx hZ hown (host := "") (Or.inl (own_w hw 24 rfl)) Via.refl e0 SC (g := (mkF m 0 #[.val (.ref a1)] [])) rfl (hb hby d20_0)
  refine own_of (U' := (T1.setTop (mkF m 3 #[.val (.ref a1)] [(.int g1)]))) (st1) ?_
  have hc3_2 : ¬ (g1 = (0 : Int32)) := hg1
  refine own_ifNo X1 hx hby d20_3 ((if0 _ _).trans (feq hc3_2).1) ?_
  refine own_aloadN X1 hx hby d20_6 rfl rfl ?_
  obtain ⟨T3, X3, e3, st3⟩ := getF X1 hx hZ hown (host := "") (Or.inl (own_w hw 36 rfl)) Via.refl e1 Fc (g := (mkF m 7 #[.val (.ref a1)] [(.ref a1)])) rfl rfl (hb hby d20_7)
  refine own_of (U' := (T3.setTop (mkF m 10 #[.val (.ref a1)] [(.int 0)]))) (st3) ?_
  refine own_goto X3 hx hby 10 14 d20_10 (by decide) (by decide) ?_
  exact own_retN X3 hx hlk (t := .byte) hrt (by simp) (hb hby d20_14) (by decide) (by decide) (⟨rfl, N0, e3⟩)
theorem ef_coU (m : MethodId) (x0 : Addr) : entryFrame m #[(.ref x0)] 1 = mkF m 0 #[.val (.ref x0)] [] := by first | (simp [entryFrame, mkF, argsToLocals, Value.category]; done) | rfl
theorem rmcoU (l : Launch) (Z : State) (a0 : Array Value) (hw : ∀ d ∈ tables_1, d.before a0 Z = true) (ws : List Jvm.Cond) (a1 : Addr) (g1 : Int32) (h0 : Heap) (n0 : Nat) (Z0 : n0 ≤ h0.size) (Fc : Fld Z h0 a1 "java/lang/String" "coder" "B" (.int 1)) (SC : Sta Z h0 "java/lang/String" "COMPACT_STRINGS" "Z" (.int g1)) (hg1 : ¬ (g1 = (0 : Int32))) : own_M l mN_0 jdk_42_method_152_code 1 (some .byte) ws ({ frames := 0, cells := 0, slots := 0, locals := 0 } : Room) Z h0 #[(.ref a1)] (Qv 1 h0 n0) := by
  refine own_go #[.val (.ref a1)] (plainFor_of_name pn_0) (fun m => ef_coU m a1) ?_
  intro p e s m below meth c s₁ hx hby hml hown hnm hlk X0 e0 hZ hrt
  have N0 := Fr.nil n0
  obtain ⟨T4, X4, e4, st4⟩ := getS2 X0 hx hZ hown (host := "") (Or.inl (own_w hw 24 rfl)) Via.refl e0 SC (g := (mkF m 0 #[.val (.ref a1)] [])) rfl (hb hby d20_0)
  refine own_of (U' := (T4.setTop (mkF m 3 #[.val (.ref a1)] [(.int g1)]))) (st4) ?_
  have hc3_5 : ¬ (g1 = (0 : Int32)) := hg1
  refine own_ifNo X4 hx hby d20_3 ((if0 _ _).trans (feq hc3_5).1) ?_
  refine own_aloadN X4 hx hby d20_6 rfl rfl ?_
  obtain ⟨T6, X6, e6, st6⟩ := getF X4 hx hZ hown (host := "") (Or.inl (own_w hw 36 rfl)) Via.refl e4 Fc (g := (mkF m 7 #[.val (.ref a1)] [(.ref a1)])) rfl rfl (hb hby d20_7)
  refine own_of (U' := (T6.setTop (mkF m 10 #[.val (.ref a1)] [(.int 1)]))) (st6) ?_
  refine own_goto X6 hx hby 10 14 d20_10 (by decide) (by decide) ?_
  exact own_retN X6 hx hlk (t := .byte) hrt (by simp) (hb hby d20_14) (by decide) (by decide) (⟨rfl, N0, e6⟩)
abbrev mN_1 : MethodName := ⟨"java/lang/String", "isLatin1", "()Z"⟩
theorem d41_0 : decode c_1 0 = .ok (.getstatic 38, 3) := by decide +kernel
theorem d41_3 : decode c_1 3 = .ok (.ifCond .eq 14, 3) := by decide +kernel
theorem d41_6 : decode c_1 6 = .ok (.aload_n 0, 1) := by decide +kernel
theorem d41_7 : decode c_1 7 = .ok (.getfield 15, 3) := by decide +kernel
theorem d41_10 : decode c_1 10 = .ok (.ifCond .ne 7, 3) := by decide +kernel
theorem d41_13 : decode c_1 13 = .ok (.iconst 1, 1) := by decide +kernel
theorem d41_14 : decode c_1 14 = .ok (.goto 4, 3) := by decide +kernel
theorem d41_18 : decode c_1 18 = .ok (.ireturn, 1) := by decide +kernel
theorem ef_ilL (m : MethodId) (x0 : Addr) : entryFrame m #[(.ref x0)] 1 = mkF m 0 #[.val (.ref x0)] [] := by first | (simp [entryFrame, mkF, argsToLocals, Value.category]; done) | rfl
theorem rmilL (l : Launch) (Z : State) (a0 : Array Value) (hw : ∀ d ∈ tables_1, d.before a0 Z = true) (ws : List Jvm.Cond) (a1 : Addr) (g1 : Int32) (h0 : Heap) (n0 : Nat) (Z0 : n0 ≤ h0.size) (Fc : Fld Z h0 a1 "java/lang/String" "coder" "B" (.int 0)) (SC : Sta Z h0 "java/lang/String" "COMPACT_STRINGS" "Z" (.int g1)) (hg1 : ¬ (g1 = (0 : Int32))) : own_M l mN_1 jdk_42_method_154_code 1 (some .boolean) ws ({ frames := 0, cells := 0, slots := 0, locals := 0 } : Room) Z h0 #[(.ref a1)] (Qv 1 h0 n0) := by
  refine own_go #[.val (.ref a1)] (plainFor_of_name pn_0) (fun m => ef_ilL m a1) ?_
  intro p e s m below meth c s₁ hx hby hml hown hnm hlk X0 e0 hZ hrt
  have N0 := Fr.nil n0
  obtain ⟨T7, X7, e7, st7⟩ := getS2 X0 hx hZ hown (host := "") (Or.inl (own_w hw 24 rfl)) Via.refl e0 SC (g := (mkF m 0 #[.val (.ref a1)] [])) rfl (hb hby d41_0)
  refine own_of (U' := (T7.setTop (mkF m 3 #[.val (.ref a1)] [(.int g1)]))) (st7) ?_
  have hc3_8 : ¬ (g1 = (0 : Int32)) := hg1
  refine own_ifNo X7 hx hby d41_3 ((if0 _ _).trans (feq hc3_8).1) ?_
  refine own_aloadN X7 hx hby d41_6 rfl rfl ?_
  obtain ⟨T9, X9, e9, st9⟩ := getF X7 hx hZ hown (host := "") (Or.inl (own_w hw 36 rfl)) Via.refl e7 Fc (g := (mkF m 7 #[.val (.ref a1)] [(.ref a1)])) rfl rfl (hb hby d41_7)
  refine own_of (U' := (T9.setTop (mkF m 10 #[.val (.ref a1)] [(.int 0)]))) (st9) ?_
  have hc10_10 : (0 : Int32) = (0 : Int32) := by decide
  refine own_ifNo X9 hx hby d41_10 ((if0 _ _).trans (teq hc10_10).2) ?_
  refine own_iconst X9 hx hby 1 d41_13 rfl ?_
  refine own_goto X9 hx hby 14 18 d41_14 (by decide) (by decide) ?_
  exact own_retN X9 hx hlk (t := .boolean) hrt (by simp) (hb hby d41_18) (by decide) (by decide) (⟨rfl, N0, e9⟩)
theorem d41_17 : decode c_1 17 = .ok (.iconst 0, 1) := by decide +kernel
theorem ef_ilU (m : MethodId) (x0 : Addr) : entryFrame m #[(.ref x0)] 1 = mkF m 0 #[.val (.ref x0)] [] := by first | (simp [entryFrame, mkF, argsToLocals, Value.category]; done) | rfl
theorem rmilU (l : Launch) (Z : State) (a0 : Array Value) (hw : ∀ d ∈ tables_1, d.before a0 Z = true) (ws : List Jvm.Cond) (a1 : Addr) (g1 : Int32) (h0 : Heap) (n0 : Nat) (Z0 : n0 ≤ h0.size) (Fc : Fld Z h0 a1 "java/lang/String" "coder" "B" (.int 1)) (SC : Sta Z h0 "java/lang/String" "COMPACT_STRINGS" "Z" (.int g1)) (hg1 : ¬ (g1 = (0 : Int32))) : own_M l mN_1 jdk_42_method_154_code 1 (some .boolean) ws ({ frames := 0, cells := 0, slots := 0, locals := 0 } : Room) Z h0 #[(.ref a1)] (Qv 0 h0 n0) := by
  refine own_go #[.val (.ref a1)] (plainFor_of_name pn_0) (fun m => ef_ilU m a1) ?_
  intro p e s m below meth c s₁ hx hby hml hown hnm hlk X0 e0 hZ hrt
  have N0 := Fr.nil n0
  obtain ⟨T11, X11, e11, st11⟩ := getS2 X0 hx hZ hown (host := "") (Or.inl (own_w hw 24 rfl)) Via.refl e0 SC (g := (mkF m 0 #[.val (.ref a1)] [])) rfl (hb hby d41_0)
  refine own_of (U' := (T11.setTop (mkF m 3 #[.val (.ref a1)] [(.int g1)]))) (st11) ?_
  have hc3_12 : ¬ (g1 = (0 : Int32)) := hg1
  refine own_ifNo X11 hx hby d41_3 ((if0 _ _).trans (feq hc3_12).1) ?_
  refine own_aloadN X11 hx hby d41_6 rfl rfl ?_
  obtain ⟨T13, X13, e13, st13⟩ := getF X11 hx hZ hown (host := "") (Or.inl (own_w hw 36 rfl)) Via.refl e11 Fc (g := (mkF m 7 #[.val (.ref a1)] [(.ref a1)])) rfl rfl (hb hby d41_7)
  refine own_of (U' := (T13.setTop (mkF m 10 #[.val (.ref a1)] [(.int 1)]))) (st13) ?_
  have hc10_14 : ¬ ((1 : Int32) = (0 : Int32)) := by decide
  refine own_ifYes X13 hx hby 10 17 d41_10 ((if0 _ _).trans (feq hc10_14).2) (by decide) (by decide) ?_
  refine own_iconst X13 hx hby 0 d41_17 rfl ?_
  exact own_retN X13 hx hlk (t := .boolean) hrt (by simp) (hb hby d41_18) (by decide) (by decide) (⟨rfl, N0, e13⟩)
abbrev mN_2 : MethodName := ⟨"java/lang/String", "length", "()I"⟩
theorem pd_0 : parseMethodDescriptor "()B" = some ⟨[], some .byte⟩ := by decide +kernel
theorem d19_0 : decode c_2 0 = .ok (.aload_n 0, 1) := by decide +kernel
theorem d19_1 : decode c_2 1 = .ok (.getfield 9, 3) := by decide +kernel
theorem d19_4 : decode c_2 4 = .ok (.arraylength, 1) := by decide +kernel
theorem d19_5 : decode c_2 5 = .ok (.aload_n 0, 1) := by decide +kernel
theorem d19_6 : decode c_2 6 = .ok (.invokevirtual 335, 3) := by decide +kernel
theorem d19_9 : decode c_2 9 = .ok (.ishr, 1) := by decide +kernel
theorem d19_10 : decode c_2 10 = .ok (.ireturn, 1) := by decide +kernel
theorem ef_ln0 (m : MethodId) (x0 : Addr) : entryFrame m #[(.ref x0)] 1 = mkF m 0 #[.val (.ref x0)] [] := by first | (simp [entryFrame, mkF, argsToLocals, Value.category]; done) | rfl
def Qlen (cs : List Int32) (h0 : Heap) (n0 : Nat) (v : Option Value) (h : Heap) (L : List Loc) : Prop := ∃ r : Int32, v = some (.int r) ∧ Fr n0 L ∧ h = h0 ∧ r.toInt = cs.length
theorem rmln0 (l : Launch) (Z : State) (a0 : Array Value) (hw : ∀ d ∈ tables_1, d.before a0 Z = true) (ws : List Jvm.Cond) (a1 : Addr) (g1 : Int32) (b : Addr) (kb : ClassId) (z : Int32) (cs : List Int32) (h0 : Heap) (n0 : Nat) (Z0 : n0 ≤ h0.size) (E1 : Exa Z h0 a1 "java/lang/String") (Fc : Fld Z h0 a1 "java/lang/String" "coder" "B" (.int 0)) (Fv : Fld Z h0 a1 "java/lang/String" "value" "[B" (.ref b)) (Vb : Arv Z h0 b kb .byte z (List.map Value.int (List.map own_b8 cs)) (.int 0)) (hz : z.toInt = cs.length) (SC : Sta Z h0 "java/lang/String" "COMPACT_STRINGS" "Z" (.int g1)) (hg1 : ¬ (g1 = (0 : Int32))) : own_M l mN_2 jdk_42_method_54_code 1 (some .int) ws ({ frames := 1, cells := 0, slots := 0, locals := 13 } : Room) Z h0 #[(.ref a1)] (Qlen cs h0 n0) := by
  refine own_go #[.val (.ref a1)] (plainFor_of_name pn_0) (fun m => ef_ln0 m a1) ?_
  intro p e s m below meth c s₁ hx hby hml hown hnm hlk X0 e0 hZ hrt
  have N0 := Fr.nil n0
  refine own_aloadN X0 hx hby d19_0 rfl rfl ?_
  obtain ⟨T15, X15, e15, st15⟩ := getF X0 hx hZ hown (host := "") (Or.inl (own_w hw 38 rfl)) Via.refl e0 Fv (g := (mkF m 1 #[.val (.ref a1)] [(.ref a1)])) rfl rfl (hb hby d19_1)
  refine own_of (U' := (T15.setTop (mkF m 4 #[.val (.ref a1)] [(.ref b)]))) (st15) ?_
  obtain ⟨cl16, Ar16, qa16, Sa16, Na16, -, -⟩ := id Vb
  have al16 := X15.arraylength hx (by rw [e15]; exact Ar16.1) (State.isArrayOf_alike hZ.alike Ar16.2.1) (g := (mkF m 4 #[.val (.ref a1)] [(.ref b)])) rfl rfl (hb hby d19_4)
  rw [len_of Sa16 Na16] at al16
  refine own_of (U' := (T15.setTop (mkF m 5 #[.val (.ref a1)] [(.int z)]))) (al16) ?_
  refine own_aloadN X15 hx hby d19_5 rfl rfl ?_
  obtain ⟨cq17, kq17, q17a, q17b, q17c⟩ := isOf hZ e15 E1
  obtain ⟨_, _, ⟨T17, L17, k17, n17⟩, -, X17, ⟨Lc17, hQ17, l17, y17, z17⟩, st17⟩ := X15.virtualBack hx (y := mN_0) (z := mN_0) hown (oV hZ hw 91 rfl) (oV hZ hw 92 rfl) (notFace_of_selects (args := #[]) (oV hZ hw 94 rfl)) (oV hZ hw 94 rfl) (oV hZ hw 93 rfl) (by decide) (backOf (W := 1) (rmcoL l Z a0 hw [] a1 g1 h0 n0 Z0 Fc SC hg1) hZ (own_w hw 95 rfl) (own_w hw 12 rfl) (by decide) (by decide)) q17a q17c (g := (mkF m 6 #[.val (.ref a1)] [(.ref a1), (.int z)])) rfl (by rw [hml]; rfl) (Steps.refl _) (argsL := []) (rest := [(.int z)]) (lenOf pd_0 rfl) rfl (by exact oZ rfl) (hb hby d19_6) (fun _ _ => ⟨rfl, e15, (by decide : 0 + 0 ≤ _), (by decide : 0 + 0 ≤ _)⟩)
  dsimp only [Pt.U, Pt.locs, Pt.cells, Pt.slots] at X17 l17 y17 z17 st17 hQ17
  rw [l17, y17, z17] at X17
  obtain ⟨rfl, Nq17, e17⟩ := hQ17
  have N17 := Fr.app N0 Nq17
  refine own_of (U' := (T17.setTop (mkF m 9 #[.val (.ref a1)] [(.int 0), (.int z)]))) (fun _ k => st17.trans k) ?_
  refine own_ishr X17 hx hby d19_9 ?_
  exact own_retI X17 hx hlk hrt (hb hby d19_10) (by decide) (by decide) (⟨(z >>> ((0 : Int32) &&& 31)), rfl, N17, e17, (by rw [own_shr0]; exact hz)⟩)
theorem ef_ln1 (m : MethodId) (x0 : Addr) : entryFrame m #[(.ref x0)] 1 = mkF m 0 #[.val (.ref x0)] [] := by first | (simp [entryFrame, mkF, argsToLocals, Value.category]; done) | rfl
theorem rmln1 (l : Launch) (Z : State) (a0 : Array Value) (hw : ∀ d ∈ tables_1, d.before a0 Z = true) (ws : List Jvm.Cond) (a1 : Addr) (g1 : Int32) (b : Addr) (kb : ClassId) (z : Int32) (cs : List Int32) (h0 : Heap) (n0 : Nat) (Z0 : n0 ≤ h0.size) (E1 : Exa Z h0 a1 "java/lang/String") (Fc : Fld Z h0 a1 "java/lang/String" "coder" "B" (.int 1)) (Fv : Fld Z h0 a1 "java/lang/String" "value" "[B" (.ref b)) (Vb : Arv Z h0 b kb .byte z (List.map Value.int (own_u16 cs)) (.int 0)) (hz : z.toInt = 2 * (cs.length : Int)) (SC : Sta Z h0 "java/lang/String" "COMPACT_STRINGS" "Z" (.int g1)) (hg1 : ¬ (g1 = (0 : Int32))) : own_M l mN_2 jdk_42_method_54_code 1 (some .int) ws ({ frames := 1, cells := 0, slots := 0, locals := 13 } : Room) Z h0 #[(.ref a1)] (Qlen cs h0 n0) := by
  refine own_go #[.val (.ref a1)] (plainFor_of_name pn_0) (fun m => ef_ln1 m a1) ?_
  intro p e s m below meth c s₁ hx hby hml hown hnm hlk X0 e0 hZ hrt
  have N0 := Fr.nil n0
  refine own_aloadN X0 hx hby d19_0 rfl rfl ?_
  obtain ⟨T18, X18, e18, st18⟩ := getF X0 hx hZ hown (host := "") (Or.inl (own_w hw 38 rfl)) Via.refl e0 Fv (g := (mkF m 1 #[.val (.ref a1)] [(.ref a1)])) rfl rfl (hb hby d19_1)
  refine own_of (U' := (T18.setTop (mkF m 4 #[.val (.ref a1)] [(.ref b)]))) (st18) ?_
  obtain ⟨cl19, Ar19, qa19, Sa19, Na19, -, -⟩ := id Vb
  have al19 := X18.arraylength hx (by rw [e18]; exact Ar19.1) (State.isArrayOf_alike hZ.alike Ar19.2.1) (g := (mkF m 4 #[.val (.ref a1)] [(.ref b)])) rfl rfl (hb hby d19_4)
  rw [len_of Sa19 Na19] at al19
  refine own_of (U' := (T18.setTop (mkF m 5 #[.val (.ref a1)] [(.int z)]))) (al19) ?_
  refine own_aloadN X18 hx hby d19_5 rfl rfl ?_
  obtain ⟨cq20, kq20, q20a, q20b, q20c⟩ := isOf hZ e18 E1
  obtain ⟨_, _, ⟨T20, L20, k20, n20⟩, -, X20, ⟨Lc20, hQ20, l20, y20, z20⟩, st20⟩ := X18.virtualBack hx (y := mN_0) (z := mN_0) hown (oV hZ hw 91 rfl) (oV hZ hw 92 rfl) (notFace_of_selects (args := #[]) (oV hZ hw 94 rfl)) (oV hZ hw 94 rfl) (oV hZ hw 93 rfl) (by decide) (backOf (W := 1) (rmcoU l Z a0 hw [] a1 g1 h0 n0 Z0 Fc SC hg1) hZ (own_w hw 95 rfl) (own_w hw 12 rfl) (by decide) (by decide)) q20a q20c (g := (mkF m 6 #[.val (.ref a1)] [(.ref a1), (.int z)])) rfl (by rw [hml]; rfl) (Steps.refl _) (argsL := []) (rest := [(.int z)]) (lenOf pd_0 rfl) rfl (by exact oZ rfl) (hb hby d19_6) (fun _ _ => ⟨rfl, e18, (by decide : 0 + 0 ≤ _), (by decide : 0 + 0 ≤ _)⟩)
  dsimp only [Pt.U, Pt.locs, Pt.cells, Pt.slots] at X20 l20 y20 z20 st20 hQ20
  rw [l20, y20, z20] at X20
  obtain ⟨rfl, Nq20, e20⟩ := hQ20
  have N20 := Fr.app N0 Nq20
  refine own_of (U' := (T20.setTop (mkF m 9 #[.val (.ref a1)] [(.int 1), (.int z)]))) (fun _ k => st20.trans k) ?_
  refine own_ishr X20 hx hby d19_9 ?_
  exact own_retI X20 hx hlk hrt (hb hby d19_10) (by decide) (by decide) (⟨(z >>> ((1 : Int32) &&& 31)), rfl, N20, e20, (by rw [own_half, hz]; omega)⟩)
theorem rmlen (l : Launch) (Z : State) (a0 : Array Value) (hw : ∀ d ∈ tables_1, d.before a0 Z = true) (ws : List Jvm.Cond) (a1 : Addr) (cs : List Int32) (n1 : Nat) (g1 : Int32) (h0 : Heap) (n0 : Nat) (Z0 : n0 ≤ h0.size) (O1 : own_S2 Z h0 n1 a1 cs) (SC : Sta Z h0 "java/lang/String" "COMPACT_STRINGS" "Z" (.int g1)) (hg1 : ¬ (g1 = (0 : Int32))) : own_M l mN_2 jdk_42_method_54_code 1 (some .int) ws ({ frames := 1, cells := 0, slots := 0, locals := 13 } : Room) Z h0 #[(.ref a1)] (Qlen cs h0 n0) := by
  obtain ⟨b, kb, cd, z, la, lb, E1, Fc, Fv, ⟨rfl, lt, hz, Vb⟩ | ⟨rfl, lt, hz, Vb⟩⟩ := O1
  · exact rmln0 l Z a0 hw ws a1 g1 b kb z cs h0 n0 Z0 E1 Fc Fv Vb hz SC hg1
  · exact rmln1 l Z a0 hw ws a1 g1 b kb z cs h0 n0 Z0 E1 Fc Fv Vb hz SC hg1
abbrev mN_3 : MethodName := ⟨"java/lang/AbstractStringBuilder", "isLatin1", "()Z"⟩
theorem d27_0 : decode c_3 0 = .ok (.getstatic 18, 3) := by decide +kernel
theorem d27_3 : decode c_3 3 = .ok (.ifCond .eq 14, 3) := by decide +kernel
theorem d27_6 : decode c_3 6 = .ok (.aload_n 0, 1) := by decide +kernel
theorem d27_7 : decode c_3 7 = .ok (.getfield 22, 3) := by decide +kernel
theorem d27_10 : decode c_3 10 = .ok (.ifCond .ne 7, 3) := by decide +kernel
theorem d27_13 : decode c_3 13 = .ok (.iconst 1, 1) := by decide +kernel
theorem d27_14 : decode c_3 14 = .ok (.goto 4, 3) := by decide +kernel
theorem d27_18 : decode c_3 18 = .ok (.ireturn, 1) := by decide +kernel
theorem pn_1 : plainName "java/lang/AbstractStringBuilder" = true := by first | (simp [plainName, overriddenIn]; done) | decide +kernel
theorem ef_ab0 (m : MethodId) (x0 : Addr) : entryFrame m #[(.ref x0)] 1 = mkF m 0 #[.val (.ref x0)] [] := by first | (simp [entryFrame, mkF, argsToLocals, Value.category]; done) | rfl
theorem rmab0 (l : Launch) (Z : State) (a0 : Array Value) (hw : ∀ d ∈ tables_1, d.before a0 Z = true) (ws : List Jvm.Cond) (a1 : Addr) (g1 : Int32) (h0 : Heap) (n0 : Nat) (Z0 : n0 ≤ h0.size) (Fc : Fld Z h0 a1 "java/lang/AbstractStringBuilder" "coder" "B" (.int 0)) (SC : Sta Z h0 "java/lang/String" "COMPACT_STRINGS" "Z" (.int g1)) (hg1 : ¬ (g1 = (0 : Int32))) : own_M l mN_3 jdk_68_method_68_code 1 (some .boolean) ws ({ frames := 0, cells := 0, slots := 0, locals := 0 } : Room) Z h0 #[(.ref a1)] (Qv 1 h0 n0) := by
  refine own_go #[.val (.ref a1)] (plainFor_of_name pn_1) (fun m => ef_ab0 m a1) ?_
  intro p e s m below meth c s₁ hx hby hml hown hnm hlk X0 e0 hZ hrt
  have N0 := Fr.nil n0
  obtain ⟨T21, X21, e21, st21⟩ := getS2 X0 hx hZ hown (host := "") (Or.inl (own_w hw 71 rfl)) Via.refl e0 SC (g := (mkF m 0 #[.val (.ref a1)] [])) rfl (hb hby d27_0)
  refine own_of (U' := (T21.setTop (mkF m 3 #[.val (.ref a1)] [(.int g1)]))) (st21) ?_
  have hc3_22 : ¬ (g1 = (0 : Int32)) := hg1
  refine own_ifNo X21 hx hby d27_3 ((if0 _ _).trans (feq hc3_22).1) ?_
  refine own_aloadN X21 hx hby d27_6 rfl rfl ?_
  obtain ⟨T23, X23, e23, st23⟩ := getF X21 hx hZ hown (host := "") (Or.inl (own_w hw 74 rfl)) Via.refl e21 Fc (g := (mkF m 7 #[.val (.ref a1)] [(.ref a1)])) rfl rfl (hb hby d27_7)
  refine own_of (U' := (T23.setTop (mkF m 10 #[.val (.ref a1)] [(.int 0)]))) (st23) ?_
  have hc10_24 : (0 : Int32) = (0 : Int32) := by decide
  refine own_ifNo X23 hx hby d27_10 ((if0 _ _).trans (teq hc10_24).2) ?_
  refine own_iconst X23 hx hby 1 d27_13 rfl ?_
  refine own_goto X23 hx hby 14 18 d27_14 (by decide) (by decide) ?_
  exact own_retN X23 hx hlk (t := .boolean) hrt (by simp) (hb hby d27_18) (by decide) (by decide) (⟨rfl, N0, e23⟩)
theorem d27_17 : decode c_3 17 = .ok (.iconst 0, 1) := by decide +kernel
theorem ef_ab1 (m : MethodId) (x0 : Addr) : entryFrame m #[(.ref x0)] 1 = mkF m 0 #[.val (.ref x0)] [] := by first | (simp [entryFrame, mkF, argsToLocals, Value.category]; done) | rfl
theorem rmab1 (l : Launch) (Z : State) (a0 : Array Value) (hw : ∀ d ∈ tables_1, d.before a0 Z = true) (ws : List Jvm.Cond) (a1 : Addr) (g1 : Int32) (h0 : Heap) (n0 : Nat) (Z0 : n0 ≤ h0.size) (Fc : Fld Z h0 a1 "java/lang/AbstractStringBuilder" "coder" "B" (.int 1)) (SC : Sta Z h0 "java/lang/String" "COMPACT_STRINGS" "Z" (.int g1)) (hg1 : ¬ (g1 = (0 : Int32))) : own_M l mN_3 jdk_68_method_68_code 1 (some .boolean) ws ({ frames := 0, cells := 0, slots := 0, locals := 0 } : Room) Z h0 #[(.ref a1)] (Qv 0 h0 n0) := by
  refine own_go #[.val (.ref a1)] (plainFor_of_name pn_1) (fun m => ef_ab1 m a1) ?_
  intro p e s m below meth c s₁ hx hby hml hown hnm hlk X0 e0 hZ hrt
  have N0 := Fr.nil n0
  obtain ⟨T25, X25, e25, st25⟩ := getS2 X0 hx hZ hown (host := "") (Or.inl (own_w hw 71 rfl)) Via.refl e0 SC (g := (mkF m 0 #[.val (.ref a1)] [])) rfl (hb hby d27_0)
  refine own_of (U' := (T25.setTop (mkF m 3 #[.val (.ref a1)] [(.int g1)]))) (st25) ?_
  have hc3_26 : ¬ (g1 = (0 : Int32)) := hg1
  refine own_ifNo X25 hx hby d27_3 ((if0 _ _).trans (feq hc3_26).1) ?_
  refine own_aloadN X25 hx hby d27_6 rfl rfl ?_
  obtain ⟨T27, X27, e27, st27⟩ := getF X25 hx hZ hown (host := "") (Or.inl (own_w hw 74 rfl)) Via.refl e25 Fc (g := (mkF m 7 #[.val (.ref a1)] [(.ref a1)])) rfl rfl (hb hby d27_7)
  refine own_of (U' := (T27.setTop (mkF m 10 #[.val (.ref a1)] [(.int 1)]))) (st27) ?_
  have hc10_28 : ¬ ((1 : Int32) = (0 : Int32)) := by decide
  refine own_ifYes X27 hx hby 10 17 d27_10 ((if0 _ _).trans (feq hc10_28).2) (by decide) (by decide) ?_
  refine own_iconst X27 hx hby 0 d27_17 rfl ?_
  exact own_retN X27 hx hlk (t := .boolean) hrt (by simp) (hb hby d27_18) (by decide) (by decide) (⟨rfl, N0, e27⟩)
abbrev mN_4 : MethodName := ⟨"java/lang/AbstractStringBuilder", "getValue", "()[B"⟩
theorem d31_0 : decode c_4 0 = .ok (.aload_n 0, 1) := by decide +kernel
theorem d31_1 : decode c_4 1 = .ok (.getfield 15, 3) := by decide +kernel
theorem d31_4 : decode c_4 4 = .ok (.areturn, 1) := by decide +kernel
theorem ef_gv (m : MethodId) (x0 : Addr) : entryFrame m #[(.ref x0)] 1 = mkF m 0 #[.val (.ref x0)] [] := by first | (simp [entryFrame, mkF, argsToLocals, Value.category]; done) | rfl
def Qgv (w2 : Addr) (h0 : Heap) (n0 : Nat) (v : Option Value) (h : Heap) (L : List Loc) : Prop := v = some (.ref w2) ∧ Fr n0 L ∧ h = h0
theorem rmgv (l : Launch) (Z : State) (a0 : Array Value) (hw : ∀ d ∈ tables_1, d.before a0 Z = true) (ws : List Jvm.Cond) (a1 : Addr) (w2 : Addr) (h0 : Heap) (n0 : Nat) (Z0 : n0 ≤ h0.size) (F1 : Fld Z h0 a1 "java/lang/AbstractStringBuilder" "value" "[B" (.ref w2)) : own_M l mN_4 jdk_68_method_64_code 1 (some (.array .byte)) ws ({ frames := 0, cells := 0, slots := 0, locals := 0 } : Room) Z h0 #[(.ref a1)] (Qgv w2 h0 n0) := by
  refine own_go #[.val (.ref a1)] (plainFor_of_name pn_1) (fun m => ef_gv m a1) ?_
  intro p e s m below meth c s₁ hx hby hml hown hnm hlk X0 e0 hZ hrt
  have N0 := Fr.nil n0
  refine own_aloadN X0 hx hby d31_0 rfl rfl ?_
  obtain ⟨T29, X29, e29, st29⟩ := getF X0 hx hZ hown (host := "") (Or.inl (own_w hw 72 rfl)) Via.refl e0 F1 (g := (mkF m 1 #[.val (.ref a1)] [(.ref a1)])) rfl rfl (hb hby d31_1)
  refine own_of (U' := (T29.setTop (mkF m 4 #[.val (.ref a1)] [(.ref w2)]))) (st29) ?_
  exact own_retA X29 hx hlk hrt rfl rfl (hb hby d31_4) (by decide) (by decide) (⟨rfl, N0, e29⟩)
abbrev mN_5 : MethodName := ⟨"java/lang/AbstractStringBuilder", "length", "()I"⟩
theorem d33_0 : decode c_5 0 = .ok (.aload_n 0, 1) := by decide +kernel
theorem d33_1 : decode c_5 1 = .ok (.getfield 79, 3) := by decide +kernel
theorem d33_4 : decode c_5 4 = .ok (.ireturn, 1) := by decide +kernel
theorem ef_al (m : MethodId) (x0 : Addr) : entryFrame m #[(.ref x0)] 1 = mkF m 0 #[.val (.ref x0)] [] := by first | (simp [entryFrame, mkF, argsToLocals, Value.category]; done) | rfl
def Qal (w2 : Int32) (h0 : Heap) (n0 : Nat) (v : Option Value) (h : Heap) (L : List Loc) : Prop := v = some (.int w2) ∧ Fr n0 L ∧ h = h0
theorem rmal (l : Launch) (Z : State) (a0 : Array Value) (hw : ∀ d ∈ tables_1, d.before a0 Z = true) (ws : List Jvm.Cond) (a1 : Addr) (w2 : Int32) (h0 : Heap) (n0 : Nat) (Z0 : n0 ≤ h0.size) (F1 : Fld Z h0 a1 "java/lang/AbstractStringBuilder" "count" "I" (.int w2)) : own_M l mN_5 jdk_68_method_6_code 1 (some .int) ws ({ frames := 0, cells := 0, slots := 0, locals := 0 } : Room) Z h0 #[(.ref a1)] (Qal w2 h0 n0) := by
  refine own_go #[.val (.ref a1)] (plainFor_of_name pn_1) (fun m => ef_al m a1) ?_
  intro p e s m below meth c s₁ hx hby hml hown hnm hlk X0 e0 hZ hrt
  have N0 := Fr.nil n0
  refine own_aloadN X0 hx hby d33_0 rfl rfl ?_
  obtain ⟨T30, X30, e30, st30⟩ := getF X0 hx hZ hown (host := "") (Or.inl (own_w hw 96 rfl)) Via.refl e0 F1 (g := (mkF m 1 #[.val (.ref a1)] [(.ref a1)])) rfl rfl (hb hby d33_1)
  refine own_of (U' := (T30.setTop (mkF m 4 #[.val (.ref a1)] [(.int w2)]))) (st30) ?_
  exact own_retI X30 hx hlk hrt (hb hby d33_4) (by decide) (by decide) (⟨rfl, N0, e30⟩)
abbrev mN_6 : MethodName := ⟨"java/lang/StringBuilder", "length", "()I"⟩
theorem pd_1 : parseMethodDescriptor "()I" = some ⟨[], some .int⟩ := by decide +kernel
abbrev mN_7 : MethodName := ⟨"java/lang/AbstractStringBuilder", "ensureCapacityInternal", "(I)V"⟩
theorem d32_0 : decode c_6 0 = .ok (.aload_n 0, 1) := by decide +kernel
theorem d32_1 : decode c_6 1 = .ok (.invokespecial 343, 3) := by decide +kernel
theorem d32_4 : decode c_6 4 = .ok (.ireturn, 1) := by decide +kernel
theorem pn_2 : plainName "java/lang/StringBuilder" = true := by first | (simp [plainName, overriddenIn]; done) | decide +kernel
theorem ef_sl (m : MethodId) (x0 : Addr) : entryFrame m #[(.ref x0)] 1 = mkF m 0 #[.val (.ref x0)] [] := by first | (simp [entryFrame, mkF, argsToLocals, Value.category]; done) | rfl
theorem rmsl (l : Launch) (Z : State) (a0 : Array Value) (hw : ∀ d ∈ tables_1, d.before a0 Z = true) (ws : List Jvm.Cond) (a1 : Addr) (n : Int32) (h0 : Heap) (n0 : Nat) (Z0 : n0 ≤ h0.size) (E1 : Exa Z h0 a1 "java/lang/StringBuilder") (Fn : Fld Z h0 a1 "java/lang/AbstractStringBuilder" "count" "I" (.int n)) : own_M l mN_6 jdk_67_method_93_code 1 (some .int) ws ({ frames := 1, cells := 0, slots := 0, locals := 12 } : Room) Z h0 #[(.ref a1)] (Qv n h0 n0) := by
  refine own_go #[.val (.ref a1)] (plainFor_of_name pn_2) (fun m => ef_sl m a1) ?_
  intro p e s m below meth c s₁ hx hby hml hown hnm hlk X0 e0 hZ hrt
  have N0 := Fr.nil n0
  refine own_aloadN X0 hx hby d32_0 rfl rfl ?_
  obtain ⟨_, _, ⟨T31, L31, k31, n31⟩, -, X31, ⟨Lc31, hQ31, l31, y31, z31⟩, st31⟩ := superBack X0 hx hZ (y := mN_5) hown (own_w hw 161 rfl) (own_sameM (y := mN_5) (w := mN_7) (own_w hw 156 rfl) (own_w hw 101 rfl) rfl (by decide)) (own_w hw 157 rfl) (own_w hw 83 rfl) (by decide) (backOf (W := 0) (rmal l Z a0 hw [] a1 n h0 n0 Z0 Fn) hZ (own_w hw 162 rfl) (own_w hw 68 rfl) (by decide) (by decide)) e0 (Ins.self E1) (g := (mkF m 1 #[.val (.ref a1)] [(.ref a1)])) rfl (by rw [hml]; rfl) (own_w hw 162 rfl) (argsL := []) (rest := []) (lenOf pd_1 rfl) rfl (by exact oZ rfl) (hb hby d32_1) (fun _ _ => ⟨rfl, e0, (by decide : 0 + 0 ≤ _), (by decide : 0 + 0 ≤ _)⟩)
  dsimp only [Pt.U, Pt.locs, Pt.cells, Pt.slots] at X31 l31 y31 z31 st31 hQ31
  rw [l31, y31, z31] at X31
  obtain ⟨rfl, Nq31, e31⟩ := hQ31
  have N31 := Fr.app N0 Nq31
  refine own_of (U' := (T31.setTop (mkF m 4 #[.val (.ref a1)] [(.int n)]))) (fun _ k => st31.trans k) ?_
  exact own_retI X31 hx hlk hrt (hb hby d32_4) (by decide) (by decide) (⟨rfl, N31, e31⟩)
abbrev mN_8 : MethodName := ⟨"java/lang/Math", "min", "(II)I"⟩
theorem d37_0 : decode c_7 0 = .ok (.iload_n 0, 1) := by decide +kernel
theorem d37_1 : decode c_7 1 = .ok (.iload_n 1, 1) := by decide +kernel
theorem d37_2 : decode c_7 2 = .ok (.if_icmp .gt 7, 3) := by decide +kernel
theorem d37_5 : decode c_7 5 = .ok (.iload_n 0, 1) := by decide +kernel
theorem d37_6 : decode c_7 6 = .ok (.goto 4, 3) := by decide +kernel
theorem d37_9 : decode c_7 9 = .ok (.iload_n 1, 1) := by decide +kernel
theorem d37_10 : decode c_7 10 = .ok (.ireturn, 1) := by decide +kernel
theorem ef_min (m : MethodId) (x0 : Int32) (x1 : Int32) : entryFrame m #[(.int x0), (.int x1)] 2 = mkF m 0 #[.val (.int x0), .val (.int x1)] [] := by first | (simp [entryFrame, mkF, argsToLocals, Value.category]; done) | rfl
theorem rmmin (l : Launch) (Z : State) (a0 : Array Value) (hw : ∀ d ∈ tables_1, d.before a0 Z = true) (ws : List Jvm.Cond) (p1 p2 : Int32) (h0 : Heap) (n0 : Nat) (Z0 : n0 ≤ h0.size)  : own_M l mN_8 jdk_29_method_69_code 2 (some .int) ws ({ frames := 0, cells := 0, slots := 0, locals := 0 } : Room) Z h0 #[(.int p1), (.int p2)] (Qv (own_min p1 p2) h0 n0) := by
  refine own_go #[.val (.int p1), .val (.int p2)] (Jvm.Free.JP.mathPlain rfl (by decide +kernel)) (fun m => ef_min m p1 p2) ?_
  intro p e s m below meth c s₁ hx hby hml hown hnm hlk X0 e0 hZ hrt
  have N0 := Fr.nil n0
  refine own_iloadN X0 hx hby d37_0 rfl ?_
  refine own_iloadN X0 hx hby d37_1 rfl ?_
  by_cases hc2_32 : p2 < p1
  · skip
    refine own_icmpYes X0 hx hby 2 9 d37_2 (tlt hc2_32).2.2.1 (by decide) (by decide) ?_
    refine own_iloadN X0 hx hby d37_9 rfl ?_
    exact own_retI X0 hx hlk hrt (hb hby d37_10) (by decide) (by decide) (⟨congrArg (fun z => some (Value.int z)) (show p2 = own_min p1 p2 from by simp [own_min, own_b0, own_b1, hc2_32]), N0, e0⟩)
  · skip
    refine own_icmpNo X0 hx hby d37_2 (flt hc2_32).2.2.1 ?_
    refine own_iloadN X0 hx hby d37_5 rfl ?_
    refine own_goto X0 hx hby 6 10 d37_6 (by decide) (by decide) ?_
    exact own_retI X0 hx hlk hrt (hb hby d37_10) (by decide) (by decide) (⟨congrArg (fun z => some (Value.int z)) (show p1 = own_min p1 p2 from by simp [own_min, own_b0, own_b1, hc2_32]), N0, e0⟩)
abbrev mN_9 : MethodName := ⟨"java/lang/Math", "max", "(II)I"⟩
theorem d44_0 : decode c_8 0 = .ok (.iload_n 0, 1) := by decide +kernel
theorem d44_1 : decode c_8 1 = .ok (.iload_n 1, 1) := by decide +kernel
theorem d44_2 : decode c_8 2 = .ok (.if_icmp .lt 7, 3) := by decide +kernel
theorem d44_5 : decode c_8 5 = .ok (.iload_n 0, 1) := by decide +kernel
theorem d44_6 : decode c_8 6 = .ok (.goto 4, 3) := by decide +kernel
theorem d44_9 : decode c_8 9 = .ok (.iload_n 1, 1) := by decide +kernel
theorem d44_10 : decode c_8 10 = .ok (.ireturn, 1) := by decide +kernel
theorem ef_max (m : MethodId) (x0 : Int32) (x1 : Int32) : entryFrame m #[(.int x0), (.int x1)] 2 = mkF m 0 #[.val (.int x0), .val (.int x1)] [] := by first | (simp [entryFrame, mkF, argsToLocals, Value.category]; done) | rfl
theorem rmmax (l : Launch) (Z : State) (a0 : Array Value) (hw : ∀ d ∈ tables_1, d.before a0 Z = true) (ws : List Jvm.Cond) (p1 p2 : Int32) (h0 : Heap) (n0 : Nat) (Z0 : n0 ≤ h0.size)  : own_M l mN_9 jdk_29_method_65_code 2 (some .int) ws ({ frames := 0, cells := 0, slots := 0, locals := 0 } : Room) Z h0 #[(.int p1), (.int p2)] (Qv (own_max p1 p2) h0 n0) := by
  refine own_go #[.val (.int p1), .val (.int p2)] (Jvm.Free.JP.mathPlain rfl (by decide +kernel)) (fun m => ef_max m p1 p2) ?_
  intro p e s m below meth c s₁ hx hby hml hown hnm hlk X0 e0 hZ hrt
  have N0 := Fr.nil n0
  refine own_iloadN X0 hx hby d44_0 rfl ?_
  refine own_iloadN X0 hx hby d44_1 rfl ?_
  by_cases hc2_33 : p1 < p2
  · skip
    refine own_icmpYes X0 hx hby 2 9 d44_2 (tlt hc2_33).1 (by decide) (by decide) ?_
    refine own_iloadN X0 hx hby d44_9 rfl ?_
    exact own_retI X0 hx hlk hrt (hb hby d44_10) (by decide) (by decide) (⟨congrArg (fun z => some (Value.int z)) (show p2 = own_max p1 p2 from by simp [own_max, own_b0, own_b1, hc2_33]), N0, e0⟩)
  · skip
    refine own_icmpNo X0 hx hby d44_2 (flt hc2_33).1 ?_
    refine own_iloadN X0 hx hby d44_5 rfl ?_
    refine own_goto X0 hx hby 6 10 d44_6 (by decide) (by decide) ?_
    exact own_retI X0 hx hlk hrt (hb hby d44_10) (by decide) (by decide) (⟨congrArg (fun z => some (Value.int z)) (show p1 = own_max p1 p2 from by simp [own_max, own_b0, own_b1, hc2_33]), N0, e0⟩)
abbrev mN_10 : MethodName := ⟨"java/util/Arrays", "checkLength", "(II)V"⟩
theorem d36_0 : decode c_9 0 = .ok (.iload_n 1, 1) := by decide +kernel
theorem d36_1 : decode c_9 1 = .ok (.iload_n 0, 1) := by decide +kernel
theorem d36_2 : decode c_9 2 = .ok (.if_icmp .ge 35, 3) := by decide +kernel
theorem d36_37 : decode c_9 37 = .ok (.return_, 1) := by decide +kernel
theorem pn_3 : plainName "java/util/Arrays" = true := by first | (simp [plainName, overriddenIn]; done) | decide +kernel
theorem ef_ck (m : MethodId) (x0 : Int32) (x1 : Int32) : entryFrame m #[(.int x0), (.int x1)] 2 = mkF m 0 #[.val (.int x0), .val (.int x1)] [] := by first | (simp [entryFrame, mkF, argsToLocals, Value.category]; done) | rfl
theorem rmck (l : Launch) (Z : State) (a0 : Array Value) (hw : ∀ d ∈ tables_1, d.before a0 Z = true) (ws : List Jvm.Cond) (p1 p2 : Int32) (h0 : Heap) (n0 : Nat) (Z0 : n0 ≤ h0.size) (h1 : ¬ (p2 < p1)) : own_M l mN_10 jdk_65_method_131_code 2 none ws ({ frames := 0, cells := 0, slots := 0, locals := 0 } : Room) Z h0 #[(.int p1), (.int p2)] (Qn h0 n0) := by
  refine own_go #[.val (.int p1), .val (.int p2)] (plainFor_of_name pn_3) (fun m => ef_ck m p1 p2) ?_
  intro p e s m below meth c s₁ hx hby hml hown hnm hlk X0 e0 hZ hrt
  have N0 := Fr.nil n0
  refine own_iloadN X0 hx hby d36_0 rfl ?_
  refine own_iloadN X0 hx hby d36_1 rfl ?_
  have hc2_34 : ¬ (p2 < p1) := h1
  refine own_icmpYes X0 hx hby 2 37 d36_2 (flt hc2_34).2.1 (by decide) (by decide) ?_
  exact own_ret0 X0 hx hlk hrt (hb hby d36_37) (by decide) (by decide) (⟨rfl, N0, e0⟩)
abbrev mN_11 : MethodName := ⟨"jdk/internal/util/Preconditions", "checkIndex", "(IILjava/util/function/BiFunction;)I"⟩
theorem d67_0 : decode c_10 0 = .ok (.iload_n 0, 1) := by decide +kernel
theorem d67_1 : decode c_10 1 = .ok (.ifCond .lt 8, 3) := by decide +kernel
theorem d67_4 : decode c_10 4 = .ok (.iload_n 0, 1) := by decide +kernel
theorem d67_5 : decode c_10 5 = .ok (.iload_n 1, 1) := by decide +kernel
theorem d67_6 : decode c_10 6 = .ok (.if_icmp .lt 10, 3) := by decide +kernel
theorem d67_16 : decode c_10 16 = .ok (.iload_n 0, 1) := by decide +kernel
theorem d67_17 : decode c_10 17 = .ok (.ireturn, 1) := by decide +kernel
theorem pn_4 : plainName "jdk/internal/util/Preconditions" = true := by first | (simp [plainName, overriddenIn]; done) | decide +kernel
theorem ef_pin (m : MethodId) (x0 : Int32) (x1 : Int32) : entryFrame m #[(.int x0), (.int x1), .null] 3 = mkF m 0 #[.val (.int x0), .val (.int x1), .val .null] [] := by first | (simp [entryFrame, mkF, argsToLocals, Value.category]; done) | rfl
theorem rmpin (l : Launch) (Z : State) (a0 : Array Value) (hw : ∀ d ∈ tables_1, d.before a0 Z = true) (ws : List Jvm.Cond) (p1 p2 : Int32) (h0 : Heap) (n0 : Nat) (Z0 : n0 ≤ h0.size) (h1 : ¬ (p1 < (0 : Int32))) (h2 : p1 < p2) : own_M l mN_11 jdk_41_method_11_code 3 (some .int) ws ({ frames := 0, cells := 0, slots := 0, locals := 0 } : Room) Z h0 #[(.int p1), (.int p2), .null] (Qv p1 h0 n0) := by
  refine own_go #[.val (.int p1), .val (.int p2), .val .null] (plainFor_of_name pn_4) (fun m => ef_pin m p1 p2) ?_
  intro p e s m below meth c s₁ hx hby hml hown hnm hlk X0 e0 hZ hrt
  have N0 := Fr.nil n0
  refine own_iloadN X0 hx hby d67_0 rfl ?_
  have hc1_35 : ¬ (p1 < (0 : Int32)) := h1
  refine own_ifNo X0 hx hby d67_1 ((if0 _ _).trans (flt hc1_35).1) ?_
  refine own_iloadN X0 hx hby d67_4 rfl ?_
  refine own_iloadN X0 hx hby d67_5 rfl ?_
  have hc6_36 : p1 < p2 := h2
  refine own_icmpYes X0 hx hby 6 16 d67_6 (tlt hc6_36).1 (by decide) (by decide) ?_
  refine own_iloadN X0 hx hby d67_16 rfl ?_
  exact own_retI X0 hx hlk hrt (hb hby d67_17) (by decide) (by decide) (⟨rfl, N0, e0⟩)
theorem ef_pir (m : MethodId) (x0 : Int32) (x1 : Int32) (x2 : Addr) : entryFrame m #[(.int x0), (.int x1), (.ref x2)] 3 = mkF m 0 #[.val (.int x0), .val (.int x1), .val (.ref x2)] [] := by first | (simp [entryFrame, mkF, argsToLocals, Value.category]; done) | rfl
theorem rmpir (l : Launch) (Z : State) (a0 : Array Value) (hw : ∀ d ∈ tables_1, d.before a0 Z = true) (ws : List Jvm.Cond) (p1 p2 : Int32) (kF : Addr) (h0 : Heap) (n0 : Nat) (Z0 : n0 ≤ h0.size) (h1 : ¬ (p1 < (0 : Int32))) (h2 : p1 < p2) : own_M l mN_11 jdk_41_method_11_code 3 (some .int) ws ({ frames := 0, cells := 0, slots := 0, locals := 0 } : Room) Z h0 #[(.int p1), (.int p2), (.ref kF)] (Qv p1 h0 n0) := by
  refine own_go #[.val (.int p1), .val (.int p2), .val (.ref kF)] (plainFor_of_name pn_4) (fun m => ef_pir m p1 p2 kF) ?_
  intro p e s m below meth c s₁ hx hby hml hown hnm hlk X0 e0 hZ hrt
  have N0 := Fr.nil n0
  refine own_iloadN X0 hx hby d67_0 rfl ?_
  have hc1_37 : ¬ (p1 < (0 : Int32)) := h1
  refine own_ifNo X0 hx hby d67_1 ((if0 _ _).trans (flt hc1_37).1) ?_
  refine own_iloadN X0 hx hby d67_4 rfl ?_
  refine own_iloadN X0 hx hby d67_5 rfl ?_
  have hc6_38 : p1 < p2 := h2
  refine own_icmpYes X0 hx hby 6 16 d67_6 (tlt hc6_38).1 (by decide) (by decide) ?_
  refine own_iloadN X0 hx hby d67_16 rfl ?_
  exact own_retI X0 hx hlk hrt (hb hby d67_17) (by decide) (by decide) (⟨rfl, N0, e0⟩)
abbrev mN_12 : MethodName := ⟨"java/lang/String", "checkIndex", "(II)V"⟩
theorem pd_2 : parseMethodDescriptor "(IILjava/util/function/BiFunction;)I" = some ⟨[.int, .int, (.object "java/util/function/BiFunction")], some .int⟩ := by decide +kernel
theorem d66_0 : decode c_11 0 = .ok (.iload_n 0, 1) := by decide +kernel
theorem d66_1 : decode c_11 1 = .ok (.iload_n 1, 1) := by decide +kernel
theorem d66_2 : decode c_11 2 = .ok (.getstatic 1053, 3) := by decide +kernel
theorem d66_5 : decode c_11 5 = .ok (.invokestatic 1059, 3) := by decide +kernel
theorem d66_8 : decode c_11 8 = .ok (.pop, 1) := by decide +kernel
theorem d66_9 : decode c_11 9 = .ok (.return_, 1) := by decide +kernel
theorem ef_ci (m : MethodId) (x0 : Int32) (x1 : Int32) : entryFrame m #[(.int x0), (.int x1)] 2 = mkF m 0 #[.val (.int x0), .val (.int x1)] [] := by first | (simp [entryFrame, mkF, argsToLocals, Value.category]; done) | rfl
theorem rmci (l : Launch) (Z : State) (a0 : Array Value) (hw : ∀ d ∈ tables_1, d.before a0 Z = true) (ws : List Jvm.Cond) (p1 p2 : Int32) (rS : Value) (h0 : Heap) (n0 : Nat) (Z0 : n0 ≤ h0.size) (h1 : ¬ (p1 < (0 : Int32))) (h2 : p1 < p2) (SF : Sta Z h0 "jdk/internal/util/Preconditions" "SIOOBE_FORMATTER" "Ljava/util/function/BiFunction;" rS) (hrS : rS.isRef = true) : own_M l mN_12 jdk_42_method_155_code 2 none ws ({ frames := 1, cells := 0, slots := 0, locals := 14 } : Room) Z h0 #[(.int p1), (.int p2)] (Qn h0 n0) := by
  refine own_go #[.val (.int p1), .val (.int p2)] (plainFor_of_name pn_0) (fun m => ef_ci m p1 p2) ?_
  intro p e s m below meth c s₁ hx hby hml hown hnm hlk X0 e0 hZ hrt
  have N0 := Fr.nil n0
  refine own_iloadN X0 hx hby d66_0 rfl ?_
  refine own_iloadN X0 hx hby d66_1 rfl ?_
  rcases ref_cases hrS with rfl | ⟨kF, rfl⟩
  · skip
    obtain ⟨T39, X39, e39, st39⟩ := getS2 X0 hx hZ hown (host := "") (Or.inl (own_w hw 220 rfl)) Via.refl e0 SF (g := (mkF m 2 #[.val (.int p1), .val (.int p2)] [(.int p2), (.int p1)])) rfl (hb hby d66_2)
    refine own_of (U' := (T39.setTop (mkF m 5 #[.val (.int p1), .val (.int p2)] [.null, (.int p2), (.int p1)]))) (st39) ?_
    obtain ⟨_, _, ⟨T40, L40, k40, n40⟩, -, X40, ⟨Lc40, hQ40, l40, y40, z40⟩, st40⟩ := Jvm.LawKit.callS X39 hx (y := mN_11) hown (oV hZ hw 291 rfl) (oV hZ hw 292 rfl) (oV hZ hw 221 rfl) (oV hZ hw 293 rfl) (by decide) (backOf (W := 0) (rmpin l Z a0 hw [] p1 p2 h0 n0 Z0 h1 h2) hZ (own_w hw 293 rfl) (own_w hw 221 rfl) (by decide) (by decide)) (g := (mkF m 5 #[.val (.int p1), .val (.int p2)] [.null, (.int p2), (.int p1)])) rfl (by rw [hml]; rfl) (argsL := [(.int p1), (.int p2), .null]) (rest := []) (lenOf pd_2 rfl) rfl (by exact oZ rfl) (hb hby d66_5) (fun _ _ => ⟨rfl, e39, (by decide : 0 + 0 ≤ _), (by decide : 0 + 0 ≤ _)⟩)
    dsimp only [Pt.U, Pt.locs, Pt.cells, Pt.slots] at X40 l40 y40 z40 st40 hQ40
    rw [l40, y40, z40] at X40
    obtain ⟨rfl, Nq40, e40⟩ := hQ40
    have N40 := Fr.app N0 Nq40
    refine own_of (U' := (T40.setTop (mkF m 8 #[.val (.int p1), .val (.int p2)] [(.int p1)]))) (st40) ?_
    refine own_pop X40 hx hby d66_8 rfl ?_
    exact own_ret0 X40 hx hlk hrt (hb hby d66_9) (by decide) (by decide) (⟨rfl, N40, e40⟩)
  · skip
    obtain ⟨T41, X41, e41, st41⟩ := getS2 X0 hx hZ hown (host := "") (Or.inl (own_w hw 220 rfl)) Via.refl e0 SF (g := (mkF m 2 #[.val (.int p1), .val (.int p2)] [(.int p2), (.int p1)])) rfl (hb hby d66_2)
    refine own_of (U' := (T41.setTop (mkF m 5 #[.val (.int p1), .val (.int p2)] [(.ref kF), (.int p2), (.int p1)]))) (st41) ?_
    obtain ⟨_, _, ⟨T42, L42, k42, n42⟩, -, X42, ⟨Lc42, hQ42, l42, y42, z42⟩, st42⟩ := Jvm.LawKit.callS X41 hx (y := mN_11) hown (oV hZ hw 291 rfl) (oV hZ hw 292 rfl) (oV hZ hw 221 rfl) (oV hZ hw 293 rfl) (by decide) (backOf (W := 0) (rmpir l Z a0 hw [] p1 p2 kF h0 n0 Z0 h1 h2) hZ (own_w hw 293 rfl) (own_w hw 221 rfl) (by decide) (by decide)) (g := (mkF m 5 #[.val (.int p1), .val (.int p2)] [(.ref kF), (.int p2), (.int p1)])) rfl (by rw [hml]; rfl) (argsL := [(.int p1), (.int p2), (.ref kF)]) (rest := []) (lenOf pd_2 rfl) rfl (by exact oZ rfl) (hb hby d66_5) (fun _ _ => ⟨rfl, e41, (by decide : 0 + 0 ≤ _), (by decide : 0 + 0 ≤ _)⟩)
    dsimp only [Pt.U, Pt.locs, Pt.cells, Pt.slots] at X42 l42 y42 z42 st42 hQ42
    rw [l42, y42, z42] at X42
    obtain ⟨rfl, Nq42, e42⟩ := hQ42
    have N42 := Fr.app N0 Nq42
    refine own_of (U' := (T42.setTop (mkF m 8 #[.val (.int p1), .val (.int p2)] [(.int p1)]))) (st42) ?_
    refine own_pop X42 hx hby d66_8 rfl ?_
    exact own_ret0 X42 hx hlk hrt (hb hby d66_9) (by decide) (by decide) (⟨rfl, N42, e42⟩)
abbrev mN_13 : MethodName := ⟨"jdk/internal/util/Preconditions", "checkFromToIndex", "(IIILjava/util/function/BiFunction;)I"⟩
theorem d48_0 : decode c_12 0 = .ok (.iload_n 0, 1) := by decide +kernel
theorem d48_1 : decode c_12 1 = .ok (.ifCond .lt 13, 3) := by decide +kernel
theorem d48_4 : decode c_12 4 = .ok (.iload_n 0, 1) := by decide +kernel
theorem d48_5 : decode c_12 5 = .ok (.iload_n 1, 1) := by decide +kernel
theorem d48_6 : decode c_12 6 = .ok (.if_icmp .gt 8, 3) := by decide +kernel
theorem d48_9 : decode c_12 9 = .ok (.iload_n 1, 1) := by decide +kernel
theorem d48_10 : decode c_12 10 = .ok (.iload_n 2, 1) := by decide +kernel
theorem d48_11 : decode c_12 11 = .ok (.if_icmp .le 11, 3) := by decide +kernel
theorem d48_22 : decode c_12 22 = .ok (.iload_n 0, 1) := by decide +kernel
theorem d48_23 : decode c_12 23 = .ok (.ireturn, 1) := by decide +kernel
theorem ef_ftn (m : MethodId) (x0 : Int32) (x1 : Int32) (x2 : Int32) : entryFrame m #[(.int x0), (.int x1), (.int x2), .null] 4 = mkF m 0 #[.val (.int x0), .val (.int x1), .val (.int x2), .val .null] [] := by first | (simp [entryFrame, mkF, argsToLocals, Value.category]; done) | rfl
theorem rmftn (l : Launch) (Z : State) (a0 : Array Value) (hw : ∀ d ∈ tables_1, d.before a0 Z = true) (ws : List Jvm.Cond) (p1 p2 p3 : Int32) (h0 : Heap) (n0 : Nat) (Z0 : n0 ≤ h0.size) (h1 : ¬ (p1 < (0 : Int32))) (h2 : ¬ (p2 < p1)) (h3 : ¬ (p3 < p2)) : own_M l mN_13 jdk_41_method_12_code 4 (some .int) ws ({ frames := 0, cells := 0, slots := 0, locals := 0 } : Room) Z h0 #[(.int p1), (.int p2), (.int p3), .null] (Qv p1 h0 n0) := by
  refine own_go #[.val (.int p1), .val (.int p2), .val (.int p3), .val .null] (plainFor_of_name pn_4) (fun m => ef_ftn m p1 p2 p3) ?_
  intro p e s m below meth c s₁ hx hby hml hown hnm hlk X0 e0 hZ hrt
  have N0 := Fr.nil n0
  refine own_iloadN X0 hx hby d48_0 rfl ?_
  have hc1_43 : ¬ (p1 < (0 : Int32)) := h1
  refine own_ifNo X0 hx hby d48_1 ((if0 _ _).trans (flt hc1_43).1) ?_
  refine own_iloadN X0 hx hby d48_4 rfl ?_
  refine own_iloadN X0 hx hby d48_5 rfl ?_
  have hc6_44 : ¬ (p2 < p1) := h2
  refine own_icmpNo X0 hx hby d48_6 (flt hc6_44).2.2.1 ?_
  refine own_iloadN X0 hx hby d48_9 rfl ?_
  refine own_iloadN X0 hx hby d48_10 rfl ?_
  have hc11_45 : ¬ (p3 < p2) := h3
  refine own_icmpYes X0 hx hby 11 22 d48_11 (flt hc11_45).2.2.2 (by decide) (by decide) ?_
  refine own_iloadN X0 hx hby d48_22 rfl ?_
  exact own_retI X0 hx hlk hrt (hb hby d48_23) (by decide) (by decide) (⟨rfl, N0, e0⟩)
theorem ef_ftr (m : MethodId) (x0 : Int32) (x1 : Int32) (x2 : Int32) (x3 : Addr) : entryFrame m #[(.int x0), (.int x1), (.int x2), (.ref x3)] 4 = mkF m 0 #[.val (.int x0), .val (.int x1), .val (.int x2), .val (.ref x3)] [] := by first | (simp [entryFrame, mkF, argsToLocals, Value.category]; done) | rfl
theorem rmftr (l : Launch) (Z : State) (a0 : Array Value) (hw : ∀ d ∈ tables_1, d.before a0 Z = true) (ws : List Jvm.Cond) (p1 p2 p3 : Int32) (kF : Addr) (h0 : Heap) (n0 : Nat) (Z0 : n0 ≤ h0.size) (h1 : ¬ (p1 < (0 : Int32))) (h2 : ¬ (p2 < p1)) (h3 : ¬ (p3 < p2)) : own_M l mN_13 jdk_41_method_12_code 4 (some .int) ws ({ frames := 0, cells := 0, slots := 0, locals := 0 } : Room) Z h0 #[(.int p1), (.int p2), (.int p3), (.ref kF)] (Qv p1 h0 n0) := by
  refine own_go #[.val (.int p1), .val (.int p2), .val (.int p3), .val (.ref kF)] (plainFor_of_name pn_4) (fun m => ef_ftr m p1 p2 p3 kF) ?_
  intro p e s m below meth c s₁ hx hby hml hown hnm hlk X0 e0 hZ hrt
  have N0 := Fr.nil n0
  refine own_iloadN X0 hx hby d48_0 rfl ?_
  have hc1_46 : ¬ (p1 < (0 : Int32)) := h1
  refine own_ifNo X0 hx hby d48_1 ((if0 _ _).trans (flt hc1_46).1) ?_
  refine own_iloadN X0 hx hby d48_4 rfl ?_
  refine own_iloadN X0 hx hby d48_5 rfl ?_
  have hc6_47 : ¬ (p2 < p1) := h2
  refine own_icmpNo X0 hx hby d48_6 (flt hc6_47).2.2.1 ?_
  refine own_iloadN X0 hx hby d48_9 rfl ?_
  refine own_iloadN X0 hx hby d48_10 rfl ?_
  have hc11_48 : ¬ (p3 < p2) := h3
  refine own_icmpYes X0 hx hby 11 22 d48_11 (flt hc11_48).2.2.2 (by decide) (by decide) ?_
  refine own_iloadN X0 hx hby d48_22 rfl ?_
  exact own_retI X0 hx hlk hrt (hb hby d48_23) (by decide) (by decide) (⟨rfl, N0, e0⟩)
abbrev mN_14 : MethodName := ⟨"java/lang/String", "checkBoundsBeginEnd", "(III)V"⟩
theorem pd_3 : parseMethodDescriptor "(IIILjava/util/function/BiFunction;)I" = some ⟨[.int, .int, .int, (.object "java/util/function/BiFunction")], some .int⟩ := by decide +kernel
theorem d47_0 : decode c_13 0 = .ok (.iload_n 0, 1) := by decide +kernel
theorem d47_1 : decode c_13 1 = .ok (.iload_n 1, 1) := by decide +kernel
theorem d47_2 : decode c_13 2 = .ok (.iload_n 2, 1) := by decide +kernel
theorem d47_3 : decode c_13 3 = .ok (.getstatic 1053, 3) := by decide +kernel
theorem d47_6 : decode c_13 6 = .ok (.invokestatic 1062, 3) := by decide +kernel
theorem d47_9 : decode c_13 9 = .ok (.pop, 1) := by decide +kernel
theorem d47_10 : decode c_13 10 = .ok (.return_, 1) := by decide +kernel
theorem ef_be (m : MethodId) (x0 : Int32) (x1 : Int32) (x2 : Int32) : entryFrame m #[(.int x0), (.int x1), (.int x2)] 3 = mkF m 0 #[.val (.int x0), .val (.int x1), .val (.int x2)] [] := by first | (simp [entryFrame, mkF, argsToLocals, Value.category]; done) | rfl
theorem rmbe (l : Launch) (Z : State) (a0 : Array Value) (hw : ∀ d ∈ tables_1, d.before a0 Z = true) (ws : List Jvm.Cond) (p1 p2 p3 : Int32) (rS : Value) (h0 : Heap) (n0 : Nat) (Z0 : n0 ≤ h0.size) (h1 : ¬ (p1 < (0 : Int32))) (h2 : ¬ (p2 < p1)) (h3 : ¬ (p3 < p2)) (SF : Sta Z h0 "jdk/internal/util/Preconditions" "SIOOBE_FORMATTER" "Ljava/util/function/BiFunction;" rS) (hrS : rS.isRef = true) : own_M l mN_14 jdk_42_method_158_code 3 none ws ({ frames := 1, cells := 0, slots := 0, locals := 15 } : Room) Z h0 #[(.int p1), (.int p2), (.int p3)] (Qn h0 n0) := by
  refine own_go #[.val (.int p1), .val (.int p2), .val (.int p3)] (plainFor_of_name pn_0) (fun m => ef_be m p1 p2 p3) ?_
  intro p e s m below meth c s₁ hx hby hml hown hnm hlk X0 e0 hZ hrt
  have N0 := Fr.nil n0
  refine own_iloadN X0 hx hby d47_0 rfl ?_
  refine own_iloadN X0 hx hby d47_1 rfl ?_
  refine own_iloadN X0 hx hby d47_2 rfl ?_
  rcases ref_cases hrS with rfl | ⟨kF, rfl⟩
  · skip
    obtain ⟨T49, X49, e49, st49⟩ := getS2 X0 hx hZ hown (host := "") (Or.inl (own_w hw 220 rfl)) Via.refl e0 SF (g := (mkF m 3 #[.val (.int p1), .val (.int p2), .val (.int p3)] [(.int p3), (.int p2), (.int p1)])) rfl (hb hby d47_3)
    refine own_of (U' := (T49.setTop (mkF m 6 #[.val (.int p1), .val (.int p2), .val (.int p3)] [.null, (.int p3), (.int p2), (.int p1)]))) (st49) ?_
    obtain ⟨_, _, ⟨T50, L50, k50, n50⟩, -, X50, ⟨Lc50, hQ50, l50, y50, z50⟩, st50⟩ := Jvm.LawKit.callS X49 hx (y := mN_13) hown (oV hZ hw 222 rfl) (oV hZ hw 223 rfl) (oV hZ hw 221 rfl) (oV hZ hw 224 rfl) (by decide) (backOf (W := 0) (rmftn l Z a0 hw [] p1 p2 p3 h0 n0 Z0 h1 h2 h3) hZ (own_w hw 224 rfl) (own_w hw 221 rfl) (by decide) (by decide)) (g := (mkF m 6 #[.val (.int p1), .val (.int p2), .val (.int p3)] [.null, (.int p3), (.int p2), (.int p1)])) rfl (by rw [hml]; rfl) (argsL := [(.int p1), (.int p2), (.int p3), .null]) (rest := []) (lenOf pd_3 rfl) rfl (by exact oZ rfl) (hb hby d47_6) (fun _ _ => ⟨rfl, e49, (by decide : 0 + 0 ≤ _), (by decide : 0 + 0 ≤ _)⟩)
    dsimp only [Pt.U, Pt.locs, Pt.cells, Pt.slots] at X50 l50 y50 z50 st50 hQ50
    rw [l50, y50, z50] at X50
    obtain ⟨rfl, Nq50, e50⟩ := hQ50
    have N50 := Fr.app N0 Nq50
    refine own_of (U' := (T50.setTop (mkF m 9 #[.val (.int p1), .val (.int p2), .val (.int p3)] [(.int p1)]))) (st50) ?_
    refine own_pop X50 hx hby d47_9 rfl ?_
    exact own_ret0 X50 hx hlk hrt (hb hby d47_10) (by decide) (by decide) (⟨rfl, N50, e50⟩)
  · skip
    obtain ⟨T51, X51, e51, st51⟩ := getS2 X0 hx hZ hown (host := "") (Or.inl (own_w hw 220 rfl)) Via.refl e0 SF (g := (mkF m 3 #[.val (.int p1), .val (.int p2), .val (.int p3)] [(.int p3), (.int p2), (.int p1)])) rfl (hb hby d47_3)
    refine own_of (U' := (T51.setTop (mkF m 6 #[.val (.int p1), .val (.int p2), .val (.int p3)] [(.ref kF), (.int p3), (.int p2), (.int p1)]))) (st51) ?_
    obtain ⟨_, _, ⟨T52, L52, k52, n52⟩, -, X52, ⟨Lc52, hQ52, l52, y52, z52⟩, st52⟩ := Jvm.LawKit.callS X51 hx (y := mN_13) hown (oV hZ hw 222 rfl) (oV hZ hw 223 rfl) (oV hZ hw 221 rfl) (oV hZ hw 224 rfl) (by decide) (backOf (W := 0) (rmftr l Z a0 hw [] p1 p2 p3 kF h0 n0 Z0 h1 h2 h3) hZ (own_w hw 224 rfl) (own_w hw 221 rfl) (by decide) (by decide)) (g := (mkF m 6 #[.val (.int p1), .val (.int p2), .val (.int p3)] [(.ref kF), (.int p3), (.int p2), (.int p1)])) rfl (by rw [hml]; rfl) (argsL := [(.int p1), (.int p2), (.int p3), (.ref kF)]) (rest := []) (lenOf pd_3 rfl) rfl (by exact oZ rfl) (hb hby d47_6) (fun _ _ => ⟨rfl, e51, (by decide : 0 + 0 ≤ _), (by decide : 0 + 0 ≤ _)⟩)
    dsimp only [Pt.U, Pt.locs, Pt.cells, Pt.slots] at X52 l52 y52 z52 st52 hQ52
    rw [l52, y52, z52] at X52
    obtain ⟨rfl, Nq52, e52⟩ := hQ52
    have N52 := Fr.app N0 Nq52
    refine own_of (U' := (T52.setTop (mkF m 9 #[.val (.int p1), .val (.int p2), .val (.int p3)] [(.int p1)]))) (st52) ?_
    refine own_pop X52 hx hby d47_9 rfl ?_
    exact own_ret0 X52 hx hlk hrt (hb hby d47_10) (by decide) (by decide) (⟨rfl, N52, e52⟩)
abbrev mN_15 : MethodName := ⟨"jdk/internal/util/Preconditions", "checkFromIndexSize", "(IIILjava/util/function/BiFunction;)I"⟩
theorem d63_0 : decode c_14 0 = .ok (.iload_n 2, 1) := by decide +kernel
theorem d63_1 : decode c_14 1 = .ok (.iload_n 0, 1) := by decide +kernel
theorem d63_2 : decode c_14 2 = .ok (.ior, 1) := by decide +kernel
theorem d63_3 : decode c_14 3 = .ok (.iload_n 1, 1) := by decide +kernel
theorem d63_4 : decode c_14 4 = .ok (.ior, 1) := by decide +kernel
theorem d63_5 : decode c_14 5 = .ok (.ifCond .lt 10, 3) := by decide +kernel
theorem d63_8 : decode c_14 8 = .ok (.iload_n 1, 1) := by decide +kernel
theorem d63_9 : decode c_14 9 = .ok (.iload_n 2, 1) := by decide +kernel
theorem d63_10 : decode c_14 10 = .ok (.iload_n 0, 1) := by decide +kernel
theorem d63_11 : decode c_14 11 = .ok (.isub, 1) := by decide +kernel
theorem d63_12 : decode c_14 12 = .ok (.if_icmp .le 11, 3) := by decide +kernel
theorem d63_23 : decode c_14 23 = .ok (.iload_n 0, 1) := by decide +kernel
theorem d63_24 : decode c_14 24 = .ok (.ireturn, 1) := by decide +kernel
theorem ef_fsn (m : MethodId) (x0 : Int32) (x1 : Int32) (x2 : Int32) : entryFrame m #[(.int x0), (.int x1), (.int x2), .null] 4 = mkF m 0 #[.val (.int x0), .val (.int x1), .val (.int x2), .val .null] [] := by first | (simp [entryFrame, mkF, argsToLocals, Value.category]; done) | rfl
theorem rmfsn (l : Launch) (Z : State) (a0 : Array Value) (hw : ∀ d ∈ tables_1, d.before a0 Z = true) (ws : List Jvm.Cond) (p1 p2 p3 : Int32) (h0 : Heap) (n0 : Nat) (Z0 : n0 ≤ h0.size) (h1 : ¬ (((p3 ||| p1) ||| p2) < (0 : Int32))) (h2 : ¬ ((p3 - p1) < p2)) : own_M l mN_15 jdk_41_method_13_code 4 (some .int) ws ({ frames := 0, cells := 0, slots := 0, locals := 0 } : Room) Z h0 #[(.int p1), (.int p2), (.int p3), .null] (Qv p1 h0 n0) := by
  refine own_go #[.val (.int p1), .val (.int p2), .val (.int p3), .val .null] (plainFor_of_name pn_4) (fun m => ef_fsn m p1 p2 p3) ?_
  intro p e s m below meth c s₁ hx hby hml hown hnm hlk X0 e0 hZ hrt
  have N0 := Fr.nil n0
  refine own_iloadN X0 hx hby d63_0 rfl ?_
  refine own_iloadN X0 hx hby d63_1 rfl ?_
  refine own_ior X0 hx hby d63_2 ?_
  refine own_iloadN X0 hx hby d63_3 rfl ?_
  refine own_ior X0 hx hby d63_4 ?_
  have hc5_53 : ¬ (((p3 ||| p1) ||| p2) < (0 : Int32)) := h1
  refine own_ifNo X0 hx hby d63_5 ((if0 _ _).trans (flt hc5_53).1) ?_
  refine own_iloadN X0 hx hby d63_8 rfl ?_
  refine own_iloadN X0 hx hby d63_9 rfl ?_
  refine own_iloadN X0 hx hby d63_10 rfl ?_
  refine own_isub X0 hx hby d63_11 ?_
  have hc12_54 : ¬ ((p3 - p1) < p2) := h2
  refine own_icmpYes X0 hx hby 12 23 d63_12 (flt hc12_54).2.2.2 (by decide) (by decide) ?_
  refine own_iloadN X0 hx hby d63_23 rfl ?_
  exact own_retI X0 hx hlk hrt (hb hby d63_24) (by decide) (by decide) (⟨rfl, N0, e0⟩)
theorem ef_fsr (m : MethodId) (x0 : Int32) (x1 : Int32) (x2 : Int32) (x3 : Addr) : entryFrame m #[(.int x0), (.int x1), (.int x2), (.ref x3)] 4 = mkF m 0 #[.val (.int x0), .val (.int x1), .val (.int x2), .val (.ref x3)] [] := by first | (simp [entryFrame, mkF, argsToLocals, Value.category]; done) | rfl
theorem rmfsr (l : Launch) (Z : State) (a0 : Array Value) (hw : ∀ d ∈ tables_1, d.before a0 Z = true) (ws : List Jvm.Cond) (p1 p2 p3 : Int32) (kF : Addr) (h0 : Heap) (n0 : Nat) (Z0 : n0 ≤ h0.size) (h1 : ¬ (((p3 ||| p1) ||| p2) < (0 : Int32))) (h2 : ¬ ((p3 - p1) < p2)) : own_M l mN_15 jdk_41_method_13_code 4 (some .int) ws ({ frames := 0, cells := 0, slots := 0, locals := 0 } : Room) Z h0 #[(.int p1), (.int p2), (.int p3), (.ref kF)] (Qv p1 h0 n0) := by
  refine own_go #[.val (.int p1), .val (.int p2), .val (.int p3), .val (.ref kF)] (plainFor_of_name pn_4) (fun m => ef_fsr m p1 p2 p3 kF) ?_
  intro p e s m below meth c s₁ hx hby hml hown hnm hlk X0 e0 hZ hrt
  have N0 := Fr.nil n0
  refine own_iloadN X0 hx hby d63_0 rfl ?_
  refine own_iloadN X0 hx hby d63_1 rfl ?_
  refine own_ior X0 hx hby d63_2 ?_
  refine own_iloadN X0 hx hby d63_3 rfl ?_
  refine own_ior X0 hx hby d63_4 ?_
  have hc5_55 : ¬ (((p3 ||| p1) ||| p2) < (0 : Int32)) := h1
  refine own_ifNo X0 hx hby d63_5 ((if0 _ _).trans (flt hc5_55).1) ?_
  refine own_iloadN X0 hx hby d63_8 rfl ?_
  refine own_iloadN X0 hx hby d63_9 rfl ?_
  refine own_iloadN X0 hx hby d63_10 rfl ?_
  refine own_isub X0 hx hby d63_11 ?_
  have hc12_56 : ¬ ((p3 - p1) < p2) := h2
  refine own_icmpYes X0 hx hby 12 23 d63_12 (flt hc12_56).2.2.2 (by decide) (by decide) ?_
  refine own_iloadN X0 hx hby d63_23 rfl ?_
  exact own_retI X0 hx hlk hrt (hb hby d63_24) (by decide) (by decide) (⟨rfl, N0, e0⟩)
abbrev mN_16 : MethodName := ⟨"java/lang/String", "checkBoundsOffCount", "(III)I"⟩
theorem d62_0 : decode c_15 0 = .ok (.iload_n 0, 1) := by decide +kernel
theorem d62_1 : decode c_15 1 = .ok (.iload_n 1, 1) := by decide +kernel
theorem d62_2 : decode c_15 2 = .ok (.iload_n 2, 1) := by decide +kernel
theorem d62_3 : decode c_15 3 = .ok (.getstatic 1053, 3) := by decide +kernel
theorem d62_6 : decode c_15 6 = .ok (.invokestatic 1065, 3) := by decide +kernel
theorem d62_9 : decode c_15 9 = .ok (.ireturn, 1) := by decide +kernel
theorem ef_oc (m : MethodId) (x0 : Int32) (x1 : Int32) (x2 : Int32) : entryFrame m #[(.int x0), (.int x1), (.int x2)] 3 = mkF m 0 #[.val (.int x0), .val (.int x1), .val (.int x2)] [] := by first | (simp [entryFrame, mkF, argsToLocals, Value.category]; done) | rfl
theorem rmoc (l : Launch) (Z : State) (a0 : Array Value) (hw : ∀ d ∈ tables_1, d.before a0 Z = true) (ws : List Jvm.Cond) (p1 p2 p3 : Int32) (rS : Value) (h0 : Heap) (n0 : Nat) (Z0 : n0 ≤ h0.size) (h1 : ¬ (((p3 ||| p1) ||| p2) < (0 : Int32))) (h2 : ¬ ((p3 - p1) < p2)) (SF : Sta Z h0 "jdk/internal/util/Preconditions" "SIOOBE_FORMATTER" "Ljava/util/function/BiFunction;" rS) (hrS : rS.isRef = true) : own_M l mN_16 jdk_42_method_157_code 3 (some .int) ws ({ frames := 1, cells := 0, slots := 0, locals := 15 } : Room) Z h0 #[(.int p1), (.int p2), (.int p3)] (Qv p1 h0 n0) := by
  refine own_go #[.val (.int p1), .val (.int p2), .val (.int p3)] (plainFor_of_name pn_0) (fun m => ef_oc m p1 p2 p3) ?_
  intro p e s m below meth c s₁ hx hby hml hown hnm hlk X0 e0 hZ hrt
  have N0 := Fr.nil n0
  refine own_iloadN X0 hx hby d62_0 rfl ?_
  refine own_iloadN X0 hx hby d62_1 rfl ?_
  refine own_iloadN X0 hx hby d62_2 rfl ?_
  rcases ref_cases hrS with rfl | ⟨kF, rfl⟩
  · skip
    obtain ⟨T57, X57, e57, st57⟩ := getS2 X0 hx hZ hown (host := "") (Or.inl (own_w hw 220 rfl)) Via.refl e0 SF (g := (mkF m 3 #[.val (.int p1), .val (.int p2), .val (.int p3)] [(.int p3), (.int p2), (.int p1)])) rfl (hb hby d62_3)
    refine own_of (U' := (T57.setTop (mkF m 6 #[.val (.int p1), .val (.int p2), .val (.int p3)] [.null, (.int p3), (.int p2), (.int p1)]))) (st57) ?_
    obtain ⟨_, _, ⟨T58, L58, k58, n58⟩, -, X58, ⟨Lc58, hQ58, l58, y58, z58⟩, st58⟩ := Jvm.LawKit.callS X57 hx (y := mN_15) hown (oV hZ hw 279 rfl) (oV hZ hw 280 rfl) (oV hZ hw 221 rfl) (oV hZ hw 281 rfl) (by decide) (backOf (W := 0) (rmfsn l Z a0 hw [] p1 p2 p3 h0 n0 Z0 h1 h2) hZ (own_w hw 281 rfl) (own_w hw 221 rfl) (by decide) (by decide)) (g := (mkF m 6 #[.val (.int p1), .val (.int p2), .val (.int p3)] [.null, (.int p3), (.int p2), (.int p1)])) rfl (by rw [hml]; rfl) (argsL := [(.int p1), (.int p2), (.int p3), .null]) (rest := []) (lenOf pd_3 rfl) rfl (by exact oZ rfl) (hb hby d62_6) (fun _ _ => ⟨rfl, e57, (by decide : 0 + 0 ≤ _), (by decide : 0 + 0 ≤ _)⟩)
    dsimp only [Pt.U, Pt.locs, Pt.cells, Pt.slots] at X58 l58 y58 z58 st58 hQ58
    rw [l58, y58, z58] at X58
    obtain ⟨rfl, Nq58, e58⟩ := hQ58
    have N58 := Fr.app N0 Nq58
    refine own_of (U' := (T58.setTop (mkF m 9 #[.val (.int p1), .val (.int p2), .val (.int p3)] [(.int p1)]))) (st58) ?_
    exact own_retI X58 hx hlk hrt (hb hby d62_9) (by decide) (by decide) (⟨rfl, N58, e58⟩)
  · skip
    obtain ⟨T59, X59, e59, st59⟩ := getS2 X0 hx hZ hown (host := "") (Or.inl (own_w hw 220 rfl)) Via.refl e0 SF (g := (mkF m 3 #[.val (.int p1), .val (.int p2), .val (.int p3)] [(.int p3), (.int p2), (.int p1)])) rfl (hb hby d62_3)
    refine own_of (U' := (T59.setTop (mkF m 6 #[.val (.int p1), .val (.int p2), .val (.int p3)] [(.ref kF), (.int p3), (.int p2), (.int p1)]))) (st59) ?_
    obtain ⟨_, _, ⟨T60, L60, k60, n60⟩, -, X60, ⟨Lc60, hQ60, l60, y60, z60⟩, st60⟩ := Jvm.LawKit.callS X59 hx (y := mN_15) hown (oV hZ hw 279 rfl) (oV hZ hw 280 rfl) (oV hZ hw 221 rfl) (oV hZ hw 281 rfl) (by decide) (backOf (W := 0) (rmfsr l Z a0 hw [] p1 p2 p3 kF h0 n0 Z0 h1 h2) hZ (own_w hw 281 rfl) (own_w hw 221 rfl) (by decide) (by decide)) (g := (mkF m 6 #[.val (.int p1), .val (.int p2), .val (.int p3)] [(.ref kF), (.int p3), (.int p2), (.int p1)])) rfl (by rw [hml]; rfl) (argsL := [(.int p1), (.int p2), (.int p3), (.ref kF)]) (rest := []) (lenOf pd_3 rfl) rfl (by exact oZ rfl) (hb hby d62_6) (fun _ _ => ⟨rfl, e59, (by decide : 0 + 0 ≤ _), (by decide : 0 + 0 ≤ _)⟩)
    dsimp only [Pt.U, Pt.locs, Pt.cells, Pt.slots] at X60 l60 y60 z60 st60 hQ60
    rw [l60, y60, z60] at X60
    obtain ⟨rfl, Nq60, e60⟩ := hQ60
    have N60 := Fr.app N0 Nq60
    refine own_of (U' := (T60.setTop (mkF m 9 #[.val (.int p1), .val (.int p2), .val (.int p3)] [(.int p1)]))) (st60) ?_
    exact own_retI X60 hx hlk hrt (hb hby d62_9) (by decide) (by decide) (⟨rfl, N60, e60⟩)
abbrev mN_17 : MethodName := ⟨"java/lang/StringUTF16", "length", "([B)I"⟩
theorem d61_0 : decode c_16 0 = .ok (.aload_n 0, 1) := by decide +kernel
theorem d61_1 : decode c_16 1 = .ok (.arraylength, 1) := by decide +kernel
theorem d61_2 : decode c_16 2 = .ok (.iconst 1, 1) := by decide +kernel
theorem d61_3 : decode c_16 3 = .ok (.ishr, 1) := by decide +kernel
theorem d61_4 : decode c_16 4 = .ok (.ireturn, 1) := by decide +kernel
theorem pn_5 : plainName "java/lang/StringUTF16" = true := by first | (simp [plainName, overriddenIn]; done) | decide +kernel
theorem ef_ul (m : MethodId) (x0 : Addr) : entryFrame m #[(.ref x0)] 1 = mkF m 0 #[.val (.ref x0)] [] := by first | (simp [entryFrame, mkF, argsToLocals, Value.category]; done) | rfl
theorem rmul (l : Launch) (Z : State) (a0 : Array Value) (hw : ∀ d ∈ tables_1, d.before a0 Z = true) (ws : List Jvm.Cond) (b : Addr) (kb : ClassId) (z : Int32) (cs : List Int32) (h0 : Heap) (n0 : Nat) (Z0 : n0 ≤ h0.size) (Vb : Arv Z h0 b kb .byte z (List.map Value.int cs) (.int 0)) : own_M l mN_17 jdk_52_method_6_code 1 (some .int) ws ({ frames := 0, cells := 0, slots := 0, locals := 0 } : Room) Z h0 #[(.ref b)] (Qv (z >>> ((1 : Int32) &&& 31)) h0 n0) := by
  refine own_go #[.val (.ref b)] (plainFor_of_name pn_5) (fun m => ef_ul m b) ?_
  intro p e s m below meth c s₁ hx hby hml hown hnm hlk X0 e0 hZ hrt
  have N0 := Fr.nil n0
  refine own_aloadN X0 hx hby d61_0 rfl rfl ?_
  obtain ⟨cl61, Ar61, qa61, Sa61, Na61, -, -⟩ := id Vb
  have al61 := X0.arraylength hx (by rw [e0]; exact Ar61.1) (State.isArrayOf_alike hZ.alike Ar61.2.1) (g := (mkF m 1 #[.val (.ref b)] [(.ref b)])) rfl rfl (hb hby d61_1)
  rw [len_of Sa61 Na61] at al61
  refine own_of (U' := (s₁.setTop (mkF m 2 #[.val (.ref b)] [(.int z)]))) (al61) ?_
  refine own_iconst X0 hx hby 1 d61_2 rfl ?_
  refine own_ishr X0 hx hby d61_3 ?_
  exact own_retI X0 hx hlk hrt (hb hby d61_4) (by decide) (by decide) (⟨rfl, N0, e0⟩)
abbrev mN_18 : MethodName := ⟨"java/lang/StringUTF16", "checkIndex", "(I[B)V"⟩
theorem pd_4 : parseMethodDescriptor "([B)I" = some ⟨[(.array .byte)], some .int⟩ := by decide +kernel
theorem pd_5 : parseMethodDescriptor "(II)V" = some ⟨[.int, .int], none⟩ := by decide +kernel
theorem d65_0 : decode c_17 0 = .ok (.iload_n 0, 1) := by decide +kernel
theorem d65_1 : decode c_17 1 = .ok (.aload_n 1, 1) := by decide +kernel
theorem d65_2 : decode c_17 2 = .ok (.invokestatic 48, 3) := by decide +kernel
theorem d65_5 : decode c_17 5 = .ok (.invokestatic 414, 3) := by decide +kernel
theorem d65_8 : decode c_17 8 = .ok (.return_, 1) := by decide +kernel
theorem ef_uk (m : MethodId) (x0 : Int32) (x1 : Addr) : entryFrame m #[(.int x0), (.ref x1)] 2 = mkF m 0 #[.val (.int x0), .val (.ref x1)] [] := by first | (simp [entryFrame, mkF, argsToLocals, Value.category]; done) | rfl
theorem rmuk (l : Launch) (Z : State) (a0 : Array Value) (hw : ∀ d ∈ tables_1, d.before a0 Z = true) (ws : List Jvm.Cond) (p1 : Int32) (b : Addr) (kb : ClassId) (z : Int32) (cs : List Int32) (rS : Value) (h0 : Heap) (n0 : Nat) (Z0 : n0 ≤ h0.size) (Vb : Arv Z h0 b kb .byte z (List.map Value.int cs) (.int 0)) (h1 : ¬ (p1 < (0 : Int32))) (h2 : p1 < (z >>> ((1 : Int32) &&& 31))) (SF : Sta Z h0 "jdk/internal/util/Preconditions" "SIOOBE_FORMATTER" "Ljava/util/function/BiFunction;" rS) (hrS : rS.isRef = true) : own_M l mN_18 jdk_52_method_91_code 2 none ws ({ frames := 2, cells := 0, slots := 0, locals := 27 } : Room) Z h0 #[(.int p1), (.ref b)] (Qn h0 n0) := by
  refine own_go #[.val (.int p1), .val (.ref b)] (plainFor_of_name pn_5) (fun m => ef_uk m p1 b) ?_
  intro p e s m below meth c s₁ hx hby hml hown hnm hlk X0 e0 hZ hrt
  have N0 := Fr.nil n0
  refine own_iloadN X0 hx hby d65_0 rfl ?_
  refine own_aloadN X0 hx hby d65_1 rfl rfl ?_
  obtain ⟨_, _, ⟨T62, L62, k62, n62⟩, -, X62, ⟨Lc62, hQ62, l62, y62, z62⟩, st62⟩ := Jvm.LawKit.callS X0 hx (y := mN_17) hown (oV hZ hw 273 rfl) (oV hZ hw 274 rfl) (oV hZ hw 27 rfl) (oV hZ hw 275 rfl) (by decide) (backOf (W := 1) (rmul l Z a0 hw [] b kb z cs h0 n0 Z0 Vb) hZ (own_w hw 275 rfl) (own_w hw 27 rfl) (by decide) (by decide)) (g := (mkF m 2 #[.val (.int p1), .val (.ref b)] [(.ref b), (.int p1)])) rfl (by rw [hml]; rfl) (argsL := [(.ref b)]) (rest := [(.int p1)]) (lenOf pd_4 rfl) rfl (by exact oZ rfl) (hb hby d65_2) (fun _ _ => ⟨rfl, e0, (by decide : 0 + 0 ≤ _), (by decide : 0 + 0 ≤ _)⟩)
  dsimp only [Pt.U, Pt.locs, Pt.cells, Pt.slots] at X62 l62 y62 z62 st62 hQ62
  rw [l62, y62, z62] at X62
  obtain ⟨rfl, Nq62, e62⟩ := hQ62
  have N62 := Fr.app N0 Nq62
  refine own_of (U' := (T62.setTop (mkF m 5 #[.val (.int p1), .val (.ref b)] [(.int (z >>> ((1 : Int32) &&& 31))), (.int p1)]))) (st62) ?_
  obtain ⟨_, _, ⟨T63, L63, k63, n63⟩, -, X63, ⟨Lc63, hQ63, l63, y63, z63⟩, st63⟩ := Jvm.LawKit.callS X62 hx (y := mN_12) hown (oV hZ hw 288 rfl) (oV hZ hw 289 rfl) (oV hZ hw 12 rfl) (oV hZ hw 290 rfl) (by decide) (backOf (W := 0) (rmci l Z a0 hw [] p1 (z >>> ((1 : Int32) &&& 31)) rS h0 n0 Z0 h1 h2 SF hrS) hZ (own_w hw 290 rfl) (own_w hw 12 rfl) (by decide) (by decide)) (g := (mkF m 5 #[.val (.int p1), .val (.ref b)] [(.int (z >>> ((1 : Int32) &&& 31))), (.int p1)])) rfl (by rw [hml]; rfl) (argsL := [(.int p1), (.int (z >>> ((1 : Int32) &&& 31)))]) (rest := []) (lenOf pd_5 rfl) rfl (by exact oZ rfl) (hb hby d65_5) (fun _ _ => ⟨rfl, e62, (by decide : 0 + 0 ≤ _), (by decide : 0 + 0 ≤ _)⟩)
  dsimp only [Pt.U, Pt.locs, Pt.cells, Pt.slots] at X63 l63 y63 z63 st63 hQ63
  rw [l63, y63, z63] at X63
  obtain ⟨rfl, Nq63, e63⟩ := hQ63
  have N63 := Fr.app N62 Nq63
  refine own_of (U' := (T63.setTop (mkF m 8 #[.val (.int p1), .val (.ref b)] []))) (st63) ?_
  exact own_ret0 X63 hx hlk hrt (hb hby d65_8) (by decide) (by decide) (⟨rfl, N63, e63⟩)
abbrev mN_19 : MethodName := ⟨"java/lang/StringUTF16", "checkBoundsOffCount", "(II[B)V"⟩
theorem pd_6 : parseMethodDescriptor "(III)I" = some ⟨[.int, .int, .int], some .int⟩ := by decide +kernel
theorem d60_0 : decode c_18 0 = .ok (.iload_n 0, 1) := by decide +kernel
theorem d60_1 : decode c_18 1 = .ok (.iload_n 1, 1) := by decide +kernel
theorem d60_2 : decode c_18 2 = .ok (.aload_n 2, 1) := by decide +kernel
theorem d60_3 : decode c_18 3 = .ok (.invokestatic 48, 3) := by decide +kernel
theorem d60_6 : decode c_18 6 = .ok (.invokestatic 419, 3) := by decide +kernel
theorem d60_9 : decode c_18 9 = .ok (.pop, 1) := by decide +kernel
theorem d60_10 : decode c_18 10 = .ok (.return_, 1) := by decide +kernel
theorem ef_uo (m : MethodId) (x0 : Int32) (x1 : Int32) (x2 : Addr) : entryFrame m #[(.int x0), (.int x1), (.ref x2)] 3 = mkF m 0 #[.val (.int x0), .val (.int x1), .val (.ref x2)] [] := by first | (simp [entryFrame, mkF, argsToLocals, Value.category]; done) | rfl
theorem rmuo (l : Launch) (Z : State) (a0 : Array Value) (hw : ∀ d ∈ tables_1, d.before a0 Z = true) (ws : List Jvm.Cond) (p1 p2 : Int32) (b : Addr) (kb : ClassId) (z : Int32) (cs : List Int32) (rS : Value) (h0 : Heap) (n0 : Nat) (Z0 : n0 ≤ h0.size) (Vb : Arv Z h0 b kb .byte z (List.map Value.int cs) (.int 0)) (h1 : ¬ ((((z >>> ((1 : Int32) &&& 31)) ||| p1) ||| p2) < (0 : Int32))) (h2 : ¬ (((z >>> ((1 : Int32) &&& 31)) - p1) < p2)) (SF : Sta Z h0 "jdk/internal/util/Preconditions" "SIOOBE_FORMATTER" "Ljava/util/function/BiFunction;" rS) (hrS : rS.isRef = true) : own_M l mN_19 jdk_52_method_94_code 3 none ws ({ frames := 2, cells := 0, slots := 0, locals := 29 } : Room) Z h0 #[(.int p1), (.int p2), (.ref b)] (Qn h0 n0) := by
  refine own_go #[.val (.int p1), .val (.int p2), .val (.ref b)] (plainFor_of_name pn_5) (fun m => ef_uo m p1 p2 b) ?_
  intro p e s m below meth c s₁ hx hby hml hown hnm hlk X0 e0 hZ hrt
  have N0 := Fr.nil n0
  refine own_iloadN X0 hx hby d60_0 rfl ?_
  refine own_iloadN X0 hx hby d60_1 rfl ?_
  refine own_aloadN X0 hx hby d60_2 rfl rfl ?_
  obtain ⟨_, _, ⟨T64, L64, k64, n64⟩, -, X64, ⟨Lc64, hQ64, l64, y64, z64⟩, st64⟩ := Jvm.LawKit.callS X0 hx (y := mN_17) hown (oV hZ hw 273 rfl) (oV hZ hw 274 rfl) (oV hZ hw 27 rfl) (oV hZ hw 275 rfl) (by decide) (backOf (W := 2) (rmul l Z a0 hw [] b kb z cs h0 n0 Z0 Vb) hZ (own_w hw 275 rfl) (own_w hw 27 rfl) (by decide) (by decide)) (g := (mkF m 3 #[.val (.int p1), .val (.int p2), .val (.ref b)] [(.ref b), (.int p2), (.int p1)])) rfl (by rw [hml]; rfl) (argsL := [(.ref b)]) (rest := [(.int p2), (.int p1)]) (lenOf pd_4 rfl) rfl (by exact oZ rfl) (hb hby d60_3) (fun _ _ => ⟨rfl, e0, (by decide : 0 + 0 ≤ _), (by decide : 0 + 0 ≤ _)⟩)
  dsimp only [Pt.U, Pt.locs, Pt.cells, Pt.slots] at X64 l64 y64 z64 st64 hQ64
  rw [l64, y64, z64] at X64
  obtain ⟨rfl, Nq64, e64⟩ := hQ64
  have N64 := Fr.app N0 Nq64
  refine own_of (U' := (T64.setTop (mkF m 6 #[.val (.int p1), .val (.int p2), .val (.ref b)] [(.int (z >>> ((1 : Int32) &&& 31))), (.int p2), (.int p1)]))) (st64) ?_
  obtain ⟨_, _, ⟨T65, L65, k65, n65⟩, -, X65, ⟨Lc65, hQ65, l65, y65, z65⟩, st65⟩ := Jvm.LawKit.callS X64 hx (y := mN_16) hown (oV hZ hw 276 rfl) (oV hZ hw 277 rfl) (oV hZ hw 12 rfl) (oV hZ hw 278 rfl) (by decide) (backOf (W := 0) (rmoc l Z a0 hw [] p1 p2 (z >>> ((1 : Int32) &&& 31)) rS h0 n0 Z0 h1 h2 SF hrS) hZ (own_w hw 278 rfl) (own_w hw 12 rfl) (by decide) (by decide)) (g := (mkF m 6 #[.val (.int p1), .val (.int p2), .val (.ref b)] [(.int (z >>> ((1 : Int32) &&& 31))), (.int p2), (.int p1)])) rfl (by rw [hml]; rfl) (argsL := [(.int p1), (.int p2), (.int (z >>> ((1 : Int32) &&& 31)))]) (rest := []) (lenOf pd_6 rfl) rfl (by exact oZ rfl) (hb hby d60_6) (fun _ _ => ⟨rfl, e64, (by decide : 0 + 0 ≤ _), (by decide : 0 + 0 ≤ _)⟩)
  dsimp only [Pt.U, Pt.locs, Pt.cells, Pt.slots] at X65 l65 y65 z65 st65 hQ65
  rw [l65, y65, z65] at X65
  obtain ⟨rfl, Nq65, e65⟩ := hQ65
  have N65 := Fr.app N64 Nq65
  refine own_of (U' := (T65.setTop (mkF m 9 #[.val (.int p1), .val (.int p2), .val (.ref b)] [(.int p1)]))) (st65) ?_
  refine own_pop X65 hx hby d60_9 rfl ?_
  exact own_ret0 X65 hx hlk hrt (hb hby d60_10) (by decide) (by decide) (⟨rfl, N65, e65⟩)
abbrev mN_20 : MethodName := ⟨"java/lang/StringUTF16", "checkBoundsBeginEnd", "(II[B)V"⟩
theorem pd_7 : parseMethodDescriptor "(III)V" = some ⟨[.int, .int, .int], none⟩ := by decide +kernel
theorem d70_0 : decode c_19 0 = .ok (.iload_n 0, 1) := by decide +kernel
theorem d70_1 : decode c_19 1 = .ok (.iload_n 1, 1) := by decide +kernel
theorem d70_2 : decode c_19 2 = .ok (.aload_n 2, 1) := by decide +kernel
theorem d70_3 : decode c_19 3 = .ok (.invokestatic 48, 3) := by decide +kernel
theorem d70_6 : decode c_19 6 = .ok (.invokestatic 241, 3) := by decide +kernel
theorem d70_9 : decode c_19 9 = .ok (.return_, 1) := by decide +kernel
theorem ef_ub (m : MethodId) (x0 : Int32) (x1 : Int32) (x2 : Addr) : entryFrame m #[(.int x0), (.int x1), (.ref x2)] 3 = mkF m 0 #[.val (.int x0), .val (.int x1), .val (.ref x2)] [] := by first | (simp [entryFrame, mkF, argsToLocals, Value.category]; done) | rfl
theorem rmub (l : Launch) (Z : State) (a0 : Array Value) (hw : ∀ d ∈ tables_1, d.before a0 Z = true) (ws : List Jvm.Cond) (p1 p2 : Int32) (b : Addr) (kb : ClassId) (z : Int32) (cs : List Int32) (rS : Value) (h0 : Heap) (n0 : Nat) (Z0 : n0 ≤ h0.size) (Vb : Arv Z h0 b kb .byte z (List.map Value.int cs) (.int 0)) (h1 : ¬ (p1 < (0 : Int32))) (h2 : ¬ (p2 < p1)) (h3 : ¬ ((z >>> ((1 : Int32) &&& 31)) < p2)) (SF : Sta Z h0 "jdk/internal/util/Preconditions" "SIOOBE_FORMATTER" "Ljava/util/function/BiFunction;" rS) (hrS : rS.isRef = true) : own_M l mN_20 jdk_52_method_93_code 3 none ws ({ frames := 2, cells := 0, slots := 0, locals := 29 } : Room) Z h0 #[(.int p1), (.int p2), (.ref b)] (Qn h0 n0) := by
  refine own_go #[.val (.int p1), .val (.int p2), .val (.ref b)] (plainFor_of_name pn_5) (fun m => ef_ub m p1 p2 b) ?_
  intro p e s m below meth c s₁ hx hby hml hown hnm hlk X0 e0 hZ hrt
  have N0 := Fr.nil n0
  refine own_iloadN X0 hx hby d70_0 rfl ?_
  refine own_iloadN X0 hx hby d70_1 rfl ?_
  refine own_aloadN X0 hx hby d70_2 rfl rfl ?_
  obtain ⟨_, _, ⟨T66, L66, k66, n66⟩, -, X66, ⟨Lc66, hQ66, l66, y66, z66⟩, st66⟩ := Jvm.LawKit.callS X0 hx (y := mN_17) hown (oV hZ hw 273 rfl) (oV hZ hw 274 rfl) (oV hZ hw 27 rfl) (oV hZ hw 275 rfl) (by decide) (backOf (W := 2) (rmul l Z a0 hw [] b kb z cs h0 n0 Z0 Vb) hZ (own_w hw 275 rfl) (own_w hw 27 rfl) (by decide) (by decide)) (g := (mkF m 3 #[.val (.int p1), .val (.int p2), .val (.ref b)] [(.ref b), (.int p2), (.int p1)])) rfl (by rw [hml]; rfl) (argsL := [(.ref b)]) (rest := [(.int p2), (.int p1)]) (lenOf pd_4 rfl) rfl (by exact oZ rfl) (hb hby d70_3) (fun _ _ => ⟨rfl, e0, (by decide : 0 + 0 ≤ _), (by decide : 0 + 0 ≤ _)⟩)
  dsimp only [Pt.U, Pt.locs, Pt.cells, Pt.slots] at X66 l66 y66 z66 st66 hQ66
  rw [l66, y66, z66] at X66
  obtain ⟨rfl, Nq66, e66⟩ := hQ66
  have N66 := Fr.app N0 Nq66
  refine own_of (U' := (T66.setTop (mkF m 6 #[.val (.int p1), .val (.int p2), .val (.ref b)] [(.int (z >>> ((1 : Int32) &&& 31))), (.int p2), (.int p1)]))) (st66) ?_
  obtain ⟨_, _, ⟨T67, L67, k67, n67⟩, -, X67, ⟨Lc67, hQ67, l67, y67, z67⟩, st67⟩ := Jvm.LawKit.callS X66 hx (y := mN_14) hown (oV hZ hw 309 rfl) (oV hZ hw 218 rfl) (oV hZ hw 12 rfl) (oV hZ hw 219 rfl) (by decide) (backOf (W := 0) (rmbe l Z a0 hw [] p1 p2 (z >>> ((1 : Int32) &&& 31)) rS h0 n0 Z0 h1 h2 h3 SF hrS) hZ (own_w hw 219 rfl) (own_w hw 12 rfl) (by decide) (by decide)) (g := (mkF m 6 #[.val (.int p1), .val (.int p2), .val (.ref b)] [(.int (z >>> ((1 : Int32) &&& 31))), (.int p2), (.int p1)])) rfl (by rw [hml]; rfl) (argsL := [(.int p1), (.int p2), (.int (z >>> ((1 : Int32) &&& 31)))]) (rest := []) (lenOf pd_7 rfl) rfl (by exact oZ rfl) (hb hby d70_6) (fun _ _ => ⟨rfl, e66, (by decide : 0 + 0 ≤ _), (by decide : 0 + 0 ≤ _)⟩)
  dsimp only [Pt.U, Pt.locs, Pt.cells, Pt.slots] at X67 l67 y67 z67 st67 hQ67
  rw [l67, y67, z67] at X67
  obtain ⟨rfl, Nq67, e67⟩ := hQ67
  have N67 := Fr.app N66 Nq67
  refine own_of (U' := (T67.setTop (mkF m 9 #[.val (.int p1), .val (.int p2), .val (.ref b)] []))) (st67) ?_
  exact own_ret0 X67 hx hlk hrt (hb hby d70_9) (by decide) (by decide) (⟨rfl, N67, e67⟩)
abbrev mN_21 : MethodName := ⟨"java/lang/StringLatin1", "canEncode", "(C)Z"⟩
theorem d11_0 : decode c_20 0 = .ok (.iload_n 0, 1) := by decide +kernel
theorem d11_1 : decode c_20 1 = .ok (.sipush 255, 3) := by decide +kernel
theorem d11_4 : decode c_20 4 = .ok (.if_icmp .gt 7, 3) := by decide +kernel
theorem d11_7 : decode c_20 7 = .ok (.iconst 1, 1) := by decide +kernel
theorem d11_8 : decode c_20 8 = .ok (.goto 4, 3) := by decide +kernel
theorem d11_12 : decode c_20 12 = .ok (.ireturn, 1) := by decide +kernel
theorem pn_6 : plainName "java/lang/StringLatin1" = true := by first | (simp [plainName, overriddenIn]; done) | decide +kernel
theorem ef_ce0 (m : MethodId) (x0 : Int32) : entryFrame m #[(.int x0)] 1 = mkF m 0 #[.val (.int x0)] [] := by first | (simp [entryFrame, mkF, argsToLocals, Value.category]; done) | rfl
theorem rmce0 (l : Launch) (Z : State) (a0 : Array Value) (hw : ∀ d ∈ tables_1, d.before a0 Z = true) (ws : List Jvm.Cond) (p1 : Int32) (h0 : Heap) (n0 : Nat) (Z0 : n0 ≤ h0.size) (h1 : ¬ ((255 : Int32) < p1)) : own_M l mN_21 jdk_43_method_3_code 1 (some .boolean) ws ({ frames := 0, cells := 0, slots := 0, locals := 0 } : Room) Z h0 #[(.int p1)] (Qv 1 h0 n0) := by
  refine own_go #[.val (.int p1)] (plainFor_of_name pn_6) (fun m => ef_ce0 m p1) ?_
  intro p e s m below meth c s₁ hx hby hml hown hnm hlk X0 e0 hZ hrt
  have N0 := Fr.nil n0
  refine own_iloadN X0 hx hby d11_0 rfl ?_
  refine own_sipush X0 hx hby 255 d11_1 rfl ?_
  have hc4_68 : ¬ ((255 : Int32) < p1) := h1
  refine own_icmpNo X0 hx hby d11_4 (flt hc4_68).2.2.1 ?_
  refine own_iconst X0 hx hby 1 d11_7 rfl ?_
  refine own_goto X0 hx hby 8 12 d11_8 (by decide) (by decide) ?_
  exact own_retN X0 hx hlk (t := .boolean) hrt (by simp) (hb hby d11_12) (by decide) (by decide) (⟨rfl, N0, e0⟩)
theorem d11_11 : decode c_20 11 = .ok (.iconst 0, 1) := by decide +kernel
theorem ef_ce1 (m : MethodId) (x0 : Int32) : entryFrame m #[(.int x0)] 1 = mkF m 0 #[.val (.int x0)] [] := by first | (simp [entryFrame, mkF, argsToLocals, Value.category]; done) | rfl
theorem rmce1 (l : Launch) (Z : State) (a0 : Array Value) (hw : ∀ d ∈ tables_1, d.before a0 Z = true) (ws : List Jvm.Cond) (p1 : Int32) (h0 : Heap) (n0 : Nat) (Z0 : n0 ≤ h0.size) (h1 : (255 : Int32) < p1) : own_M l mN_21 jdk_43_method_3_code 1 (some .boolean) ws ({ frames := 0, cells := 0, slots := 0, locals := 0 } : Room) Z h0 #[(.int p1)] (Qv 0 h0 n0) := by
  refine own_go #[.val (.int p1)] (plainFor_of_name pn_6) (fun m => ef_ce1 m p1) ?_
  intro p e s m below meth c s₁ hx hby hml hown hnm hlk X0 e0 hZ hrt
  have N0 := Fr.nil n0
  refine own_iloadN X0 hx hby d11_0 rfl ?_
  refine own_sipush X0 hx hby 255 d11_1 rfl ?_
  have hc4_69 : (255 : Int32) < p1 := h1
  refine own_icmpYes X0 hx hby 4 11 d11_4 (tlt hc4_69).2.2.1 (by decide) (by decide) ?_
  refine own_iconst X0 hx hby 0 d11_11 rfl ?_
  exact own_retN X0 hx hlk (t := .boolean) hrt (by simp) (hb hby d11_12) (by decide) (by decide) (⟨rfl, N0, e0⟩)
abbrev mN_22 : MethodName := ⟨"java/lang/StringLatin1", "canEncode", "(I)Z"⟩
theorem d43_0 : decode c_21 0 = .ok (.iload_n 0, 1) := by decide +kernel
theorem d43_1 : decode c_21 1 = .ok (.ifCond .lt 14, 3) := by decide +kernel
theorem d43_4 : decode c_21 4 = .ok (.iload_n 0, 1) := by decide +kernel
theorem d43_5 : decode c_21 5 = .ok (.sipush 255, 3) := by decide +kernel
theorem d43_8 : decode c_21 8 = .ok (.if_icmp .gt 7, 3) := by decide +kernel
theorem d43_11 : decode c_21 11 = .ok (.iconst 1, 1) := by decide +kernel
theorem d43_12 : decode c_21 12 = .ok (.goto 4, 3) := by decide +kernel
theorem d43_16 : decode c_21 16 = .ok (.ireturn, 1) := by decide +kernel
theorem ef_ci8 (m : MethodId)  : entryFrame m #[(.int 58)] 1 = mkF m 0 #[.val (.int 58)] [] := by first | (simp [entryFrame, mkF, argsToLocals, Value.category]; done) | rfl
theorem rmci8 (l : Launch) (Z : State) (a0 : Array Value) (hw : ∀ d ∈ tables_1, d.before a0 Z = true) (ws : List Jvm.Cond)  (h0 : Heap) (n0 : Nat) (Z0 : n0 ≤ h0.size)  : own_M l mN_22 jdk_43_method_4_code 1 (some .boolean) ws ({ frames := 0, cells := 0, slots := 0, locals := 0 } : Room) Z h0 #[(.int 58)] (Qv 1 h0 n0) := by
  refine own_go #[.val (.int 58)] (plainFor_of_name pn_6) (fun m => ef_ci8 m) ?_
  intro p e s m below meth c s₁ hx hby hml hown hnm hlk X0 e0 hZ hrt
  have N0 := Fr.nil n0
  refine own_iloadN X0 hx hby d43_0 rfl ?_
  have hc1_70 : ¬ ((58 : Int32) < (0 : Int32)) := by decide
  refine own_ifNo X0 hx hby d43_1 ((if0 _ _).trans (flt hc1_70).1) ?_
  refine own_iloadN X0 hx hby d43_4 rfl ?_
  refine own_sipush X0 hx hby 255 d43_5 rfl ?_
  have hc8_71 : ¬ ((255 : Int32) < (58 : Int32)) := by decide
  refine own_icmpNo X0 hx hby d43_8 (flt hc8_71).2.2.1 ?_
  refine own_iconst X0 hx hby 1 d43_11 rfl ?_
  refine own_goto X0 hx hby 12 16 d43_12 (by decide) (by decide) ?_
  exact own_retN X0 hx hlk (t := .boolean) hrt (by simp) (hb hby d43_16) (by decide) (by decide) (⟨rfl, N0, e0⟩)
abbrev mN_23 : MethodName := ⟨"java/lang/StringUTF16", "newBytesLength", "(I)I"⟩
theorem d54_0 : decode c_22 0 = .ok (.iload_n 0, 1) := by decide +kernel
theorem d54_1 : decode c_22 1 = .ok (.ifCond .ge 11, 3) := by decide +kernel
theorem d54_12 : decode c_22 12 = .ok (.iload_n 0, 1) := by decide +kernel
theorem d54_13 : decode c_22 13 = .ok (.ldc 20, 2) := by decide +kernel
theorem d54_15 : decode c_22 15 = .ok (.if_icmp .lt 40, 3) := by decide +kernel
theorem d54_55 : decode c_22 55 = .ok (.iload_n 0, 1) := by decide +kernel
theorem d54_56 : decode c_22 56 = .ok (.iconst 1, 1) := by decide +kernel
theorem d54_57 : decode c_22 57 = .ok (.ishl, 1) := by decide +kernel
theorem d54_58 : decode c_22 58 = .ok (.ireturn, 1) := by decide +kernel
theorem ef_nl (m : MethodId) (x0 : Int32) : entryFrame m #[(.int x0)] 1 = mkF m 0 #[.val (.int x0)] [] := by first | (simp [entryFrame, mkF, argsToLocals, Value.category]; done) | rfl
theorem rmnl (l : Launch) (Z : State) (a0 : Array Value) (hw : ∀ d ∈ tables_1, d.before a0 Z = true) (ws : List Jvm.Cond) (p1 : Int32) (h0 : Heap) (n0 : Nat) (Z0 : n0 ≤ h0.size) (h1 : 0 ≤ p1.toInt) (h2 : p1.toInt ≤ 16) : own_M l mN_23 jdk_52_method_3_code 1 (some .int) ws ({ frames := 0, cells := 0, slots := 0, locals := 0 } : Room) Z h0 #[(.int p1)] (Qv (p1 <<< ((1 : Int32) &&& 31)) h0 n0) := by
  refine own_go #[.val (.int p1)] (plainFor_of_name pn_5) (fun m => ef_nl m p1) ?_
  intro p e s m below meth c s₁ hx hby hml hown hnm hlk X0 e0 hZ hrt
  have N0 := Fr.nil n0
  refine own_iloadN X0 hx hby d54_0 rfl ?_
  have hc1_72 : ¬ (p1 < (0 : Int32)) := own_ge0 h1
  refine own_ifYes X0 hx hby 1 12 d54_1 ((if0 _ _).trans (flt hc1_72).2.1) (by decide) (by decide) ?_
  refine own_iloadN X0 hx hby d54_12 rfl ?_
  refine own_of (U' := (s₁.setTop (mkF m 15 #[.val (.int p1)] [(.int 1073741823), (.int p1)]))) (X0.ldcInt hx hown (oV hZ hw 248 rfl) (g := (mkF m 13 #[.val (.int p1)] [(.int p1)])) rfl (hb hby d54_13)) ?_
  have hc15_73 : p1 < (1073741823 : Int32) := by rw [own_ltI, show (1073741823 : Int32).toInt = 1073741823 by decide]; omega
  refine own_icmpYes X0 hx hby 15 55 d54_15 (tlt hc15_73).1 (by decide) (by decide) ?_
  refine own_iloadN X0 hx hby d54_55 rfl ?_
  refine own_iconst X0 hx hby 1 d54_56 rfl ?_
  refine own_ishl X0 hx hby d54_57 ?_
  exact own_retI X0 hx hlk hrt (hb hby d54_58) (by decide) (by decide) (⟨rfl, N0, e0⟩)
abbrev mN_24 : MethodName := ⟨"java/lang/StringUTF16", "newBytesFor", "(I)[B"⟩
theorem pd_8 : parseMethodDescriptor "(I)I" = some ⟨[.int], some .int⟩ := by decide +kernel
theorem d53_0 : decode c_23 0 = .ok (.iload_n 0, 1) := by decide +kernel
theorem d53_1 : decode c_23 1 = .ok (.invokestatic 11, 3) := by decide +kernel
theorem d53_4 : decode c_23 4 = .ok (.newarray .byte, 2) := by decide +kernel
theorem d53_6 : decode c_23 6 = .ok (.areturn, 1) := by decide +kernel
theorem ef_nb16 (m : MethodId) (x0 : Int32) : entryFrame m #[(.int x0)] 1 = mkF m 0 #[.val (.int x0)] [] := by first | (simp [entryFrame, mkF, argsToLocals, Value.category]; done) | rfl
def Qnb (Z : State) (p1 : Int32) (h0 : Heap) (n0 : Nat) (v : Option Value) (h : Heap) (L : List Loc) : Prop := ∃ (u : Addr) (ku : ClassId) (zu : Int32), v = some (.ref u) ∧ Fr n0 L ∧ Keep h0 h [] ∧ h0.size ≤ u ∧ zu.toInt = 2 * p1.toInt ∧ Arv Z h u ku .byte zu (List.map Value.int ([] : List Int32)) (.int 0)
theorem rmnb16 (l : Launch) (Z : State) (a0 : Array Value) (hw : ∀ d ∈ tables_1, d.before a0 Z = true) (ws : List Jvm.Cond) (p1 : Int32) (h0 : Heap) (n0 : Nat) (Z0 : n0 ≤ h0.size) (h1 : 0 ≤ p1.toInt) (h2 : p1.toInt ≤ 16) : own_M l mN_24 jdk_52_method_2_code 1 (some (.array .byte)) ws ({ frames := 1, cells := 1, slots := 32, locals := 12 } : Room) Z h0 #[(.int p1)] (Qnb Z p1 h0 n0) := by
  refine own_go #[.val (.int p1)] (plainFor_of_name pn_5) (fun m => ef_nb16 m p1) ?_
  intro p e s m below meth c s₁ hx hby hml hown hnm hlk X0 e0 hZ hrt
  have N0 := Fr.nil n0
  have KK := Keep.refl h0 []
  refine own_iloadN X0 hx hby d53_0 rfl ?_
  obtain ⟨_, _, ⟨T74, L74, k74, n74⟩, -, X74, ⟨Lc74, hQ74, l74, y74, z74⟩, st74⟩ := Jvm.LawKit.callS X0 hx (y := mN_23) hown (oV hZ hw 245 rfl) (oV hZ hw 246 rfl) (oV hZ hw 27 rfl) (oV hZ hw 247 rfl) (by decide) (backOf (W := 0) (rmnl l Z a0 hw [] p1 h0 n0 Z0 h1 (by omega)) hZ (own_w hw 247 rfl) (own_w hw 27 rfl) (by decide) (by decide)) (g := (mkF m 1 #[.val (.int p1)] [(.int p1)])) rfl (by rw [hml]; rfl) (argsL := [(.int p1)]) (rest := []) (lenOf pd_8 rfl) rfl (by exact oZ rfl) (hb hby d53_1) (fun _ _ => ⟨rfl, e0, (by decide : 0 + 0 ≤ _), (by decide : 0 + 0 ≤ _)⟩)
  dsimp only [Pt.U, Pt.locs, Pt.cells, Pt.slots] at X74 l74 y74 z74 st74 hQ74
  rw [l74, y74, z74] at X74
  obtain ⟨rfl, Nq74, e74⟩ := hQ74
  have N74 := Fr.app N0 Nq74
  refine own_of (U' := (T74.setTop (mkF m 4 #[.val (.int p1)] [(.int (p1 <<< ((1 : Int32) &&& 31)))]))) (st74) ?_
  obtain ⟨T75, h75, k75, X75, e75, E75, A75, st75⟩ := newP X74 hx hZ (own_w hw 29 rfl) e74 (g := (mkF m 4 #[.val (.int p1)] [(.int (p1 <<< ((1 : Int32) &&& 31)))])) rfl (hb hby d53_4) rfl (own_ge0 (by rw [own_dbl h1 (by omega)]; omega)) (cap := 32) (own_Nle (by rw [own_dbl h1 (by omega)]; omega)) (by decide) (by decide) (by decide)
  obtain ⟨b75, gz75⟩ : ∃ z, z = h0.size := ⟨_, rfl⟩
  rw [← gz75] at A75 st75
  have g_b75 : n0 ≤ b75 := nT Z0 (nE gz75.symm)
  have sz_b75 : h0.size ≤ b75 := nT KK.1 (nE gz75.symm)
  replace Z0 := nT Z0 E75.1
  replace KK := KK.ext E75
  have V75 : Arv Z h75 b75 k75 .byte (p1 <<< ((1 : Int32) &&& 31)) (List.map Value.int ([] : List Int32)) (.int 0) := Arv.new A75 (own_ge0 (by rw [own_dbl h1 (by omega)]; omega))
  refine own_of (U' := (T75.setTop (mkF m 6 #[.val (.int p1)] [(.ref b75)]))) (st75) ?_
  exact own_retA X75 hx hlk hrt rfl rfl (hb hby d53_6) (by decide) (by decide) (by rw [e75]; exact ⟨b75, k75, (p1 <<< ((1 : Int32) &&& 31)), rfl, N74, KK, sz_b75, own_dbl h1 (by omega), V75⟩)
theorem ef_nb5 (m : MethodId) (x0 : Int32) : entryFrame m #[(.int x0)] 1 = mkF m 0 #[.val (.int x0)] [] := by first | (simp [entryFrame, mkF, argsToLocals, Value.category]; done) | rfl
theorem rmnb5 (l : Launch) (Z : State) (a0 : Array Value) (hw : ∀ d ∈ tables_1, d.before a0 Z = true) (ws : List Jvm.Cond) (p1 : Int32) (h0 : Heap) (n0 : Nat) (Z0 : n0 ≤ h0.size) (h1 : 0 ≤ p1.toInt) (h2 : p1.toInt ≤ 5) : own_M l mN_24 jdk_52_method_2_code 1 (some (.array .byte)) ws ({ frames := 1, cells := 1, slots := 10, locals := 12 } : Room) Z h0 #[(.int p1)] (Qnb Z p1 h0 n0) := by
  refine own_go #[.val (.int p1)] (plainFor_of_name pn_5) (fun m => ef_nb5 m p1) ?_
  intro p e s m below meth c s₁ hx hby hml hown hnm hlk X0 e0 hZ hrt
  have N0 := Fr.nil n0
  have KK := Keep.refl h0 []
  refine own_iloadN X0 hx hby d53_0 rfl ?_
  obtain ⟨_, _, ⟨T76, L76, k76, n76⟩, -, X76, ⟨Lc76, hQ76, l76, y76, z76⟩, st76⟩ := Jvm.LawKit.callS X0 hx (y := mN_23) hown (oV hZ hw 245 rfl) (oV hZ hw 246 rfl) (oV hZ hw 27 rfl) (oV hZ hw 247 rfl) (by decide) (backOf (W := 0) (rmnl l Z a0 hw [] p1 h0 n0 Z0 h1 (by omega)) hZ (own_w hw 247 rfl) (own_w hw 27 rfl) (by decide) (by decide)) (g := (mkF m 1 #[.val (.int p1)] [(.int p1)])) rfl (by rw [hml]; rfl) (argsL := [(.int p1)]) (rest := []) (lenOf pd_8 rfl) rfl (by exact oZ rfl) (hb hby d53_1) (fun _ _ => ⟨rfl, e0, (by decide : 0 + 0 ≤ _), (by decide : 0 + 0 ≤ _)⟩)
  dsimp only [Pt.U, Pt.locs, Pt.cells, Pt.slots] at X76 l76 y76 z76 st76 hQ76
  rw [l76, y76, z76] at X76
  obtain ⟨rfl, Nq76, e76⟩ := hQ76
  have N76 := Fr.app N0 Nq76
  refine own_of (U' := (T76.setTop (mkF m 4 #[.val (.int p1)] [(.int (p1 <<< ((1 : Int32) &&& 31)))]))) (st76) ?_
  obtain ⟨T77, h77, k77, X77, e77, E77, A77, st77⟩ := newP X76 hx hZ (own_w hw 29 rfl) e76 (g := (mkF m 4 #[.val (.int p1)] [(.int (p1 <<< ((1 : Int32) &&& 31)))])) rfl (hb hby d53_4) rfl (own_ge0 (by rw [own_dbl h1 (by omega)]; omega)) (cap := 10) (own_Nle (by rw [own_dbl h1 (by omega)]; omega)) (by decide) (by decide) (by decide)
  obtain ⟨b77, gz77⟩ : ∃ z, z = h0.size := ⟨_, rfl⟩
  rw [← gz77] at A77 st77
  have g_b77 : n0 ≤ b77 := nT Z0 (nE gz77.symm)
  have sz_b77 : h0.size ≤ b77 := nT KK.1 (nE gz77.symm)
  replace Z0 := nT Z0 E77.1
  replace KK := KK.ext E77
  have V77 : Arv Z h77 b77 k77 .byte (p1 <<< ((1 : Int32) &&& 31)) (List.map Value.int ([] : List Int32)) (.int 0) := Arv.new A77 (own_ge0 (by rw [own_dbl h1 (by omega)]; omega))
  refine own_of (U' := (T77.setTop (mkF m 6 #[.val (.int p1)] [(.ref b77)]))) (st77) ?_
  exact own_retA X77 hx hlk hrt rfl rfl (hb hby d53_6) (by decide) (by decide) (by rw [e77]; exact ⟨b77, k77, (p1 <<< ((1 : Int32) &&& 31)), rfl, N76, KK, sz_b77, own_dbl h1 (by omega), V77⟩)
abbrev mN_25 : MethodName := ⟨"java/lang/StringUTF16", "putChar", "([BII)V"⟩
theorem d55_0 : decode c_24 0 = .ok (.getstatic 44, 3) := by decide +kernel
theorem d55_3 : decode c_24 3 = .ok (.ifCond .ne 25, 3) := by decide +kernel
theorem d55_28 : decode c_24 28 = .ok (.iload_n 1, 1) := by decide +kernel
theorem d55_29 : decode c_24 29 = .ok (.iconst 1, 1) := by decide +kernel
theorem d55_30 : decode c_24 30 = .ok (.ishl, 1) := by decide +kernel
theorem d55_31 : decode c_24 31 = .ok (.istore_n 1, 1) := by decide +kernel
theorem d55_32 : decode c_24 32 = .ok (.aload_n 0, 1) := by decide +kernel
theorem d55_33 : decode c_24 33 = .ok (.iload_n 1, 1) := by decide +kernel
theorem d55_34 : decode c_24 34 = .ok (.iinc 1 1, 3) := by decide +kernel
theorem d55_37 : decode c_24 37 = .ok (.iload_n 2, 1) := by decide +kernel
theorem d55_38 : decode c_24 38 = .ok (.getstatic 59, 3) := by decide +kernel
theorem d55_41 : decode c_24 41 = .ok (.ishr, 1) := by decide +kernel
theorem d55_42 : decode c_24 42 = .ok (.i2b, 1) := by decide +kernel
theorem d55_43 : decode c_24 43 = .ok (.bastore, 1) := by decide +kernel
theorem d55_44 : decode c_24 44 = .ok (.aload_n 0, 1) := by decide +kernel
theorem d55_45 : decode c_24 45 = .ok (.iload_n 1, 1) := by decide +kernel
theorem d55_46 : decode c_24 46 = .ok (.iload_n 2, 1) := by decide +kernel
theorem d55_47 : decode c_24 47 = .ok (.getstatic 63, 3) := by decide +kernel
theorem d55_50 : decode c_24 50 = .ok (.ishr, 1) := by decide +kernel
theorem d55_51 : decode c_24 51 = .ok (.i2b, 1) := by decide +kernel
theorem d55_52 : decode c_24 52 = .ok (.bastore, 1) := by decide +kernel
theorem d55_53 : decode c_24 53 = .ok (.return_, 1) := by decide +kernel
theorem ef_pc (m : MethodId) (x0 : Addr) (x1 : Int32) (x2 : Int32) : entryFrame m #[(.ref x0), (.int x1), (.int x2)] 3 = mkF m 0 #[.val (.ref x0), .val (.int x1), .val (.int x2)] [] := by first | (simp [entryFrame, mkF, argsToLocals, Value.category]; done) | rfl
def Qpc (Z : State) (b : Addr) (kb : ClassId) (z : Int32) (cs : List Int32) (h0 : Heap) (n0 : Nat) (v : Option Value) (h : Heap) (L : List Loc) : Prop := v = none ∧ Fr n0 L ∧ Keep h0 h [b] ∧ Arv Z h b kb .byte z (List.map Value.int (own_u16 cs)) (.int 0)
theorem rmpc (l : Launch) (Z : State) (a0 : Array Value) (hw : ∀ d ∈ tables_1, d.before a0 Z = true) (ws : List Jvm.Cond) (b : Addr) (p2 p3 : Int32) (kb : ClassId) (z : Int32) (cs : List Int32) (h0 : Heap) (n0 : Nat) (Z0 : n0 ≤ h0.size) (Vb : Arv Z h0 b kb .byte z (List.map Value.int (own_u16 cs)) (.int 0)) (hp : p2.toInt = cs.length) (hc : cs.length ≤ 1000) (hf : 2 * (cs.length : Int) + 2 ≤ z.toInt) (g_b : n0 ≤ b) (SA : Sta Z h0 "java/lang/StringUTF16" "$assertionsDisabled" "Z" (.int 1)) (SHI : Sta Z h0 "java/lang/StringUTF16" "HI_BYTE_SHIFT" "I" (.int 0)) (SLO : Sta Z h0 "java/lang/StringUTF16" "LO_BYTE_SHIFT" "I" (.int 8)) : own_M l mN_25 jdk_52_method_4_code 3 none ws ({ frames := 0, cells := 0, slots := 0, locals := 0 } : Room) Z h0 #[(.ref b), (.int p2), (.int p3)] (Qpc Z b kb z (cs ++ [p3]) h0 n0) := by
  refine own_go #[.val (.ref b), .val (.int p2), .val (.int p3)] (plainFor_of_name pn_5) (fun m => ef_pc m b p2 p3) ?_
  intro p e s m below meth c s₁ hx hby hml hown hnm hlk X0 e0 hZ hrt
  have N0 := Fr.nil n0
  have KK := Keep.refl h0 [b]
  obtain ⟨T78, X78, e78, st78⟩ := getS2 X0 hx hZ hown (host := "") (Or.inl (own_w hw 252 rfl)) Via.refl e0 SA (g := (mkF m 0 #[.val (.ref b), .val (.int p2), .val (.int p3)] [])) rfl (hb hby d55_0)
  refine own_of (U' := (T78.setTop (mkF m 3 #[.val (.ref b), .val (.int p2), .val (.int p3)] [(.int 1)]))) (st78) ?_
  have hc3_79 : ¬ ((1 : Int32) = (0 : Int32)) := by decide
  refine own_ifYes X78 hx hby 3 28 d55_3 ((if0 _ _).trans (feq hc3_79).2) (by decide) (by decide) ?_
  refine own_iloadN X78 hx hby d55_28 rfl ?_
  refine own_iconst X78 hx hby 1 d55_29 rfl ?_
  refine own_ishl X78 hx hby d55_30 ?_
  refine own_istoreN X78 hx hby d55_31 (l' := #[.val (.ref b), .val (.int (p2 <<< ((1 : Int32) &&& 31))), .val (.int p3)]) rfl ?_
  have ul := own_u16_len cs
  have hJ : (p2 <<< ((1 : Int32) &&& 31)).toInt = 2 * (cs.length : Int) := by rw [own_dbl (by omega) (by omega), hp]
  have hJ1 : ((p2 <<< ((1 : Int32) &&& 31)) + (1 : Int32)).toInt = 2 * (cs.length : Int) + 1 := by rw [own_addI (by rw [own_i1]; omega) (by rw [own_i1]; omega), own_i1, hJ]
  replace Vb := Arv.pad Vb (own_padk (own_u16 cs) 2)
  replace Vb : Arv Z h0 b kb .byte z (List.map Value.int (own_u16 cs ++ [(0 : Int32), (0 : Int32)])) (.int 0) := Vb
  refine own_aloadN X78 hx hby d55_32 rfl rfl ?_
  refine own_iloadN X78 hx hby d55_33 rfl ?_
  refine own_iinc X78 hx hby d55_34 rfl (l' := #[.val (.ref b), .val (.int ((p2 <<< ((1 : Int32) &&& 31)) + (1 : Int32))), .val (.int p3)]) rfl ?_
  refine own_iloadN X78 hx hby d55_37 rfl ?_
  obtain ⟨T80, X80, e80, st80⟩ := getS2 X78 hx hZ hown (host := "") (Or.inl (own_w hw 253 rfl)) Via.refl e78 SHI (g := (mkF m 38 #[.val (.ref b), .val (.int ((p2 <<< ((1 : Int32) &&& 31)) + (1 : Int32))), .val (.int p3)] [(.int p3), (.int (p2 <<< ((1 : Int32) &&& 31))), (.ref b)])) rfl (hb hby d55_38)
  refine own_of (U' := (T80.setTop (mkF m 41 #[.val (.ref b), .val (.int ((p2 <<< ((1 : Int32) &&& 31)) + (1 : Int32))), .val (.int p3)] [(.int 0), (.int p3), (.int (p2 <<< ((1 : Int32) &&& 31))), (.ref b)]))) (st80) ?_
  refine own_ishr X80 hx hby d55_41 ?_
  refine own_i2b X80 hx hby d55_42 ?_
  obtain ⟨cl81, Ar81, qa81, Sa81, Na81, Ha81, Ga81⟩ := Vb
  have hin81 : ¬ ((p2 <<< ((1 : Int32) &&& 31)) < 0 ∨ cl81.slots.size ≤ ((p2 <<< ((1 : Int32) &&& 31))).toNatClampNeg) := inb_of Sa81 ⟨own_ge0 (by rw [hJ]; omega), by rw [own_ltI, hJ]; omega⟩
  obtain ⟨T81, h81, X81, e81, W81, st81⟩ := stB X80 hx hZ e80 Ar81 (j := (p2 <<< ((1 : Int32) &&& 31))) hin81 (g := (mkF m 43 #[.val (.ref b), .val (.int ((p2 <<< ((1 : Int32) &&& 31)) + (1 : Int32))), .val (.int p3)] [(.int ((p3 >>> ((0 : Int32) &&& 31)).toInt8.toInt32)), (.int (p2 <<< ((1 : Int32) &&& 31))), (.ref b)])) rfl rfl (hb hby d55_43)
  replace Vb : Arv Z h81 b kb .byte z (List.map Value.int (own_u16 cs ++ [own_lo8 p3, (0 : Int32)])) (.int 0) := by have q := Arv.set Ar81 qa81 Sa81 Na81 Ha81 Ga81 (fits_nar_byte _) W81 ((own_u16 cs).length + 0) (own_clamp (by rw [hJ, ul]; omega)) (by rw [List.length_map, List.length_append]; exact Nat.add_lt_add_left (by show 0 < 2; decide) _); rw [← List.map_set, List.set_append_right _ _ (Nat.le_add_right _ _), Nat.add_sub_cancel_left] at q; exact q
  replace Z0 := nT Z0 (Keep.of_wr W81).1
  replace SA := SA.wr W81
  replace SHI := SHI.wr W81
  replace SLO := SLO.wr W81
  replace KK := KK.wr W81 (Or.inl (List.mem_of_getElem? (i := 0) rfl))
  have N81 := Fr.snoc X81 N0 g_b
  refine own_of (U' := (T81.setTop (mkF m 44 #[.val (.ref b), .val (.int ((p2 <<< ((1 : Int32) &&& 31)) + (1 : Int32))), .val (.int p3)] []))) (st81) ?_
  refine own_aloadN X81 hx hby d55_44 rfl rfl ?_
  refine own_iloadN X81 hx hby d55_45 rfl ?_
  refine own_iloadN X81 hx hby d55_46 rfl ?_
  obtain ⟨T82, X82, e82, st82⟩ := getS2 X81 hx hZ hown (host := "") (Or.inl (own_w hw 254 rfl)) Via.refl e81 SLO (g := (mkF m 47 #[.val (.ref b), .val (.int ((p2 <<< ((1 : Int32) &&& 31)) + (1 : Int32))), .val (.int p3)] [(.int p3), (.int ((p2 <<< ((1 : Int32) &&& 31)) + (1 : Int32))), (.ref b)])) rfl (hb hby d55_47)
  refine own_of (U' := (T82.setTop (mkF m 50 #[.val (.ref b), .val (.int ((p2 <<< ((1 : Int32) &&& 31)) + (1 : Int32))), .val (.int p3)] [(.int 8), (.int p3), (.int ((p2 <<< ((1 : Int32) &&& 31)) + (1 : Int32))), (.ref b)]))) (st82) ?_
  refine own_ishr X82 hx hby d55_50 ?_
  refine own_i2b X82 hx hby d55_51 ?_
  obtain ⟨cl83, Ar83, qa83, Sa83, Na83, Ha83, Ga83⟩ := Vb
  have hin83 : ¬ (((p2 <<< ((1 : Int32) &&& 31)) + (1 : Int32)) < 0 ∨ cl83.slots.size ≤ (((p2 <<< ((1 : Int32) &&& 31)) + (1 : Int32))).toNatClampNeg) := inb_of Sa83 ⟨own_ge0 (by rw [hJ1]; omega), by rw [own_ltI, hJ1]; omega⟩
  obtain ⟨T83, h83, X83, e83, W83, st83⟩ := stB X82 hx hZ e82 Ar83 (j := ((p2 <<< ((1 : Int32) &&& 31)) + (1 : Int32))) hin83 (g := (mkF m 52 #[.val (.ref b), .val (.int ((p2 <<< ((1 : Int32) &&& 31)) + (1 : Int32))), .val (.int p3)] [(.int ((p3 >>> ((8 : Int32) &&& 31)).toInt8.toInt32)), (.int ((p2 <<< ((1 : Int32) &&& 31)) + (1 : Int32))), (.ref b)])) rfl rfl (hb hby d55_52)
  replace Vb : Arv Z h83 b kb .byte z (List.map Value.int (own_u16 cs ++ [own_lo8 p3, own_hi8 p3])) (.int 0) := by have q := Arv.set Ar83 qa83 Sa83 Na83 Ha83 Ga83 (fits_nar_byte _) W83 ((own_u16 cs).length + 1) (own_clamp (by rw [hJ1, ul]; omega)) (by rw [List.length_map, List.length_append]; exact Nat.add_lt_add_left (by show 1 < 2; decide) _); rw [← List.map_set, List.set_append_right _ _ (Nat.le_add_right _ _), Nat.add_sub_cancel_left] at q; exact q
  replace Z0 := nT Z0 (Keep.of_wr W83).1
  replace SA := SA.wr W83
  replace SHI := SHI.wr W83
  replace SLO := SLO.wr W83
  replace KK := KK.wr W83 (Or.inl (List.mem_of_getElem? (i := 0) rfl))
  have N83 := Fr.snoc X83 N81 g_b
  refine own_of (U' := (T83.setTop (mkF m 53 #[.val (.ref b), .val (.int ((p2 <<< ((1 : Int32) &&& 31)) + (1 : Int32))), .val (.int p3)] []))) (st83) ?_
  exact own_ret0 X83 hx hlk hrt (hb hby d55_53) (by decide) (by decide) (by rw [e83]; exact ⟨rfl, N83, KK, (by rw [own_u16_app]; exact Vb)⟩)
abbrev mN_26 : MethodName := ⟨"java/lang/StringUTF16", "putCharSB", "([BII)V"⟩
theorem pd_9 : parseMethodDescriptor "(I[B)V" = some ⟨[.int, (.array .byte)], none⟩ := by decide +kernel
theorem pd_10 : parseMethodDescriptor "([BII)V" = some ⟨[(.array .byte), .int, .int], none⟩ := by decide +kernel
theorem d64_0 : decode c_25 0 = .ok (.iload_n 1, 1) := by decide +kernel
theorem d64_1 : decode c_25 1 = .ok (.aload_n 0, 1) := by decide +kernel
theorem d64_2 : decode c_25 2 = .ok (.invokestatic 67, 3) := by decide +kernel
theorem d64_5 : decode c_25 5 = .ok (.aload_n 0, 1) := by decide +kernel
theorem d64_6 : decode c_25 6 = .ok (.iload_n 1, 1) := by decide +kernel
theorem d64_7 : decode c_25 7 = .ok (.iload_n 2, 1) := by decide +kernel
theorem d64_8 : decode c_25 8 = .ok (.invokestatic 111, 3) := by decide +kernel
theorem d64_11 : decode c_25 11 = .ok (.return_, 1) := by decide +kernel
theorem ef_ps2 (m : MethodId) (x0 : Addr) (x1 : Int32) (x2 : Int32) : entryFrame m #[(.ref x0), (.int x1), (.int x2)] 3 = mkF m 0 #[.val (.ref x0), .val (.int x1), .val (.int x2)] [] := by first | (simp [entryFrame, mkF, argsToLocals, Value.category]; done) | rfl
theorem rmps2 (l : Launch) (Z : State) (a0 : Array Value) (hw : ∀ d ∈ tables_1, d.before a0 Z = true) (ws : List Jvm.Cond) (b : Addr) (p2 p3 : Int32) (kb : ClassId) (z : Int32) (cs : List Int32) (rS : Value) (h0 : Heap) (n0 : Nat) (Z0 : n0 ≤ h0.size) (Vb : Arv Z h0 b kb .byte z (List.map Value.int (own_u16 cs)) (.int 0)) (hp : p2.toInt = cs.length) (hc : cs.length ≤ 1000) (hf : 2 * (cs.length : Int) + 2 ≤ z.toInt) (g_b : n0 ≤ b) (SA : Sta Z h0 "java/lang/StringUTF16" "$assertionsDisabled" "Z" (.int 1)) (SHI : Sta Z h0 "java/lang/StringUTF16" "HI_BYTE_SHIFT" "I" (.int 0)) (SLO : Sta Z h0 "java/lang/StringUTF16" "LO_BYTE_SHIFT" "I" (.int 8)) (SF : Sta Z h0 "jdk/internal/util/Preconditions" "SIOOBE_FORMATTER" "Ljava/util/function/BiFunction;" rS) (hrS : rS.isRef = true) : own_M l mN_26 jdk_52_method_71_code 3 none ws ({ frames := 3, cells := 0, slots := 0, locals := 40 } : Room) Z h0 #[(.ref b), (.int p2), (.int p3)] (Qpc Z b kb z (cs ++ [p3]) h0 n0) := by
  refine own_go #[.val (.ref b), .val (.int p2), .val (.int p3)] (plainFor_of_name pn_5) (fun m => ef_ps2 m b p2 p3) ?_
  intro p e s m below meth c s₁ hx hby hml hown hnm hlk X0 e0 hZ hrt
  have N0 := Fr.nil n0
  have KK := Keep.refl h0 [b]
  refine own_iloadN X0 hx hby d64_0 rfl ?_
  refine own_aloadN X0 hx hby d64_1 rfl rfl ?_
  obtain ⟨_, _, ⟨T84, L84, k84, n84⟩, -, X84, ⟨Lc84, hQ84, l84, y84, z84⟩, st84⟩ := Jvm.LawKit.callS X0 hx (y := mN_18) hown (oV hZ hw 285 rfl) (oV hZ hw 286 rfl) (oV hZ hw 27 rfl) (oV hZ hw 287 rfl) (by decide) (backOf (W := 0) (rmuk l Z a0 hw [] p2 b kb z (own_u16 cs) rS h0 n0 Z0 Vb (own_ge0 (by omega)) (by rw [own_ltI, own_half]; omega) SF hrS) hZ (own_w hw 287 rfl) (own_w hw 27 rfl) (by decide) (by decide)) (g := (mkF m 2 #[.val (.ref b), .val (.int p2), .val (.int p3)] [(.ref b), (.int p2)])) rfl (by rw [hml]; rfl) (argsL := [(.int p2), (.ref b)]) (rest := []) (lenOf pd_9 rfl) rfl (by exact oZ rfl) (hb hby d64_2) (fun _ _ => ⟨rfl, e0, (by decide : 0 + 0 ≤ _), (by decide : 0 + 0 ≤ _)⟩)
  dsimp only [Pt.U, Pt.locs, Pt.cells, Pt.slots] at X84 l84 y84 z84 st84 hQ84
  rw [l84, y84, z84] at X84
  obtain ⟨rfl, Nq84, e84⟩ := hQ84
  have N84 := Fr.app N0 Nq84
  refine own_of (U' := (T84.setTop (mkF m 5 #[.val (.ref b), .val (.int p2), .val (.int p3)] []))) (st84) ?_
  refine own_aloadN X84 hx hby d64_5 rfl rfl ?_
  refine own_iloadN X84 hx hby d64_6 rfl ?_
  refine own_iloadN X84 hx hby d64_7 rfl ?_
  obtain ⟨_, _, ⟨T85, L85, k85, n85⟩, -, X85, ⟨Lc85, hQ85, l85, y85, z85⟩, st85⟩ := Jvm.LawKit.callS X84 hx (y := mN_25) hown (oV hZ hw 249 rfl) (oV hZ hw 250 rfl) (oV hZ hw 27 rfl) (oV hZ hw 251 rfl) (by decide) (backOf (W := 0) (rmpc l Z a0 hw [] b p2 p3 kb z cs h0 n0 Z0 Vb hp hc hf g_b SA SHI SLO) hZ (own_w hw 251 rfl) (own_w hw 27 rfl) (by decide) (by decide)) (g := (mkF m 8 #[.val (.ref b), .val (.int p2), .val (.int p3)] [(.int p3), (.int p2), (.ref b)])) rfl (by rw [hml]; rfl) (argsL := [(.ref b), (.int p2), (.int p3)]) (rest := []) (lenOf pd_10 rfl) rfl (by exact oZ rfl) (hb hby d64_8) (fun _ _ => ⟨rfl, e84, (by decide : 0 + 0 ≤ _), (by decide : 0 + 0 ≤ _)⟩)
  dsimp only [Pt.U, Pt.locs, Pt.cells, Pt.slots] at X85 l85 y85 z85 st85 hQ85
  rw [l85, y85, z85] at X85
  obtain ⟨rfl, Nq85, Kp85, Vq85⟩ := hQ85
  have N85 := Fr.app N84 Nq85
  have nst_b := Vb.nostat
  replace Z0 := nT Z0 Kp85.1
  replace SA := own_staKeep SA Kp85 (nsS nst_b ns0)
  replace SHI := own_staKeep SHI Kp85 (nsS nst_b ns0)
  replace SLO := own_staKeep SLO Kp85 (nsS nst_b ns0)
  replace SF := own_staKeep SF Kp85 (nsS nst_b ns0)
  replace KK := KK.trans Kp85 (allS (Or.inl (List.mem_of_getElem? (i := 0) rfl)) all0)
  refine own_of (U' := (T85.setTop (mkF m 11 #[.val (.ref b), .val (.int p2), .val (.int p3)] []))) (st85) ?_
  exact own_ret0 X85 hx hlk hrt (hb hby d64_11) (by decide) (by decide) (⟨rfl, N85, KK, Vq85⟩)
abbrev mN_27 : MethodName := ⟨"java/lang/StringUTF16", "getChar", "([BI)C"⟩
theorem d56_0 : decode c_26 0 = .ok (.getstatic 44, 3) := by decide +kernel
theorem d56_3 : decode c_26 3 = .ok (.ifCond .ne 25, 3) := by decide +kernel
theorem d56_28 : decode c_26 28 = .ok (.iload_n 1, 1) := by decide +kernel
theorem d56_29 : decode c_26 29 = .ok (.iconst 1, 1) := by decide +kernel
theorem d56_30 : decode c_26 30 = .ok (.ishl, 1) := by decide +kernel
theorem d56_31 : decode c_26 31 = .ok (.istore_n 1, 1) := by decide +kernel
theorem d56_32 : decode c_26 32 = .ok (.aload_n 0, 1) := by decide +kernel
theorem d56_33 : decode c_26 33 = .ok (.iload_n 1, 1) := by decide +kernel
theorem d56_34 : decode c_26 34 = .ok (.iinc 1 1, 3) := by decide +kernel
theorem d56_37 : decode c_26 37 = .ok (.baload, 1) := by decide +kernel
theorem d56_38 : decode c_26 38 = .ok (.sipush 255, 3) := by decide +kernel
theorem d56_41 : decode c_26 41 = .ok (.iand, 1) := by decide +kernel
theorem d56_42 : decode c_26 42 = .ok (.getstatic 59, 3) := by decide +kernel
theorem d56_45 : decode c_26 45 = .ok (.ishl, 1) := by decide +kernel
theorem d56_46 : decode c_26 46 = .ok (.aload_n 0, 1) := by decide +kernel
theorem d56_47 : decode c_26 47 = .ok (.iload_n 1, 1) := by decide +kernel
theorem d56_48 : decode c_26 48 = .ok (.baload, 1) := by decide +kernel
theorem d56_49 : decode c_26 49 = .ok (.sipush 255, 3) := by decide +kernel
theorem d56_52 : decode c_26 52 = .ok (.iand, 1) := by decide +kernel
theorem d56_53 : decode c_26 53 = .ok (.getstatic 63, 3) := by decide +kernel
theorem d56_56 : decode c_26 56 = .ok (.ishl, 1) := by decide +kernel
theorem d56_57 : decode c_26 57 = .ok (.ior, 1) := by decide +kernel
theorem d56_58 : decode c_26 58 = .ok (.i2c, 1) := by decide +kernel
theorem d56_59 : decode c_26 59 = .ok (.ireturn, 1) := by decide +kernel
theorem ef_ug (m : MethodId) (x0 : Addr) (x1 : Int32) : entryFrame m #[(.ref x0), (.int x1)] 2 = mkF m 0 #[.val (.ref x0), .val (.int x1)] [] := by first | (simp [entryFrame, mkF, argsToLocals, Value.category]; done) | rfl
theorem rmug (l : Launch) (Z : State) (a0 : Array Value) (hw : ∀ d ∈ tables_1, d.before a0 Z = true) (ws : List Jvm.Cond) (b : Addr) (p2 : Int32) (kb : ClassId) (z : Int32) (cs : List Int32) (j : Nat) (h0 : Heap) (n0 : Nat) (Z0 : n0 ≤ h0.size) (Vb : Arv Z h0 b kb .byte z (List.map Value.int (own_u16 cs)) (.int 0)) (hp : p2.toInt = j) (hj : j < cs.length) (hcs : own_chs cs) (hl : cs.length ≤ 1000) (hz : 2 * (cs.length : Int) ≤ z.toInt) (SA : Sta Z h0 "java/lang/StringUTF16" "$assertionsDisabled" "Z" (.int 1)) (SHI : Sta Z h0 "java/lang/StringUTF16" "HI_BYTE_SHIFT" "I" (.int 0)) (SLO : Sta Z h0 "java/lang/StringUTF16" "LO_BYTE_SHIFT" "I" (.int 8)) : own_M l mN_27 jdk_52_method_5_code 2 (some .char) ws ({ frames := 0, cells := 0, slots := 0, locals := 0 } : Room) Z h0 #[(.ref b), (.int p2)] (Qv (cs.getD j 0) h0 n0) := by
  refine own_go #[.val (.ref b), .val (.int p2)] (plainFor_of_name pn_5) (fun m => ef_ug m b p2) ?_
  intro p e s m below meth c s₁ hx hby hml hown hnm hlk X0 e0 hZ hrt
  have N0 := Fr.nil n0
  obtain ⟨T86, X86, e86, st86⟩ := getS2 X0 hx hZ hown (host := "") (Or.inl (own_w hw 252 rfl)) Via.refl e0 SA (g := (mkF m 0 #[.val (.ref b), .val (.int p2)] [])) rfl (hb hby d56_0)
  refine own_of (U' := (T86.setTop (mkF m 3 #[.val (.ref b), .val (.int p2)] [(.int 1)]))) (st86) ?_
  have hc3_87 : ¬ ((1 : Int32) = (0 : Int32)) := by decide
  refine own_ifYes X86 hx hby 3 28 d56_3 ((if0 _ _).trans (feq hc3_87).2) (by decide) (by decide) ?_
  refine own_iloadN X86 hx hby d56_28 rfl ?_
  refine own_iconst X86 hx hby 1 d56_29 rfl ?_
  refine own_ishl X86 hx hby d56_30 ?_
  refine own_istoreN X86 hx hby d56_31 (l' := #[.val (.ref b), .val (.int (p2 <<< ((1 : Int32) &&& 31)))]) rfl ?_
  have ul := own_u16_len cs
  have hJ : (p2 <<< ((1 : Int32) &&& 31)).toInt = 2 * (j : Int) := by rw [own_dbl (by omega) (by omega), hp]
  have hJ1 : ((p2 <<< ((1 : Int32) &&& 31)) + (1 : Int32)).toInt = 2 * (j : Int) + 1 := by rw [own_addI (by rw [own_i1]; omega) (by rw [own_i1]; omega), own_i1, hJ]
  refine own_aloadN X86 hx hby d56_32 rfl rfl ?_
  refine own_iloadN X86 hx hby d56_33 rfl ?_
  refine own_iinc X86 hx hby d56_34 rfl (l' := #[.val (.ref b), .val (.int ((p2 <<< ((1 : Int32) &&& 31)) + (1 : Int32)))]) rfl ?_
  obtain ⟨cl88, Ar88, qa88, Sa88, Na88, Ha88, Ga88⟩ := id Vb
  have hin88 : ¬ ((p2 <<< ((1 : Int32) &&& 31)) < 0 ∨ cl88.slots.size ≤ ((p2 <<< ((1 : Int32) &&& 31))).toNatClampNeg) := inb_of Sa88 ⟨own_ge0 (by rw [hJ]; omega), by rw [own_ltI, hJ]; omega⟩
  have hat88 : cl88.slots[((p2 <<< ((1 : Int32) &&& 31))).toNatClampNeg]? = some (.int (own_at (own_u16 cs) (p2 <<< ((1 : Int32) &&& 31)))) := Has.at Ha88 hin88 (own_at_eq (own_u16 cs) _)
  refine own_of (U' := (T86.setTop (mkF m 38 #[.val (.ref b), .val (.int ((p2 <<< ((1 : Int32) &&& 31)) + (1 : Int32)))] [(.int (own_at (own_u16 cs) (p2 <<< ((1 : Int32) &&& 31))))]))) (X86.baloadBytes hx (j := (p2 <<< ((1 : Int32) &&& 31))) (v := (.int (own_at (own_u16 cs) (p2 <<< ((1 : Int32) &&& 31))))) (by rw [e86]; exact Ar88.1) (State.isArrayOf_alike hZ.alike Ar88.2.1) Ar88.2.2 hin88 hat88 (g := (mkF m 37 #[.val (.ref b), .val (.int ((p2 <<< ((1 : Int32) &&& 31)) + (1 : Int32)))] [(.int (p2 <<< ((1 : Int32) &&& 31))), (.ref b)])) rfl rfl (hb hby d56_37)) ?_
  refine own_sipush X86 hx hby 255 d56_38 rfl ?_
  refine own_iand X86 hx hby d56_41 ?_
  obtain ⟨T89, X89, e89, st89⟩ := getS2 X86 hx hZ hown (host := "") (Or.inl (own_w hw 253 rfl)) Via.refl e86 SHI (g := (mkF m 42 #[.val (.ref b), .val (.int ((p2 <<< ((1 : Int32) &&& 31)) + (1 : Int32)))] [(.int ((own_at (own_u16 cs) (p2 <<< ((1 : Int32) &&& 31))) &&& (255 : Int32)))])) rfl (hb hby d56_42)
  refine own_of (U' := (T89.setTop (mkF m 45 #[.val (.ref b), .val (.int ((p2 <<< ((1 : Int32) &&& 31)) + (1 : Int32)))] [(.int 0), (.int ((own_at (own_u16 cs) (p2 <<< ((1 : Int32) &&& 31))) &&& (255 : Int32)))]))) (st89) ?_
  refine own_ishl X89 hx hby d56_45 ?_
  refine own_aloadN X89 hx hby d56_46 rfl rfl ?_
  refine own_iloadN X89 hx hby d56_47 rfl ?_
  obtain ⟨cl90, Ar90, qa90, Sa90, Na90, Ha90, Ga90⟩ := id Vb
  have hin90 : ¬ (((p2 <<< ((1 : Int32) &&& 31)) + (1 : Int32)) < 0 ∨ cl90.slots.size ≤ (((p2 <<< ((1 : Int32) &&& 31)) + (1 : Int32))).toNatClampNeg) := inb_of Sa90 ⟨own_ge0 (by rw [hJ1]; omega), by rw [own_ltI, hJ1]; omega⟩
  have hat90 : cl90.slots[(((p2 <<< ((1 : Int32) &&& 31)) + (1 : Int32))).toNatClampNeg]? = some (.int (own_at (own_u16 cs) ((p2 <<< ((1 : Int32) &&& 31)) + (1 : Int32)))) := Has.at Ha90 hin90 (own_at_eq (own_u16 cs) _)
  refine own_of (U' := (T89.setTop (mkF m 49 #[.val (.ref b), .val (.int ((p2 <<< ((1 : Int32) &&& 31)) + (1 : Int32)))] [(.int (own_at (own_u16 cs) ((p2 <<< ((1 : Int32) &&& 31)) + (1 : Int32)))), (.int (((own_at (own_u16 cs) (p2 <<< ((1 : Int32) &&& 31))) &&& (255 : Int32)) <<< ((0 : Int32) &&& 31)))]))) (X89.baloadBytes hx (j := ((p2 <<< ((1 : Int32) &&& 31)) + (1 : Int32))) (v := (.int (own_at (own_u16 cs) ((p2 <<< ((1 : Int32) &&& 31)) + (1 : Int32))))) (by rw [e89]; exact Ar90.1) (State.isArrayOf_alike hZ.alike Ar90.2.1) Ar90.2.2 hin90 hat90 (g := (mkF m 48 #[.val (.ref b), .val (.int ((p2 <<< ((1 : Int32) &&& 31)) + (1 : Int32)))] [(.int ((p2 <<< ((1 : Int32) &&& 31)) + (1 : Int32))), (.ref b), (.int (((own_at (own_u16 cs) (p2 <<< ((1 : Int32) &&& 31))) &&& (255 : Int32)) <<< ((0 : Int32) &&& 31)))])) rfl rfl (hb hby d56_48)) ?_
  refine own_sipush X89 hx hby 255 d56_49 rfl ?_
  refine own_iand X89 hx hby d56_52 ?_
  obtain ⟨T91, X91, e91, st91⟩ := getS2 X89 hx hZ hown (host := "") (Or.inl (own_w hw 254 rfl)) Via.refl e89 SLO (g := (mkF m 53 #[.val (.ref b), .val (.int ((p2 <<< ((1 : Int32) &&& 31)) + (1 : Int32)))] [(.int ((own_at (own_u16 cs) ((p2 <<< ((1 : Int32) &&& 31)) + (1 : Int32))) &&& (255 : Int32))), (.int (((own_at (own_u16 cs) (p2 <<< ((1 : Int32) &&& 31))) &&& (255 : Int32)) <<< ((0 : Int32) &&& 31)))])) rfl (hb hby d56_53)
  refine own_of (U' := (T91.setTop (mkF m 56 #[.val (.ref b), .val (.int ((p2 <<< ((1 : Int32) &&& 31)) + (1 : Int32)))] [(.int 8), (.int ((own_at (own_u16 cs) ((p2 <<< ((1 : Int32) &&& 31)) + (1 : Int32))) &&& (255 : Int32))), (.int (((own_at (own_u16 cs) (p2 <<< ((1 : Int32) &&& 31))) &&& (255 : Int32)) <<< ((0 : Int32) &&& 31)))]))) (st91) ?_
  refine own_ishl X91 hx hby d56_56 ?_
  refine own_ior X91 hx hby d56_57 ?_
  refine own_i2c X91 hx hby d56_58 ?_
  exact own_retN X91 hx hlk (t := .char) hrt (by simp) (hb hby d56_59) (by decide) (by decide) (⟨congrArg (fun z => some (Value.int z)) (show own_chu (own_u16 cs) p2 = cs.getD j 0 from own_chu_at hp hj hcs (by omega)), N0, e91⟩)
abbrev mN_28 : MethodName := ⟨"java/lang/StringUTF16", "inflate", "([BI[BII)V"⟩
theorem pd_11 : parseMethodDescriptor "(II[B)V" = some ⟨[.int, .int, (.array .byte)], none⟩ := by decide +kernel
theorem d59_0 : decode c_27 0 = .ok (.iload_n 3, 1) := by decide +kernel
theorem d59_1 : decode c_27 1 = .ok (.iload 4, 2) := by decide +kernel
theorem d59_3 : decode c_27 3 = .ok (.aload_n 2, 1) := by decide +kernel
theorem d59_4 : decode c_27 4 = .ok (.invokestatic 173, 3) := by decide +kernel
theorem d59_7 : decode c_27 7 = .ok (.iconst 0, 1) := by decide +kernel
theorem d59_8 : decode c_27 8 = .ok (.istore 5, 2) := by decide +kernel
theorem d59_10 : decode c_27 10 = .ok (.iload 5, 2) := by decide +kernel
theorem d59_12 : decode c_27 12 = .ok (.iload 4, 2) := by decide +kernel
theorem d59_14 : decode c_27 14 = .ok (.if_icmp .ge 27, 3) := by decide +kernel
theorem d59_17 : decode c_27 17 = .ok (.aload_n 2, 1) := by decide +kernel
theorem d59_18 : decode c_27 18 = .ok (.iload_n 3, 1) := by decide +kernel
theorem d59_19 : decode c_27 19 = .ok (.iinc 3 1, 3) := by decide +kernel
theorem d59_22 : decode c_27 22 = .ok (.aload_n 0, 1) := by decide +kernel
theorem d59_23 : decode c_27 23 = .ok (.iload_n 1, 1) := by decide +kernel
theorem d59_24 : decode c_27 24 = .ok (.iinc 1 1, 3) := by decide +kernel
theorem d59_27 : decode c_27 27 = .ok (.baload, 1) := by decide +kernel
theorem d59_28 : decode c_27 28 = .ok (.sipush 255, 3) := by decide +kernel
theorem d59_31 : decode c_27 31 = .ok (.iand, 1) := by decide +kernel
theorem d59_32 : decode c_27 32 = .ok (.invokestatic 111, 3) := by decide +kernel
theorem d59_35 : decode c_27 35 = .ok (.iinc 5 1, 3) := by decide +kernel
theorem d59_38 : decode c_27 38 = .ok (.goto (-28), 3) := by decide +kernel
theorem d59_41 : decode c_27 41 = .ok (.return_, 1) := by decide +kernel
theorem ef_ui (m : MethodId) (x0 : Addr) (x2 : Addr) (x3 : Int32) (x4 : Int32) : entryFrame m #[(.ref x0), (.int 0), (.ref x2), (.int x3), (.int x4)] 6 = mkF m 0 #[.val (.ref x0), .val (.int 0), .val (.ref x2), .val (.int x3), .val (.int x4), .unset] [] := by first | (simp [entryFrame, mkF, argsToLocals, Value.category]; done) | rfl
theorem rmui (l : Launch) (Z : State) (a0 : Array Value) (hw : ∀ d ∈ tables_1, d.before a0 Z = true) (ws : List Jvm.Cond) (a1 : Addr) (b : Addr) (p3 p4 : Int32) (ks kb : ClassId) (zs z : Int32) (us cs : List Int32) (rS : Value) (h0 : Heap) (n0 : Nat) (Z0 : n0 ≤ h0.size) (Vs : Arv Z h0 a1 ks .byte zs (List.map Value.int (List.map own_b8 us)) (.int 0)) (Vd : Arv Z h0 b kb .byte z (List.map Value.int (own_u16 cs)) (.int 0)) (hp : p3.toInt = cs.length) (hn : p4.toInt = us.length) (hzs : (us.length : Int) ≤ zs.toInt) (hf : 2 * ((cs.length : Int) + us.length) ≤ z.toInt) (hl : cs.length + us.length ≤ 100) (hlat : own_lat us) (hcs : own_chs us) (g_b : n0 ≤ b) (n1b : a1 ≠ b) (SA : Sta Z h0 "java/lang/StringUTF16" "$assertionsDisabled" "Z" (.int 1)) (SHI : Sta Z h0 "java/lang/StringUTF16" "HI_BYTE_SHIFT" "I" (.int 0)) (SLO : Sta Z h0 "java/lang/StringUTF16" "LO_BYTE_SHIFT" "I" (.int 8)) (SF : Sta Z h0 "jdk/internal/util/Preconditions" "SIOOBE_FORMATTER" "Ljava/util/function/BiFunction;" rS) (hrS : rS.isRef = true) : own_M l mN_28 jdk_52_method_86_code 6 none ws ({ frames := 3, cells := 0, slots := 0, locals := 43 } : Room) Z h0 #[(.ref a1), (.int 0), (.ref b), (.int p3), (.int p4)] (Qpc Z b kb z (cs ++ us) h0 n0) := by
  refine own_go #[.val (.ref a1), .val (.int 0), .val (.ref b), .val (.int p3), .val (.int p4), .unset] (plainFor_of_name pn_5) (fun m => ef_ui m a1 b p3 p4) ?_
  intro p e s m below meth c s₁ hx hby hml hown hnm hlk X0 e0 hZ hrt
  have N0 := Fr.nil n0
  have KK := Keep.refl h0 [b]
  refine own_iloadN X0 hx hby d59_0 rfl ?_
  refine own_iload X0 hx hby d59_1 rfl ?_
  refine own_aloadN X0 hx hby d59_3 rfl rfl ?_
  obtain ⟨_, _, ⟨T92, L92, k92, n92⟩, -, X92, ⟨Lc92, hQ92, l92, y92, z92⟩, st92⟩ := Jvm.LawKit.callS X0 hx (y := mN_19) hown (oV hZ hw 270 rfl) (oV hZ hw 271 rfl) (oV hZ hw 27 rfl) (oV hZ hw 272 rfl) (by decide) (backOf (W := 0) (rmuo l Z a0 hw [] p3 p4 b kb z (own_u16 cs) rS h0 n0 Z0 Vd (by rw [own_ltI, own_i0]; have r1 := rng32 z; have q1 := own_half z; have q2 := c_orS (z >>> ((1 : Int32) &&& 31)) p3; have q3 := c_orS ((z >>> ((1 : Int32) &&& 31)) ||| p3) p4; omega) (by have q1 := own_half z; have r1 := rng32 z; rw [own_ltI, own_subI (by omega) (by omega)]; omega) SF hrS) hZ (own_w hw 272 rfl) (own_w hw 27 rfl) (by decide) (by decide)) (g := (mkF m 4 #[.val (.ref a1), .val (.int 0), .val (.ref b), .val (.int p3), .val (.int p4), .unset] [(.ref b), (.int p4), (.int p3)])) rfl (by rw [hml]; rfl) (argsL := [(.int p3), (.int p4), (.ref b)]) (rest := []) (lenOf pd_11 rfl) rfl (by exact oZ rfl) (hb hby d59_4) (fun _ _ => ⟨rfl, e0, (by decide : 0 + 0 ≤ _), (by decide : 0 + 0 ≤ _)⟩)
  dsimp only [Pt.U, Pt.locs, Pt.cells, Pt.slots] at X92 l92 y92 z92 st92 hQ92
  rw [l92, y92, z92] at X92
  obtain ⟨rfl, Nq92, e92⟩ := hQ92
  have N92 := Fr.app N0 Nq92
  refine own_of (U' := (T92.setTop (mkF m 7 #[.val (.ref a1), .val (.int 0), .val (.ref b), .val (.int p3), .val (.int p4), .unset] []))) (st92) ?_
  refine own_iconst X92 hx hby 0 d59_7 rfl ?_
  refine own_istore X92 hx hby d59_8 (l' := #[.val (.ref a1), .val (.int 0), .val (.ref b), .val (.int p3), .val (.int p4), .val (.int 0)]) rfl ?_
  replace Vd : Arv Z h0 b kb .byte z (List.map Value.int (own_u16 (cs ++ us.take 0))) (.int 0) := by rw [List.take_zero, List.append_nil]; exact Vd
  suffices key93 : ∀ (f : Nat) (T93 : State) (L93 : List Loc) (hq93 : Heap) (si : Int32) (di : Int32) (i : Int32) (j : Nat), Stand p l e ({ frames := 3, cells := 0, slots := 0, locals := 43 } : Room) s m #[(.ref a1), (.int 0), (.ref b), (.int p3), (.int p4)] below meth c T93 L93 0 0 → T93.heap = hq93 → Fr n0 L93 → (n0 ≤ hq93.size) → (Arv Z hq93 a1 ks .byte zs (List.map Value.int (List.map own_b8 us)) (.int 0)) → (Arv Z hq93 b kb .byte z (List.map Value.int (own_u16 (cs ++ us.take j))) (.int 0)) → (Sta Z hq93 "java/lang/StringUTF16" "$assertionsDisabled" "Z" (.int 1)) → (Sta Z hq93 "java/lang/StringUTF16" "HI_BYTE_SHIFT" "I" (.int 0)) → (Sta Z hq93 "java/lang/StringUTF16" "LO_BYTE_SHIFT" "I" (.int 8)) → (Sta Z hq93 "jdk/internal/util/Preconditions" "SIOOBE_FORMATTER" "Ljava/util/function/BiFunction;" rS) → (Keep h0 hq93 [b]) → (si.toInt = j ∧ di.toInt = (cs.length : Int) + j ∧ i.toInt = j ∧ j + f = us.length) → own_Ends p e below s FrameEnd (Qpc Z b kb z (cs ++ us) h0 n0) 0 0 (T93.setTop (mkF m 10 #[.val (.ref a1), .val (.int si), .val (.ref b), .val (.int di), .val (.int p4), .val (.int i)] [])) by
    exact key93 us.length _ _ _ _ _ _ 0 X92 e92 N92 Z0 Vs Vd SA SHI SLO SF KK ⟨own_i0, by rw [hp]; omega, own_i0, by omega⟩
  intro f
  induction f using Nat.strongRecOn with
  | _ f ih93 =>
    intro T93 L93 hq93 si di i j X93 e93 N93 Z0 Vs Vd SA SHI SLO SF KK iv
    obtain ⟨hsi, hdi, hi, hjf⟩ := iv
    refine own_iload X93 hx hby d59_10 rfl ?_
    refine own_iload X93 hx hby d59_12 rfl ?_
    by_cases hc14_94 : i < p4
    · skip
      refine own_icmpNo X93 hx hby d59_14 (tlt hc14_94).2.1 ?_
      have hjl : j < us.length := by have q := hc14_94; rw [own_ltI, hn, hi] at q; omega
      obtain ⟨g, rfl⟩ : ∃ g, f = g + 1 := ⟨f - 1, by omega⟩
      have htl : (us.take j).length = j := by rw [List.length_take]; omega
      refine own_aloadN X93 hx hby d59_17 rfl rfl ?_
      refine own_iloadN X93 hx hby d59_18 rfl ?_
      refine own_iinc X93 hx hby d59_19 rfl (l' := #[.val (.ref a1), .val (.int si), .val (.ref b), .val (.int (di + (1 : Int32))), .val (.int p4), .val (.int i)]) rfl ?_
      refine own_aloadN X93 hx hby d59_22 rfl rfl ?_
      refine own_iloadN X93 hx hby d59_23 rfl ?_
      refine own_iinc X93 hx hby d59_24 rfl (l' := #[.val (.ref a1), .val (.int (si + (1 : Int32))), .val (.ref b), .val (.int (di + (1 : Int32))), .val (.int p4), .val (.int i)]) rfl ?_
      obtain ⟨cl95, Ar95, qa95, Sa95, Na95, Ha95, Ga95⟩ := id Vs
      have hin95 : ¬ (si < 0 ∨ cl95.slots.size ≤ (si).toNatClampNeg) := inb_of Sa95 ⟨own_ge0 (by omega), by rw [own_ltI, hsi]; omega⟩
      have hat95 : cl95.slots[(si).toNatClampNeg]? = some (.int (own_at (List.map own_b8 us) si)) := Has.at Ha95 hin95 (own_at_eq (List.map own_b8 us) _)
      refine own_of (U' := (T93.setTop (mkF m 28 #[.val (.ref a1), .val (.int (si + (1 : Int32))), .val (.ref b), .val (.int (di + (1 : Int32))), .val (.int p4), .val (.int i)] [(.int (own_at (List.map own_b8 us) si)), (.int di), (.ref b)]))) (X93.baloadBytes hx (j := si) (v := (.int (own_at (List.map own_b8 us) si))) (by rw [e93]; exact Ar95.1) (State.isArrayOf_alike hZ.alike Ar95.2.1) Ar95.2.2 hin95 hat95 (g := (mkF m 27 #[.val (.ref a1), .val (.int (si + (1 : Int32))), .val (.ref b), .val (.int (di + (1 : Int32))), .val (.int p4), .val (.int i)] [(.int si), (.ref a1), (.int di), (.ref b)])) rfl rfl (hb hby d59_27)) ?_
      refine own_sipush X93 hx hby 255 d59_28 rfl ?_
      refine own_iand X93 hx hby d59_31 ?_
      refine own_eq (U' := (T93.setTop (mkF m 32 #[.val (.ref a1), .val (.int (si + (1 : Int32))), .val (.ref b), .val (.int (di + (1 : Int32))), .val (.int p4), .val (.int i)] [(.int (us.getD j 0)), (.int di), (.ref b)]))) (by rw [show ((own_at (List.map own_b8 us) si) &&& (255 : Int32)) = (us.getD j 0) from by rw [own_atb hsi hjl]; exact own_bmask (hcs _ (own_getmem hjl)) (hlat _ (own_getmem hjl))]) ?_
      obtain ⟨_, _, ⟨T96, L96, k96, n96⟩, -, X96, ⟨Lc96, hQ96, l96, y96, z96⟩, st96⟩ := Jvm.LawKit.callS X93 hx (y := mN_25) hown (oV hZ hw 249 rfl) (oV hZ hw 250 rfl) (oV hZ hw 27 rfl) (oV hZ hw 251 rfl) (by decide) (backOf (W := 0) (rmpc l Z a0 hw [] b di (us.getD j 0) kb z (cs ++ us.take j) hq93 n0 Z0 Vd (by rw [List.length_append, htl, hdi]; omega) (by rw [List.length_append, htl]; omega) (by rw [List.length_append, htl]; omega) g_b SA SHI SLO) hZ (own_w hw 251 rfl) (own_w hw 27 rfl) (by decide) (by decide)) (g := (mkF m 32 #[.val (.ref a1), .val (.int (si + (1 : Int32))), .val (.ref b), .val (.int (di + (1 : Int32))), .val (.int p4), .val (.int i)] [(.int (us.getD j 0)), (.int di), (.ref b)])) rfl (by rw [hml]; rfl) (argsL := [(.ref b), (.int di), (.int (us.getD j 0))]) (rest := []) (lenOf pd_10 rfl) rfl (by exact oZ rfl) (hb hby d59_32) (fun _ _ => ⟨rfl, e93, (by decide : 0 + 0 ≤ _), (by decide : 0 + 0 ≤ _)⟩)
      dsimp only [Pt.U, Pt.locs, Pt.cells, Pt.slots] at X96 l96 y96 z96 st96 hQ96
      rw [l96, y96, z96] at X96
      obtain ⟨rfl, Nq96, Kp96, Vq96⟩ := hQ96
      have N96 := Fr.app N93 Nq96
      have nst_b := Vd.nostat
      replace Z0 := nT Z0 Kp96.1
      replace Vs := Vs.keep Kp96 (ninS n1b nin0)
      replace SA := own_staKeep SA Kp96 (nsS nst_b ns0)
      replace SHI := own_staKeep SHI Kp96 (nsS nst_b ns0)
      replace SLO := own_staKeep SLO Kp96 (nsS nst_b ns0)
      replace SF := own_staKeep SF Kp96 (nsS nst_b ns0)
      replace KK := KK.trans Kp96 (allS (Or.inl (List.mem_of_getElem? (i := 0) rfl)) all0)
      refine own_of (U' := (T96.setTop (mkF m 35 #[.val (.ref a1), .val (.int (si + (1 : Int32))), .val (.ref b), .val (.int (di + (1 : Int32))), .val (.int p4), .val (.int i)] []))) (st96) ?_
      refine own_iinc X96 hx hby d59_35 rfl (l' := #[.val (.ref a1), .val (.int (si + (1 : Int32))), .val (.ref b), .val (.int (di + (1 : Int32))), .val (.int p4), .val (.int (i + (1 : Int32)))]) rfl ?_
      refine own_goto X96 hx hby 38 10 d59_38 (by decide) (by decide) ?_
      have di1 : (di + (1 : Int32)).toInt = (cs.length : Int) + ((j + 1 : Nat) : Int) := by rw [own_addI (by rw [own_i1]; omega) (by rw [own_i1]; omega), own_i1]; omega
      replace Vq96 : Arv Z T96.heap b kb .byte z (List.map Value.int (own_u16 (cs ++ us.take (j + 1)))) (.int 0) := by rw [← own_take1 hjl, ← List.append_assoc]; exact Vq96
      exact ih93 g (Nat.lt_succ_self g) _ _ _ _ _ _ (j + 1) X96 rfl N96 Z0 Vs Vq96 SA SHI SLO SF KK ⟨own_inc hsi (by omega), di1, own_inc hi (by omega), by omega⟩
    · skip
      refine own_icmpYes X93 hx hby 14 41 d59_14 (flt hc14_94).2.1 (by decide) (by decide) ?_
      exact own_ret0 X93 hx hlk hrt (hb hby d59_41) (by decide) (by decide) (by rw [e93]; exact ⟨rfl, N93, KK, (by rw [show us = us.take j from by rw [show j = us.length by have q := hc14_94; rw [own_ltI, hn, hi] at q; omega, List.take_length]]; exact Vd)⟩)
abbrev mN_29 : MethodName := ⟨"java/lang/StringLatin1", "inflate", "([BI[BII)V"⟩
theorem pd_12 : parseMethodDescriptor "([BI[BII)V" = some ⟨[(.array .byte), .int, (.array .byte), .int, .int], none⟩ := by decide +kernel
theorem d58_0 : decode c_28 0 = .ok (.aload_n 0, 1) := by decide +kernel
theorem d58_1 : decode c_28 1 = .ok (.iload_n 1, 1) := by decide +kernel
theorem d58_2 : decode c_28 2 = .ok (.aload_n 2, 1) := by decide +kernel
theorem d58_3 : decode c_28 3 = .ok (.iload_n 3, 1) := by decide +kernel
theorem d58_4 : decode c_28 4 = .ok (.iload 4, 2) := by decide +kernel
theorem d58_6 : decode c_28 6 = .ok (.invokestatic 240, 3) := by decide +kernel
theorem d58_9 : decode c_28 9 = .ok (.return_, 1) := by decide +kernel
theorem ef_li (m : MethodId) (x0 : Addr) (x2 : Addr) (x3 : Int32) (x4 : Int32) : entryFrame m #[(.ref x0), (.int 0), (.ref x2), (.int x3), (.int x4)] 5 = mkF m 0 #[.val (.ref x0), .val (.int 0), .val (.ref x2), .val (.int x3), .val (.int x4)] [] := by first | (simp [entryFrame, mkF, argsToLocals, Value.category]; done) | rfl
theorem rmli (l : Launch) (Z : State) (a0 : Array Value) (hw : ∀ d ∈ tables_1, d.before a0 Z = true) (ws : List Jvm.Cond) (a1 : Addr) (b : Addr) (p3 p4 : Int32) (ks kb : ClassId) (zs z : Int32) (us cs : List Int32) (rS : Value) (h0 : Heap) (n0 : Nat) (Z0 : n0 ≤ h0.size) (Vs : Arv Z h0 a1 ks .byte zs (List.map Value.int (List.map own_b8 us)) (.int 0)) (Vd : Arv Z h0 b kb .byte z (List.map Value.int (own_u16 cs)) (.int 0)) (hp : p3.toInt = cs.length) (hn : p4.toInt = us.length) (hzs : (us.length : Int) ≤ zs.toInt) (hf : 2 * ((cs.length : Int) + us.length) ≤ z.toInt) (hl : cs.length + us.length ≤ 100) (hlat : own_lat us) (hcs : own_chs us) (g_b : n0 ≤ b) (n1b : a1 ≠ b) (SA : Sta Z h0 "java/lang/StringUTF16" "$assertionsDisabled" "Z" (.int 1)) (SHI : Sta Z h0 "java/lang/StringUTF16" "HI_BYTE_SHIFT" "I" (.int 0)) (SLO : Sta Z h0 "java/lang/StringUTF16" "LO_BYTE_SHIFT" "I" (.int 8)) (SF : Sta Z h0 "jdk/internal/util/Preconditions" "SIOOBE_FORMATTER" "Ljava/util/function/BiFunction;" rS) (hrS : rS.isRef = true) : own_M l mN_29 jdk_43_method_50_code 5 none ws ({ frames := 4, cells := 0, slots := 0, locals := 60 } : Room) Z h0 #[(.ref a1), (.int 0), (.ref b), (.int p3), (.int p4)] (Qpc Z b kb z (cs ++ us) h0 n0) := by
  refine own_go #[.val (.ref a1), .val (.int 0), .val (.ref b), .val (.int p3), .val (.int p4)] (plainFor_of_name pn_6) (fun m => ef_li m a1 b p3 p4) ?_
  intro p e s m below meth c s₁ hx hby hml hown hnm hlk X0 e0 hZ hrt
  have N0 := Fr.nil n0
  have KK := Keep.refl h0 [b]
  refine own_aloadN X0 hx hby d58_0 rfl rfl ?_
  refine own_iloadN X0 hx hby d58_1 rfl ?_
  refine own_aloadN X0 hx hby d58_2 rfl rfl ?_
  refine own_iloadN X0 hx hby d58_3 rfl ?_
  refine own_iload X0 hx hby d58_4 rfl ?_
  obtain ⟨_, _, ⟨T97, L97, k97, n97⟩, -, X97, ⟨Lc97, hQ97, l97, y97, z97⟩, st97⟩ := Jvm.LawKit.callS X0 hx (y := mN_28) hown (oV hZ hw 267 rfl) (oV hZ hw 268 rfl) (oV hZ hw 27 rfl) (oV hZ hw 269 rfl) (by decide) (backOf (W := 0) (rmui l Z a0 hw [] a1 b p3 p4 ks kb zs z us cs rS h0 n0 Z0 Vs Vd hp hn hzs hf hl hlat hcs g_b n1b SA SHI SLO SF hrS) hZ (own_w hw 269 rfl) (own_w hw 27 rfl) (by decide) (by decide)) (g := (mkF m 6 #[.val (.ref a1), .val (.int 0), .val (.ref b), .val (.int p3), .val (.int p4)] [(.int p4), (.int p3), (.ref b), (.int 0), (.ref a1)])) rfl (by rw [hml]; rfl) (argsL := [(.ref a1), (.int 0), (.ref b), (.int p3), (.int p4)]) (rest := []) (lenOf pd_12 rfl) rfl (by exact oZ rfl) (hb hby d58_6) (fun _ _ => ⟨rfl, e0, (by decide : 0 + 0 ≤ _), (by decide : 0 + 0 ≤ _)⟩)
  dsimp only [Pt.U, Pt.locs, Pt.cells, Pt.slots] at X97 l97 y97 z97 st97 hQ97
  rw [l97, y97, z97] at X97
  obtain ⟨rfl, Nq97, Kp97, Vq97⟩ := hQ97
  have N97 := Fr.app N0 Nq97
  have nst_b := Vd.nostat
  replace Z0 := nT Z0 Kp97.1
  replace Vs := Vs.keep Kp97 (ninS n1b nin0)
  replace SA := own_staKeep SA Kp97 (nsS nst_b ns0)
  replace SHI := own_staKeep SHI Kp97 (nsS nst_b ns0)
  replace SLO := own_staKeep SLO Kp97 (nsS nst_b ns0)
  replace SF := own_staKeep SF Kp97 (nsS nst_b ns0)
  replace KK := KK.trans Kp97 (allS (Or.inl (List.mem_of_getElem? (i := 0) rfl)) all0)
  refine own_of (U' := (T97.setTop (mkF m 9 #[.val (.ref a1), .val (.int 0), .val (.ref b), .val (.int p3), .val (.int p4)] []))) (st97) ?_
  exact own_ret0 X97 hx hlk hrt (hb hby d58_9) (by decide) (by decide) (⟨rfl, N97, KK, Vq97⟩)
abbrev mN_30 : MethodName := ⟨"java/lang/AbstractStringBuilder", "inflate", "()V"⟩
theorem pd_13 : parseMethodDescriptor "()Z" = some ⟨[], some .boolean⟩ := by decide +kernel
theorem pd_14 : parseMethodDescriptor "(I)[B" = some ⟨[.int], some (.array .byte)⟩ := by decide +kernel
theorem d57_0 : decode c_29 0 = .ok (.aload_n 0, 1) := by decide +kernel
theorem d57_1 : decode c_29 1 = .ok (.invokevirtual 83, 3) := by decide +kernel
theorem d57_4 : decode c_29 4 = .ok (.ifCond .ne 4, 3) := by decide +kernel
theorem d57_8 : decode c_29 8 = .ok (.aload_n 0, 1) := by decide +kernel
theorem d57_9 : decode c_29 9 = .ok (.getfield 15, 3) := by decide +kernel
theorem d57_12 : decode c_29 12 = .ok (.arraylength, 1) := by decide +kernel
theorem d57_13 : decode c_29 13 = .ok (.invokestatic 26, 3) := by decide +kernel
theorem d57_16 : decode c_29 16 = .ok (.astore_n 1, 1) := by decide +kernel
theorem d57_17 : decode c_29 17 = .ok (.aload_n 0, 1) := by decide +kernel
theorem d57_18 : decode c_29 18 = .ok (.getfield 15, 3) := by decide +kernel
theorem d57_21 : decode c_29 21 = .ok (.iconst 0, 1) := by decide +kernel
theorem d57_22 : decode c_29 22 = .ok (.aload_n 1, 1) := by decide +kernel
theorem d57_23 : decode c_29 23 = .ok (.iconst 0, 1) := by decide +kernel
theorem d57_24 : decode c_29 24 = .ok (.aload_n 0, 1) := by decide +kernel
theorem d57_25 : decode c_29 25 = .ok (.getfield 79, 3) := by decide +kernel
theorem d57_28 : decode c_29 28 = .ok (.invokestatic 125, 3) := by decide +kernel
theorem d57_31 : decode c_29 31 = .ok (.aload_n 0, 1) := by decide +kernel
theorem d57_32 : decode c_29 32 = .ok (.aload_n 1, 1) := by decide +kernel
theorem d57_33 : decode c_29 33 = .ok (.putfield 15, 3) := by decide +kernel
theorem d57_36 : decode c_29 36 = .ok (.aload_n 0, 1) := by decide +kernel
theorem d57_37 : decode c_29 37 = .ok (.iconst 1, 1) := by decide +kernel
theorem d57_38 : decode c_29 38 = .ok (.putfield 22, 3) := by decide +kernel
theorem d57_41 : decode c_29 41 = .ok (.return_, 1) := by decide +kernel
theorem ef_if0 (m : MethodId) (x0 : Addr) : entryFrame m #[(.ref x0)] 2 = mkF m 0 #[.val (.ref x0), .unset] [] := by first | (simp [entryFrame, mkF, argsToLocals, Value.category]; done) | rfl
def Qif (Z : State) (a1 : Addr) (n : Int32) (cs : List Int32) (h0 : Heap) (n0 : Nat) (v : Option Value) (h : Heap) (L : List Loc) : Prop := v = none ∧ Fr n0 L ∧ Keep h0 h [a1] ∧ ∃ (u : Addr) (ku : ClassId), h0.size ≤ u ∧ Fld Z h a1 "java/lang/AbstractStringBuilder" "value" "[B" (.ref u) ∧ Fld Z h a1 "java/lang/AbstractStringBuilder" "count" "I" (.int n) ∧ Fld Z h a1 "java/lang/AbstractStringBuilder" "maybeLatin1" "Z" (.int 0) ∧ Fld Z h a1 "java/lang/AbstractStringBuilder" "coder" "B" (.int 1) ∧ Arv Z h u ku .byte (32 : Int32) (List.map Value.int (own_u16 cs)) (.int 0)
theorem rmif0 (l : Launch) (Z : State) (a0 : Array Value) (hw : ∀ d ∈ tables_1, d.before a0 Z = true) (ws : List Jvm.Cond) (a1 b : Addr) (kb : ClassId) (n : Int32) (cs : List Int32) (g1 : Int32) (rS : Value) (h0 : Heap) (n0 : Nat) (Z0 : n0 ≤ h0.size) (E1 : Exa Z h0 a1 "java/lang/StringBuilder") (Fv : Fld Z h0 a1 "java/lang/AbstractStringBuilder" "value" "[B" (.ref b)) (Fn : Fld Z h0 a1 "java/lang/AbstractStringBuilder" "count" "I" (.int n)) (Fm : Fld Z h0 a1 "java/lang/AbstractStringBuilder" "maybeLatin1" "Z" (.int 0)) (Fc : Fld Z h0 a1 "java/lang/AbstractStringBuilder" "coder" "B" (.int 0)) (Vb : Arv Z h0 b kb .byte (16 : Int32) (List.map Value.int (List.map own_b8 cs)) (.int 0)) (hn : n.toInt = cs.length) (hl : cs.length ≤ 16) (hlat : own_lat cs) (hcs : own_chs cs) (g_a1 : n0 ≤ a1) (neab : a1 ≠ b) (SC : Sta Z h0 "java/lang/String" "COMPACT_STRINGS" "Z" (.int g1)) (hg1 : ¬ (g1 = (0 : Int32))) (SA : Sta Z h0 "java/lang/StringUTF16" "$assertionsDisabled" "Z" (.int 1)) (SHI : Sta Z h0 "java/lang/StringUTF16" "HI_BYTE_SHIFT" "I" (.int 0)) (SLO : Sta Z h0 "java/lang/StringUTF16" "LO_BYTE_SHIFT" "I" (.int 8)) (SF : Sta Z h0 "jdk/internal/util/Preconditions" "SIOOBE_FORMATTER" "Ljava/util/function/BiFunction;" rS) (hrS : rS.isRef = true) : own_M l mN_30 jdk_68_method_11_code 2 none ws ({ frames := 5, cells := 1, slots := 32, locals := 76 } : Room) Z h0 #[(.ref a1)] (Qif Z a1 n cs h0 n0) := by
  refine own_go #[.val (.ref a1), .unset] (plainFor_of_name pn_1) (fun m => ef_if0 m a1) ?_
  intro p e s m below meth c s₁ hx hby hml hown hnm hlk X0 e0 hZ hrt
  have N0 := Fr.nil n0
  have KK := Keep.refl h0 [a1]
  refine own_aloadN X0 hx hby d57_0 rfl rfl ?_
  obtain ⟨cq98, kq98, q98a, q98b, q98c⟩ := isOf hZ e0 E1
  obtain ⟨_, _, ⟨T98, L98, k98, n98⟩, -, X98, ⟨Lc98, hQ98, l98, y98, z98⟩, st98⟩ := X0.virtualBack hx (y := mN_3) (z := mN_3) hown (oV hZ hw 132 rfl) (oV hZ hw 133 rfl) (notFace_of_selects (args := #[]) (oV hZ hw 135 rfl)) (oV hZ hw 135 rfl) (oV hZ hw 134 rfl) (by decide) (backOf (W := 0) (rmab0 l Z a0 hw [] a1 g1 h0 n0 Z0 Fc SC hg1) hZ (own_w hw 136 rfl) (own_w hw 68 rfl) (by decide) (by decide)) q98a q98c (g := (mkF m 1 #[.val (.ref a1), .unset] [(.ref a1)])) rfl (by rw [hml]; rfl) (Steps.refl _) (argsL := []) (rest := []) (lenOf pd_13 rfl) rfl (by exact oZ rfl) (hb hby d57_1) (fun _ _ => ⟨rfl, e0, (by decide : 0 + 0 ≤ _), (by decide : 0 + 0 ≤ _)⟩)
  dsimp only [Pt.U, Pt.locs, Pt.cells, Pt.slots] at X98 l98 y98 z98 st98 hQ98
  rw [l98, y98, z98] at X98
  obtain ⟨rfl, Nq98, e98⟩ := hQ98
  have N98 := Fr.app N0 Nq98
  refine own_of (U' := (T98.setTop (mkF m 4 #[.val (.ref a1), .unset] [(.int 1)]))) (fun _ k => st98.trans k) ?_
  have hc4_99 : ¬ ((1 : Int32) = (0 : Int32)) := by decide
  refine own_ifYes X98 hx hby 4 8 d57_4 ((if0 _ _).trans (feq hc4_99).2) (by decide) (by decide) ?_
  refine own_aloadN X98 hx hby d57_8 rfl rfl ?_
  obtain ⟨T100, X100, e100, st100⟩ := getF X98 hx hZ hown (host := "") (Or.inl (own_w hw 72 rfl)) Via.refl e98 Fv (g := (mkF m 9 #[.val (.ref a1), .unset] [(.ref a1)])) rfl rfl (hb hby d57_9)
  refine own_of (U' := (T100.setTop (mkF m 12 #[.val (.ref a1), .unset] [(.ref b)]))) (st100) ?_
  obtain ⟨cl101, Ar101, qa101, Sa101, Na101, -, -⟩ := id Vb
  have al101 := X100.arraylength hx (by rw [e100]; exact Ar101.1) (State.isArrayOf_alike hZ.alike Ar101.2.1) (g := (mkF m 12 #[.val (.ref a1), .unset] [(.ref b)])) rfl rfl (hb hby d57_12)
  rw [len_of Sa101 Na101] at al101
  refine own_of (U' := (T100.setTop (mkF m 13 #[.val (.ref a1), .unset] [(.int 16)]))) (al101) ?_
  obtain ⟨_, _, ⟨T102, L102, k102, n102⟩, -, X102, ⟨Lc102, hQ102, l102, y102, z102⟩, st102⟩ := Jvm.LawKit.callS X100 hx (y := mN_24) hown (oV hZ hw 263 rfl) (oV hZ hw 243 rfl) (oV hZ hw 27 rfl) (oV hZ hw 244 rfl) (by decide) (backOf (W := 0) (rmnb16 l Z a0 hw [] (16 : Int32) h0 n0 Z0 (by decide) (by decide)) hZ (own_w hw 244 rfl) (own_w hw 27 rfl) (by decide) (by decide)) (g := (mkF m 13 #[.val (.ref a1), .unset] [(.int 16)])) rfl (by rw [hml]; rfl) (argsL := [(.int 16)]) (rest := []) (lenOf pd_14 rfl) rfl (by exact oZ rfl) (hb hby d57_13) (fun _ _ => ⟨rfl, e100, (by decide : 0 + 1 ≤ _), (by decide : 0 + 32 ≤ _)⟩)
  dsimp only [Pt.U, Pt.locs, Pt.cells, Pt.slots] at X102 l102 y102 z102 st102 hQ102
  rw [l102, y102, z102] at X102
  obtain ⟨u102, ku102, zu102, rfl, Nq102, Kp102, gq102, hz102, Vq102⟩ := hQ102
  have g_u102 : n0 ≤ u102 := nT Z0 gq102
  have sz_u102 : h0.size ≤ u102 := nT KK.1 gq102
  have ne_a1_u102 : a1 ≠ u102 := nL E1.lt gq102
  have ne_b_u102 : b ≠ u102 := nL Vb.lt gq102
  have N102 := Fr.app N98 Nq102
  replace Z0 := nT Z0 Kp102.1
  replace E1 := E1.keep Kp102
  replace Fv := Fv.keep Kp102 nin0
  replace Fn := Fn.keep Kp102 nin0
  replace Fm := Fm.keep Kp102 nin0
  replace Fc := Fc.keep Kp102 nin0
  replace Vb := Vb.keep Kp102 nin0
  replace SC := own_staKeep SC Kp102 ns0
  replace SA := own_staKeep SA Kp102 ns0
  replace SHI := own_staKeep SHI Kp102 ns0
  replace SLO := own_staKeep SLO Kp102 ns0
  replace SF := own_staKeep SF Kp102 ns0
  replace KK := KK.trans Kp102 all0
  obtain rfl : zu102 = (32 : Int32) := Int32.toInt_inj.mp (by rw [hz102]; decide)
  refine own_of (U' := (T102.setTop (mkF m 16 #[.val (.ref a1), .unset] [(.ref u102)]))) (st102) ?_
  refine own_astoreN X102 hx hby d57_16 rfl (l' := #[.val (.ref a1), .val (.ref u102)]) rfl ?_
  refine own_aloadN X102 hx hby d57_17 rfl rfl ?_
  obtain ⟨T103, X103, e103, st103⟩ := getF X102 hx hZ hown (host := "") (Or.inl (own_w hw 72 rfl)) Via.refl rfl Fv (g := (mkF m 18 #[.val (.ref a1), .val (.ref u102)] [(.ref a1)])) rfl rfl (hb hby d57_18)
  refine own_of (U' := (T103.setTop (mkF m 21 #[.val (.ref a1), .val (.ref u102)] [(.ref b)]))) (st103) ?_
  refine own_iconst X103 hx hby 0 d57_21 rfl ?_
  refine own_aloadN X103 hx hby d57_22 rfl rfl ?_
  refine own_iconst X103 hx hby 0 d57_23 rfl ?_
  refine own_aloadN X103 hx hby d57_24 rfl rfl ?_
  obtain ⟨T104, X104, e104, st104⟩ := getF X103 hx hZ hown (host := "") (Or.inl (own_w hw 96 rfl)) Via.refl e103 Fn (g := (mkF m 25 #[.val (.ref a1), .val (.ref u102)] [(.ref a1), (.int 0), (.ref u102), (.int 0), (.ref b)])) rfl rfl (hb hby d57_25)
  refine own_of (U' := (T104.setTop (mkF m 28 #[.val (.ref a1), .val (.ref u102)] [(.int n), (.int 0), (.ref u102), (.int 0), (.ref b)]))) (st104) ?_
  obtain ⟨_, _, ⟨T105, L105, k105, n105⟩, -, X105, ⟨Lc105, hQ105, l105, y105, z105⟩, st105⟩ := Jvm.LawKit.callS X104 hx (y := mN_29) hown (oV hZ hw 264 rfl) (oV hZ hw 265 rfl) (oV hZ hw 45 rfl) (oV hZ hw 266 rfl) (by decide) (backOf (W := 0) (rmli l Z a0 hw [] b u102 (0 : Int32) n kb ku102 (16 : Int32) (32 : Int32) cs ([] : List Int32) rS T102.heap n0 Z0 Vb Vq102 own_i0 hn (by rw [own_i16]; omega) (by rw [own_i32]; show 2 * (((0 : Nat) : Int) + _) ≤ 32; omega) (by show 0 + _ ≤ 100; omega) hlat hcs g_u102 ne_b_u102 SA SHI SLO SF hrS) hZ (own_w hw 266 rfl) (own_w hw 45 rfl) (by decide) (by decide)) (g := (mkF m 28 #[.val (.ref a1), .val (.ref u102)] [(.int n), (.int 0), (.ref u102), (.int 0), (.ref b)])) rfl (by rw [hml]; rfl) (argsL := [(.ref b), (.int 0), (.ref u102), (.int 0), (.int n)]) (rest := []) (lenOf pd_12 rfl) rfl (by exact oZ rfl) (hb hby d57_28) (fun _ _ => ⟨rfl, e104, (by decide : 1 + 0 ≤ _), (by decide : 32 + 0 ≤ _)⟩)
  dsimp only [Pt.U, Pt.locs, Pt.cells, Pt.slots] at X105 l105 y105 z105 st105 hQ105
  rw [l105, y105, z105] at X105
  obtain ⟨rfl, Nq105, Kp105, Vq105⟩ := hQ105
  have N105 := Fr.app N102 Nq105
  have nst_u102 := Vq102.nostat
  replace Z0 := nT Z0 Kp105.1
  replace E1 := E1.keep Kp105
  replace Fv := Fv.keep Kp105 (ninS ne_a1_u102 nin0)
  replace Fn := Fn.keep Kp105 (ninS ne_a1_u102 nin0)
  replace Fm := Fm.keep Kp105 (ninS ne_a1_u102 nin0)
  replace Fc := Fc.keep Kp105 (ninS ne_a1_u102 nin0)
  replace Vb := Vb.keep Kp105 (ninS ne_b_u102 nin0)
  replace SC := own_staKeep SC Kp105 (nsS nst_u102 ns0)
  replace SA := own_staKeep SA Kp105 (nsS nst_u102 ns0)
  replace SHI := own_staKeep SHI Kp105 (nsS nst_u102 ns0)
  replace SLO := own_staKeep SLO Kp105 (nsS nst_u102 ns0)
  replace SF := own_staKeep SF Kp105 (nsS nst_u102 ns0)
  replace KK := KK.trans Kp105 (allS (Or.inr sz_u102) all0)
  refine own_of (U' := (T105.setTop (mkF m 31 #[.val (.ref a1), .val (.ref u102)] []))) (st105) ?_
  replace Vq105 : Arv Z T105.heap u102 ku102 .byte (32 : Int32) (List.map Value.int (own_u16 cs)) (.int 0) := Vq105
  refine own_aloadN X105 hx hby d57_31 rfl rfl ?_
  refine own_aloadN X105 hx hby d57_32 rfl rfl ?_
  obtain ⟨T106, h106, X106, e106, W106, st106⟩ := putF X105 hx hZ hown (host := "") (Or.inl (own_w hw 72 rfl)) Via.refl rfl Fv E1 (Or.inl (own_w hw 73 rfl)) (own_w hw 59 rfl) (ty := (.array .byte)) (by decide) rfl rfl (g := (mkF m 33 #[.val (.ref a1), .val (.ref u102)] [(.ref u102), (.ref a1)])) rfl rfl (hb hby d57_33)
  replace Z0 := nT Z0 (Keep.of_wr W106).1
  replace E1 := E1.wr W106
  replace Fv := Fv.same W106
  replace Fn := Fn.other W106 (Or.inr (slot_ne (Or.inl (own_w hw 97 rfl)) (Or.inl (own_w hw 73 rfl)) (by decide) (t := .int) (t' := (.array .byte)) (by decide) (by decide)))
  replace Fm := Fm.other W106 (Or.inr (slot_ne (Or.inl (own_w hw 296 rfl)) (Or.inl (own_w hw 73 rfl)) (by decide) (t := .boolean) (t' := (.array .byte)) (by decide) (by decide)))
  replace Fc := Fc.other W106 (Or.inr (slot_ne (Or.inl (own_w hw 75 rfl)) (Or.inl (own_w hw 73 rfl)) (by decide) (t := .byte) (t' := (.array .byte)) (by decide) (by decide)))
  replace Vb := Vb.other W106 (Ne.symm neab)
  replace SC := SC.wr W106
  replace SA := SA.wr W106
  replace SHI := SHI.wr W106
  replace SLO := SLO.wr W106
  replace SF := SF.wr W106
  replace KK := KK.wr W106 (Or.inl (List.mem_of_getElem? (i := 0) rfl))
  replace Vq105 := Vq105.other W106 (Ne.symm ne_a1_u102)
  have N106 := Fr.snoc X106 N105 g_a1
  refine own_of (U' := (T106.setTop (mkF m 36 #[.val (.ref a1), .val (.ref u102)] []))) (st106) ?_
  refine own_aloadN X106 hx hby d57_36 rfl rfl ?_
  refine own_iconst X106 hx hby 1 d57_37 rfl ?_
  obtain ⟨T107, h107, X107, e107, W107, st107⟩ := putFN X106 hx hZ hown (own_w hw 74 rfl) Via.refl e106 Fc E1 (Or.inl (own_w hw 75 rfl)) (own_w hw 59 rfl) (ty := .byte) (v' := (.int 1)) (by decide) rfl (by decide) (g := (mkF m 38 #[.val (.ref a1), .val (.ref u102)] [(.int 1), (.ref a1)])) rfl rfl (hb hby d57_38)
  replace Z0 := nT Z0 (Keep.of_wr W107).1
  replace E1 := E1.wr W107
  replace Fv := Fv.other W107 (Or.inr (slot_ne (Or.inl (own_w hw 73 rfl)) (Or.inl (own_w hw 75 rfl)) (by decide) (t := (.array .byte)) (t' := .byte) (by decide) (by decide)))
  replace Fn := Fn.other W107 (Or.inr (slot_ne (Or.inl (own_w hw 97 rfl)) (Or.inl (own_w hw 75 rfl)) (by decide) (t := .int) (t' := .byte) (by decide) (by decide)))
  replace Fm := Fm.other W107 (Or.inr (slot_ne (Or.inl (own_w hw 296 rfl)) (Or.inl (own_w hw 75 rfl)) (by decide) (t := .boolean) (t' := .byte) (by decide) (by decide)))
  replace Fc := Fc.same W107
  replace Vb := Vb.other W107 (Ne.symm neab)
  replace SC := SC.wr W107
  replace SA := SA.wr W107
  replace SHI := SHI.wr W107
  replace SLO := SLO.wr W107
  replace SF := SF.wr W107
  replace KK := KK.wr W107 (Or.inl (List.mem_of_getElem? (i := 0) rfl))
  replace Vq105 := Vq105.other W107 (Ne.symm ne_a1_u102)
  have N107 := Fr.snoc X107 N106 g_a1
  refine own_of (U' := (T107.setTop (mkF m 41 #[.val (.ref a1), .val (.ref u102)] []))) (st107) ?_
  exact own_ret0 X107 hx hlk hrt (hb hby d57_41) (by decide) (by decide) (by rw [e107]; exact ⟨rfl, N107, KK, u102, ku102, sz_u102, Fv, Fn, Fm, Fc, Vq105⟩)
theorem d57_7 : decode c_29 7 = .ok (.return_, 1) := by decide +kernel
theorem ef_if1 (m : MethodId) (x0 : Addr) : entryFrame m #[(.ref x0)] 2 = mkF m 0 #[.val (.ref x0), .unset] [] := by first | (simp [entryFrame, mkF, argsToLocals, Value.category]; done) | rfl
theorem rmif1 (l : Launch) (Z : State) (a0 : Array Value) (hw : ∀ d ∈ tables_1, d.before a0 Z = true) (ws : List Jvm.Cond) (a1 : Addr) (g1 : Int32) (h0 : Heap) (n0 : Nat) (Z0 : n0 ≤ h0.size) (E1 : Exa Z h0 a1 "java/lang/StringBuilder") (Fc : Fld Z h0 a1 "java/lang/AbstractStringBuilder" "coder" "B" (.int 1)) (SC : Sta Z h0 "java/lang/String" "COMPACT_STRINGS" "Z" (.int g1)) (hg1 : ¬ (g1 = (0 : Int32))) : own_M l mN_30 jdk_68_method_11_code 2 none ws ({ frames := 1, cells := 0, slots := 0, locals := 12 } : Room) Z h0 #[(.ref a1)] (Qn h0 n0) := by
  refine own_go #[.val (.ref a1), .unset] (plainFor_of_name pn_1) (fun m => ef_if1 m a1) ?_
  intro p e s m below meth c s₁ hx hby hml hown hnm hlk X0 e0 hZ hrt
  have N0 := Fr.nil n0
  refine own_aloadN X0 hx hby d57_0 rfl rfl ?_
  obtain ⟨cq108, kq108, q108a, q108b, q108c⟩ := isOf hZ e0 E1
  obtain ⟨_, _, ⟨T108, L108, k108, n108⟩, -, X108, ⟨Lc108, hQ108, l108, y108, z108⟩, st108⟩ := X0.virtualBack hx (y := mN_3) (z := mN_3) hown (oV hZ hw 132 rfl) (oV hZ hw 133 rfl) (notFace_of_selects (args := #[]) (oV hZ hw 135 rfl)) (oV hZ hw 135 rfl) (oV hZ hw 134 rfl) (by decide) (backOf (W := 0) (rmab1 l Z a0 hw [] a1 g1 h0 n0 Z0 Fc SC hg1) hZ (own_w hw 136 rfl) (own_w hw 68 rfl) (by decide) (by decide)) q108a q108c (g := (mkF m 1 #[.val (.ref a1), .unset] [(.ref a1)])) rfl (by rw [hml]; rfl) (Steps.refl _) (argsL := []) (rest := []) (lenOf pd_13 rfl) rfl (by exact oZ rfl) (hb hby d57_1) (fun _ _ => ⟨rfl, e0, (by decide : 0 + 0 ≤ _), (by decide : 0 + 0 ≤ _)⟩)
  dsimp only [Pt.U, Pt.locs, Pt.cells, Pt.slots] at X108 l108 y108 z108 st108 hQ108
  rw [l108, y108, z108] at X108
  obtain ⟨rfl, Nq108, e108⟩ := hQ108
  have N108 := Fr.app N0 Nq108
  refine own_of (U' := (T108.setTop (mkF m 4 #[.val (.ref a1), .unset] [(.int 0)]))) (fun _ k => st108.trans k) ?_
  have hc4_109 : (0 : Int32) = (0 : Int32) := by decide
  refine own_ifNo X108 hx hby d57_4 ((if0 _ _).trans (teq hc4_109).2) ?_
  exact own_ret0 X108 hx hlk hrt (hb hby d57_7) (by decide) (by decide) (⟨rfl, N108, e108⟩)
theorem d21_0 : decode c_30 0 = .ok (.aload_n 0, 1) := by decide +kernel
theorem d21_1 : decode c_30 1 = .ok (.getfield 15, 3) := by decide +kernel
theorem d21_4 : decode c_30 4 = .ok (.arraylength, 1) := by decide +kernel
theorem d21_5 : decode c_30 5 = .ok (.aload_n 0, 1) := by decide +kernel
theorem d21_6 : decode c_30 6 = .ok (.getfield 22, 3) := by decide +kernel
theorem d21_9 : decode c_30 9 = .ok (.ishr, 1) := by decide +kernel
theorem d21_10 : decode c_30 10 = .ok (.istore_n 2, 1) := by decide +kernel
theorem d21_11 : decode c_30 11 = .ok (.iload_n 1, 1) := by decide +kernel
theorem d21_12 : decode c_30 12 = .ok (.iload_n 2, 1) := by decide +kernel
theorem d21_13 : decode c_30 13 = .ok (.isub, 1) := by decide +kernel
theorem d21_14 : decode c_30 14 = .ok (.ifCond .le 24, 3) := by decide +kernel
theorem d21_38 : decode c_30 38 = .ok (.return_, 1) := by decide +kernel
theorem ef_ec0 (m : MethodId) (x0 : Addr) (x1 : Int32) : entryFrame m #[(.ref x0), (.int x1)] 3 = mkF m 0 #[.val (.ref x0), .val (.int x1), .unset] [] := by first | (simp [entryFrame, mkF, argsToLocals, Value.category]; done) | rfl
theorem rmec0 (l : Launch) (Z : State) (a0 : Array Value) (hw : ∀ d ∈ tables_1, d.before a0 Z = true) (ws : List Jvm.Cond) (a1 : Addr) (p2 : Int32) (b : Addr) (kb : ClassId) (cs : List Int32) (h0 : Heap) (n0 : Nat) (Z0 : n0 ≤ h0.size) (Fv : Fld Z h0 a1 "java/lang/AbstractStringBuilder" "value" "[B" (.ref b)) (Fc : Fld Z h0 a1 "java/lang/AbstractStringBuilder" "coder" "B" (.int 0)) (Vb : Arv Z h0 b kb .byte (16 : Int32) (List.map Value.int (List.map own_b8 cs)) (.int 0)) (hp0 : 0 ≤ p2.toInt) (hp1 : p2.toInt ≤ 16) : own_M l mN_7 jdk_68_method_9_code 3 none ws ({ frames := 0, cells := 0, slots := 0, locals := 0 } : Room) Z h0 #[(.ref a1), (.int p2)] (Qn h0 n0) := by
  refine own_go #[.val (.ref a1), .val (.int p2), .unset] (plainFor_of_name pn_1) (fun m => ef_ec0 m a1 p2) ?_
  intro p e s m below meth c s₁ hx hby hml hown hnm hlk X0 e0 hZ hrt
  have N0 := Fr.nil n0
  refine own_aloadN X0 hx hby d21_0 rfl rfl ?_
  obtain ⟨T110, X110, e110, st110⟩ := getF X0 hx hZ hown (host := "") (Or.inl (own_w hw 72 rfl)) Via.refl e0 Fv (g := (mkF m 1 #[.val (.ref a1), .val (.int p2), .unset] [(.ref a1)])) rfl rfl (hb hby d21_1)
  refine own_of (U' := (T110.setTop (mkF m 4 #[.val (.ref a1), .val (.int p2), .unset] [(.ref b)]))) (st110) ?_
  obtain ⟨cl111, Ar111, qa111, Sa111, Na111, -, -⟩ := id Vb
  have al111 := X110.arraylength hx (by rw [e110]; exact Ar111.1) (State.isArrayOf_alike hZ.alike Ar111.2.1) (g := (mkF m 4 #[.val (.ref a1), .val (.int p2), .unset] [(.ref b)])) rfl rfl (hb hby d21_4)
  rw [len_of Sa111 Na111] at al111
  refine own_of (U' := (T110.setTop (mkF m 5 #[.val (.ref a1), .val (.int p2), .unset] [(.int 16)]))) (al111) ?_
  refine own_aloadN X110 hx hby d21_5 rfl rfl ?_
  obtain ⟨T112, X112, e112, st112⟩ := getF X110 hx hZ hown (host := "") (Or.inl (own_w hw 74 rfl)) Via.refl e110 Fc (g := (mkF m 6 #[.val (.ref a1), .val (.int p2), .unset] [(.ref a1), (.int 16)])) rfl rfl (hb hby d21_6)
  refine own_of (U' := (T112.setTop (mkF m 9 #[.val (.ref a1), .val (.int p2), .unset] [(.int 0), (.int 16)]))) (st112) ?_
  refine own_ishr X112 hx hby d21_9 ?_
  refine own_eq (U' := (T112.setTop (mkF m 10 #[.val (.ref a1), .val (.int p2), .unset] [(.int 16)]))) (by rw [show ((16 : Int32) >>> ((0 : Int32) &&& 31)) = (16 : Int32) by decide]) ?_
  refine own_istoreN X112 hx hby d21_10 (l' := #[.val (.ref a1), .val (.int p2), .val (.int 16)]) rfl ?_
  refine own_iloadN X112 hx hby d21_11 rfl ?_
  refine own_iloadN X112 hx hby d21_12 rfl ?_
  refine own_isub X112 hx hby d21_13 ?_
  have hc14_113 : ¬ ((0 : Int32) < (p2 - (16 : Int32))) := own_nog hp0 hp1
  refine own_ifYes X112 hx hby 14 38 d21_14 ((if0 _ _).trans (flt hc14_113).2.2.2) (by decide) (by decide) ?_
  exact own_ret0 X112 hx hlk hrt (hb hby d21_38) (by decide) (by decide) (⟨rfl, N0, e112⟩)
theorem ef_ec1 (m : MethodId) (x0 : Addr) (x1 : Int32) : entryFrame m #[(.ref x0), (.int x1)] 3 = mkF m 0 #[.val (.ref x0), .val (.int x1), .unset] [] := by first | (simp [entryFrame, mkF, argsToLocals, Value.category]; done) | rfl
theorem rmec1 (l : Launch) (Z : State) (a0 : Array Value) (hw : ∀ d ∈ tables_1, d.before a0 Z = true) (ws : List Jvm.Cond) (a1 : Addr) (p2 : Int32) (b : Addr) (kb : ClassId) (cs : List Int32) (h0 : Heap) (n0 : Nat) (Z0 : n0 ≤ h0.size) (Fv : Fld Z h0 a1 "java/lang/AbstractStringBuilder" "value" "[B" (.ref b)) (Fc : Fld Z h0 a1 "java/lang/AbstractStringBuilder" "coder" "B" (.int 1)) (Vb : Arv Z h0 b kb .byte (32 : Int32) (List.map Value.int (own_u16 cs)) (.int 0)) (hp0 : 0 ≤ p2.toInt) (hp1 : p2.toInt ≤ 16) : own_M l mN_7 jdk_68_method_9_code 3 none ws ({ frames := 0, cells := 0, slots := 0, locals := 0 } : Room) Z h0 #[(.ref a1), (.int p2)] (Qn h0 n0) := by
  refine own_go #[.val (.ref a1), .val (.int p2), .unset] (plainFor_of_name pn_1) (fun m => ef_ec1 m a1 p2) ?_
  intro p e s m below meth c s₁ hx hby hml hown hnm hlk X0 e0 hZ hrt
  have N0 := Fr.nil n0
  refine own_aloadN X0 hx hby d21_0 rfl rfl ?_
  obtain ⟨T114, X114, e114, st114⟩ := getF X0 hx hZ hown (host := "") (Or.inl (own_w hw 72 rfl)) Via.refl e0 Fv (g := (mkF m 1 #[.val (.ref a1), .val (.int p2), .unset] [(.ref a1)])) rfl rfl (hb hby d21_1)
  refine own_of (U' := (T114.setTop (mkF m 4 #[.val (.ref a1), .val (.int p2), .unset] [(.ref b)]))) (st114) ?_
  obtain ⟨cl115, Ar115, qa115, Sa115, Na115, -, -⟩ := id Vb
  have al115 := X114.arraylength hx (by rw [e114]; exact Ar115.1) (State.isArrayOf_alike hZ.alike Ar115.2.1) (g := (mkF m 4 #[.val (.ref a1), .val (.int p2), .unset] [(.ref b)])) rfl rfl (hb hby d21_4)
  rw [len_of Sa115 Na115] at al115
  refine own_of (U' := (T114.setTop (mkF m 5 #[.val (.ref a1), .val (.int p2), .unset] [(.int 32)]))) (al115) ?_
  refine own_aloadN X114 hx hby d21_5 rfl rfl ?_
  obtain ⟨T116, X116, e116, st116⟩ := getF X114 hx hZ hown (host := "") (Or.inl (own_w hw 74 rfl)) Via.refl e114 Fc (g := (mkF m 6 #[.val (.ref a1), .val (.int p2), .unset] [(.ref a1), (.int 32)])) rfl rfl (hb hby d21_6)
  refine own_of (U' := (T116.setTop (mkF m 9 #[.val (.ref a1), .val (.int p2), .unset] [(.int 1), (.int 32)]))) (st116) ?_
  refine own_ishr X116 hx hby d21_9 ?_
  refine own_eq (U' := (T116.setTop (mkF m 10 #[.val (.ref a1), .val (.int p2), .unset] [(.int 16)]))) (by rw [show ((32 : Int32) >>> ((1 : Int32) &&& 31)) = (16 : Int32) by decide]) ?_
  refine own_istoreN X116 hx hby d21_10 (l' := #[.val (.ref a1), .val (.int p2), .val (.int 16)]) rfl ?_
  refine own_iloadN X116 hx hby d21_11 rfl ?_
  refine own_iloadN X116 hx hby d21_12 rfl ?_
  refine own_isub X116 hx hby d21_13 ?_
  have hc14_117 : ¬ ((0 : Int32) < (p2 - (16 : Int32))) := own_nog hp0 hp1
  refine own_ifYes X116 hx hby 14 38 d21_14 ((if0 _ _).trans (flt hc14_117).2.2.2) (by decide) (by decide) ?_
  exact own_ret0 X116 hx hlk hrt (hb hby d21_38) (by decide) (by decide) (⟨rfl, N0, e116⟩)
theorem rmec (l : Launch) (Z : State) (a0 : Array Value) (hw : ∀ d ∈ tables_1, d.before a0 Z = true) (ws : List Jvm.Cond) (a1 : Addr) (p2 : Int32) (b : Addr) (cs : List Int32) (h0 : Heap) (n0 : Nat) (Z0 : n0 ≤ h0.size) (Fv : Fld Z h0 a1 "java/lang/AbstractStringBuilder" "value" "[B" (.ref b)) (C1 : own_C Z h0 a1 b cs) (hp0 : 0 ≤ p2.toInt) (hp1 : p2.toInt ≤ 16) : own_M l mN_7 jdk_68_method_9_code 3 none ws ({ frames := 0, cells := 0, slots := 0, locals := 0 } : Room) Z h0 #[(.ref a1), (.int p2)] (Qn h0 n0) := by
  obtain ⟨kb, ⟨lt, Fc, Vb⟩ | ⟨lt, Fc, Vb⟩⟩ := C1
  · exact rmec0 l Z a0 hw ws a1 p2 b kb cs h0 n0 Z0 Fv Fc Vb hp0 hp1
  · exact rmec1 l Z a0 hw ws a1 p2 b kb cs h0 n0 Z0 Fv Fc Vb hp0 hp1
abbrev mN_31 : MethodName := ⟨"java/lang/AbstractStringBuilder", "inflateIfNeededFor", "(Ljava/lang/String;)V"⟩
theorem d23_0 : decode c_31 0 = .ok (.getstatic 18, 3) := by decide +kernel
theorem d23_3 : decode c_31 3 = .ok (.ifCond .eq 18, 3) := by decide +kernel
theorem d23_6 : decode c_31 6 = .ok (.aload_n 0, 1) := by decide +kernel
theorem d23_7 : decode c_31 7 = .ok (.getfield 22, 3) := by decide +kernel
theorem d23_10 : decode c_31 10 = .ok (.aload_n 1, 1) := by decide +kernel
theorem d23_11 : decode c_31 11 = .ok (.invokevirtual 40, 3) := by decide +kernel
theorem d23_14 : decode c_31 14 = .ok (.if_icmp .eq 7, 3) := by decide +kernel
theorem d23_21 : decode c_31 21 = .ok (.return_, 1) := by decide +kernel
theorem ef_in00 (m : MethodId) (x0 : Addr) (x1 : Addr) : entryFrame m #[(.ref x0), (.ref x1)] 2 = mkF m 0 #[.val (.ref x0), .val (.ref x1)] [] := by first | (simp [entryFrame, mkF, argsToLocals, Value.category]; done) | rfl
theorem rmin00 (l : Launch) (Z : State) (a0 : Array Value) (hw : ∀ d ∈ tables_1, d.before a0 Z = true) (ws : List Jvm.Cond) (a1 : Addr) (a2 : Addr) (g1 : Int32) (bu : Addr) (ku : ClassId) (zu : Int32) (us : List Int32) (h0 : Heap) (n0 : Nat) (Z0 : n0 ≤ h0.size) (E1 : Exa Z h0 a1 "java/lang/StringBuilder") (Fc : Fld Z h0 a1 "java/lang/AbstractStringBuilder" "coder" "B" (.int 0)) (E2 : Exa Z h0 a2 "java/lang/String") (Gc : Fld Z h0 a2 "java/lang/String" "coder" "B" (.int 0)) (Gv : Fld Z h0 a2 "java/lang/String" "value" "[B" (.ref bu)) (Vu : Arv Z h0 bu ku .byte zu (List.map Value.int (List.map own_b8 us)) (.int 0)) (hu : zu.toInt = us.length) (SC : Sta Z h0 "java/lang/String" "COMPACT_STRINGS" "Z" (.int g1)) (hg1 : ¬ (g1 = (0 : Int32))) : own_M l mN_31 jdk_68_method_71_code 2 none ws ({ frames := 1, cells := 0, slots := 0, locals := 13 } : Room) Z h0 #[(.ref a1), (.ref a2)] (Qn h0 n0) := by
  refine own_go #[.val (.ref a1), .val (.ref a2)] (plainFor_of_name pn_1) (fun m => ef_in00 m a1 a2) ?_
  intro p e s m below meth c s₁ hx hby hml hown hnm hlk X0 e0 hZ hrt
  have N0 := Fr.nil n0
  obtain ⟨T118, X118, e118, st118⟩ := getS2 X0 hx hZ hown (host := "") (Or.inl (own_w hw 71 rfl)) Via.refl e0 SC (g := (mkF m 0 #[.val (.ref a1), .val (.ref a2)] [])) rfl (hb hby d23_0)
  refine own_of (U' := (T118.setTop (mkF m 3 #[.val (.ref a1), .val (.ref a2)] [(.int g1)]))) (st118) ?_
  have hc3_119 : ¬ (g1 = (0 : Int32)) := hg1
  refine own_ifNo X118 hx hby d23_3 ((if0 _ _).trans (feq hc3_119).1) ?_
  refine own_aloadN X118 hx hby d23_6 rfl rfl ?_
  obtain ⟨T120, X120, e120, st120⟩ := getF X118 hx hZ hown (host := "") (Or.inl (own_w hw 74 rfl)) Via.refl e118 Fc (g := (mkF m 7 #[.val (.ref a1), .val (.ref a2)] [(.ref a1)])) rfl rfl (hb hby d23_7)
  refine own_of (U' := (T120.setTop (mkF m 10 #[.val (.ref a1), .val (.ref a2)] [(.int 0)]))) (st120) ?_
  refine own_aloadN X120 hx hby d23_10 rfl rfl ?_
  obtain ⟨cq121, kq121, q121a, q121b, q121c⟩ := isOf hZ e120 E2
  obtain ⟨_, _, ⟨T121, L121, k121, n121⟩, -, X121, ⟨Lc121, hQ121, l121, y121, z121⟩, st121⟩ := X120.virtualBack hx (y := mN_0) (z := mN_0) hown (oV hZ hw 113 rfl) (oV hZ hw 92 rfl) (notFace_of_selects (args := #[]) (oV hZ hw 94 rfl)) (oV hZ hw 94 rfl) (oV hZ hw 93 rfl) (by decide) (backOf (W := 1) (rmcoL l Z a0 hw [] a2 g1 h0 n0 Z0 Gc SC hg1) hZ (own_w hw 95 rfl) (own_w hw 12 rfl) (by decide) (by decide)) q121a q121c (g := (mkF m 11 #[.val (.ref a1), .val (.ref a2)] [(.ref a2), (.int 0)])) rfl (by rw [hml]; rfl) (Steps.refl _) (argsL := []) (rest := [(.int 0)]) (lenOf pd_0 rfl) rfl (by exact oZ rfl) (hb hby d23_11) (fun _ _ => ⟨rfl, e120, (by decide : 0 + 0 ≤ _), (by decide : 0 + 0 ≤ _)⟩)
  dsimp only [Pt.U, Pt.locs, Pt.cells, Pt.slots] at X121 l121 y121 z121 st121 hQ121
  rw [l121, y121, z121] at X121
  obtain ⟨rfl, Nq121, e121⟩ := hQ121
  have N121 := Fr.app N0 Nq121
  refine own_of (U' := (T121.setTop (mkF m 14 #[.val (.ref a1), .val (.ref a2)] [(.int 0), (.int 0)]))) (fun _ k => st121.trans k) ?_
  have hc14_122 : (0 : Int32) = (0 : Int32) := by decide
  refine own_icmpYes X121 hx hby 14 21 d23_14 (teq hc14_122).1 (by decide) (by decide) ?_
  exact own_ret0 X121 hx hlk hrt (hb hby d23_21) (by decide) (by decide) (⟨rfl, N121, e121⟩)
theorem pd_15 : parseMethodDescriptor "()V" = some ⟨[], none⟩ := by decide +kernel
theorem d23_17 : decode c_31 17 = .ok (.aload_n 0, 1) := by decide +kernel
theorem d23_18 : decode c_31 18 = .ok (.invokevirtual 195, 3) := by decide +kernel
theorem ef_in01 (m : MethodId) (x0 : Addr) (x1 : Addr) : entryFrame m #[(.ref x0), (.ref x1)] 2 = mkF m 0 #[.val (.ref x0), .val (.ref x1)] [] := by first | (simp [entryFrame, mkF, argsToLocals, Value.category]; done) | rfl
theorem rmin01 (l : Launch) (Z : State) (a0 : Array Value) (hw : ∀ d ∈ tables_1, d.before a0 Z = true) (ws : List Jvm.Cond) (a1 b : Addr) (kb : ClassId) (n : Int32) (cs : List Int32) (a2 : Addr) (g1 : Int32) (bu : Addr) (ku : ClassId) (zu : Int32) (us : List Int32) (rS : Value) (h0 : Heap) (n0 : Nat) (Z0 : n0 ≤ h0.size) (E1 : Exa Z h0 a1 "java/lang/StringBuilder") (Fv : Fld Z h0 a1 "java/lang/AbstractStringBuilder" "value" "[B" (.ref b)) (Fn : Fld Z h0 a1 "java/lang/AbstractStringBuilder" "count" "I" (.int n)) (Fm : Fld Z h0 a1 "java/lang/AbstractStringBuilder" "maybeLatin1" "Z" (.int 0)) (Fc : Fld Z h0 a1 "java/lang/AbstractStringBuilder" "coder" "B" (.int 0)) (Vb : Arv Z h0 b kb .byte (16 : Int32) (List.map Value.int (List.map own_b8 cs)) (.int 0)) (E2 : Exa Z h0 a2 "java/lang/String") (Gc : Fld Z h0 a2 "java/lang/String" "coder" "B" (.int 1)) (Gv : Fld Z h0 a2 "java/lang/String" "value" "[B" (.ref bu)) (Vu : Arv Z h0 bu ku .byte zu (List.map Value.int (own_u16 us)) (.int 0)) (hu : zu.toInt = 2 * (us.length : Int))  (hn : n.toInt = cs.length) (hl : cs.length ≤ 16) (hcs : own_chs cs) (hlat : own_lat cs) (g_a1 : n0 ≤ a1) (neab : a1 ≠ b) (n12 : a1 ≠ a2) (n1u : a1 ≠ bu) (ne2 : a2 ≠ b) (neu : bu ≠ b) (SC : Sta Z h0 "java/lang/String" "COMPACT_STRINGS" "Z" (.int g1)) (hg1 : ¬ (g1 = (0 : Int32))) (SA : Sta Z h0 "java/lang/StringUTF16" "$assertionsDisabled" "Z" (.int 1)) (SHI : Sta Z h0 "java/lang/StringUTF16" "HI_BYTE_SHIFT" "I" (.int 0)) (SLO : Sta Z h0 "java/lang/StringUTF16" "LO_BYTE_SHIFT" "I" (.int 8)) (SF : Sta Z h0 "jdk/internal/util/Preconditions" "SIOOBE_FORMATTER" "Ljava/util/function/BiFunction;" rS) (hrS : rS.isRef = true) : own_M l mN_31 jdk_68_method_71_code 2 none ws ({ frames := 6, cells := 1, slots := 32, locals := 89 } : Room) Z h0 #[(.ref a1), (.ref a2)] (Qif Z a1 n cs h0 n0) := by
  refine own_go #[.val (.ref a1), .val (.ref a2)] (plainFor_of_name pn_1) (fun m => ef_in01 m a1 a2) ?_
  intro p e s m below meth c s₁ hx hby hml hown hnm hlk X0 e0 hZ hrt
  have N0 := Fr.nil n0
  have KK := Keep.refl h0 [a1]
  obtain ⟨T123, X123, e123, st123⟩ := getS2 X0 hx hZ hown (host := "") (Or.inl (own_w hw 71 rfl)) Via.refl e0 SC (g := (mkF m 0 #[.val (.ref a1), .val (.ref a2)] [])) rfl (hb hby d23_0)
  refine own_of (U' := (T123.setTop (mkF m 3 #[.val (.ref a1), .val (.ref a2)] [(.int g1)]))) (st123) ?_
  have hc3_124 : ¬ (g1 = (0 : Int32)) := hg1
  refine own_ifNo X123 hx hby d23_3 ((if0 _ _).trans (feq hc3_124).1) ?_
  refine own_aloadN X123 hx hby d23_6 rfl rfl ?_
  obtain ⟨T125, X125, e125, st125⟩ := getF X123 hx hZ hown (host := "") (Or.inl (own_w hw 74 rfl)) Via.refl e123 Fc (g := (mkF m 7 #[.val (.ref a1), .val (.ref a2)] [(.ref a1)])) rfl rfl (hb hby d23_7)
  refine own_of (U' := (T125.setTop (mkF m 10 #[.val (.ref a1), .val (.ref a2)] [(.int 0)]))) (st125) ?_
  refine own_aloadN X125 hx hby d23_10 rfl rfl ?_
  obtain ⟨cq126, kq126, q126a, q126b, q126c⟩ := isOf hZ e125 E2
  obtain ⟨_, _, ⟨T126, L126, k126, n126⟩, -, X126, ⟨Lc126, hQ126, l126, y126, z126⟩, st126⟩ := X125.virtualBack hx (y := mN_0) (z := mN_0) hown (oV hZ hw 113 rfl) (oV hZ hw 92 rfl) (notFace_of_selects (args := #[]) (oV hZ hw 94 rfl)) (oV hZ hw 94 rfl) (oV hZ hw 93 rfl) (by decide) (backOf (W := 1) (rmcoU l Z a0 hw [] a2 g1 h0 n0 Z0 Gc SC hg1) hZ (own_w hw 95 rfl) (own_w hw 12 rfl) (by decide) (by decide)) q126a q126c (g := (mkF m 11 #[.val (.ref a1), .val (.ref a2)] [(.ref a2), (.int 0)])) rfl (by rw [hml]; rfl) (Steps.refl _) (argsL := []) (rest := [(.int 0)]) (lenOf pd_0 rfl) rfl (by exact oZ rfl) (hb hby d23_11) (fun _ _ => ⟨rfl, e125, (by decide : 0 + 0 ≤ _), (by decide : 0 + 0 ≤ _)⟩)
  dsimp only [Pt.U, Pt.locs, Pt.cells, Pt.slots] at X126 l126 y126 z126 st126 hQ126
  rw [l126, y126, z126] at X126
  obtain ⟨rfl, Nq126, e126⟩ := hQ126
  have N126 := Fr.app N0 Nq126
  refine own_of (U' := (T126.setTop (mkF m 14 #[.val (.ref a1), .val (.ref a2)] [(.int 1), (.int 0)]))) (fun _ k => st126.trans k) ?_
  have hc14_127 : ¬ ((0 : Int32) = (1 : Int32)) := by decide
  refine own_icmpNo X126 hx hby d23_14 (feq hc14_127).1 ?_
  refine own_aloadN X126 hx hby d23_17 rfl rfl ?_
  obtain ⟨cq128, q128, q128'⟩ := E1.cell
  obtain ⟨_, _, ⟨T128, L128, k128, n128⟩, -, X128, ⟨Lc128, hQ128, l128, y128, z128⟩, st128⟩ := X126.privateBack hx (y := mN_30) hown (oV hZ hw 258 rfl) (oV hZ hw 259 rfl) (mvT hZ (own_selQ (y := mN_30) (own_w hw 261 rfl) (own_w hw 260 rfl) (own_w hw 259 rfl) (by decide))) (Cond.privateMethod_at (mvP hZ (own_w hw 260 rfl) (args := #[]))) (oV hZ hw 262 rfl) (by decide) (backOf (W := 0) (rmif0 l Z a0 hw [] a1 b kb n cs g1 rS h0 n0 Z0 E1 Fv Fn Fm Fc Vb hn hl hlat hcs g_a1 neab SC hg1 SA SHI SLO SF hrS) hZ (own_w hw 262 rfl) (own_w hw 68 rfl) (by decide) (by decide)) (g := (mkF m 18 #[.val (.ref a1), .val (.ref a2)] [(.ref a1)])) rfl (by rw [hml]; rfl) (Steps.refl _) (a := a1) (by rw [e126]; exact q128) q128' (argsL := []) (rest := []) (lenOf pd_15 rfl) rfl (by exact oZ rfl) (hb hby d23_18) (fun _ _ => ⟨rfl, e126, (by decide : 0 + 1 ≤ _), (by decide : 0 + 32 ≤ _)⟩)
  dsimp only [Pt.U, Pt.locs, Pt.cells, Pt.slots] at X128 l128 y128 z128 st128 hQ128
  rw [l128, y128, z128] at X128
  obtain ⟨rfl, Nq128, Kp128, u128, ku128, gq128, Fv128, Fn128, Fm128, Fc128, Vq128⟩ := hQ128
  have g_u128 : n0 ≤ u128 := nT Z0 gq128
  have sz_u128 : h0.size ≤ u128 := nT KK.1 gq128
  have ne_a1_u128 : a1 ≠ u128 := nL E1.lt gq128
  have ne_b_u128 : b ≠ u128 := nL Vb.lt gq128
  have ne_a2_u128 : a2 ≠ u128 := nL E2.lt gq128
  have ne_bu_u128 : bu ≠ u128 := nL Vu.lt gq128
  have N128 := Fr.app N126 Nq128
  have nst_a1 := E1.nostat
  replace Z0 := nT Z0 Kp128.1
  replace E1 := E1.keep Kp128
  replace Vb := Vb.keep Kp128 (ninS (Ne.symm neab) nin0)
  replace E2 := E2.keep Kp128
  replace Gc := Gc.keep Kp128 (ninS (Ne.symm n12) nin0)
  replace Gv := Gv.keep Kp128 (ninS (Ne.symm n12) nin0)
  replace Vu := Vu.keep Kp128 (ninS (Ne.symm n1u) nin0)
  replace SC := own_staKeep SC Kp128 (nsS nst_a1 ns0)
  replace SA := own_staKeep SA Kp128 (nsS nst_a1 ns0)
  replace SHI := own_staKeep SHI Kp128 (nsS nst_a1 ns0)
  replace SLO := own_staKeep SLO Kp128 (nsS nst_a1 ns0)
  replace SF := own_staKeep SF Kp128 (nsS nst_a1 ns0)
  replace KK := KK.trans Kp128 (allS (Or.inl (List.mem_of_getElem? (i := 0) rfl)) all0)
  refine own_of (U' := (T128.setTop (mkF m 21 #[.val (.ref a1), .val (.ref a2)] []))) (fun _ k => st128.trans k) ?_
  exact own_ret0 X128 hx hlk hrt (hb hby d23_21) (by decide) (by decide) (⟨rfl, N128, KK, u128, ku128, sz_u128, Fv128, Fn128, Fm128, Fc128, Vq128⟩)
theorem ef_in10 (m : MethodId) (x0 : Addr) (x1 : Addr) : entryFrame m #[(.ref x0), (.ref x1)] 2 = mkF m 0 #[.val (.ref x0), .val (.ref x1)] [] := by first | (simp [entryFrame, mkF, argsToLocals, Value.category]; done) | rfl
theorem rmin10 (l : Launch) (Z : State) (a0 : Array Value) (hw : ∀ d ∈ tables_1, d.before a0 Z = true) (ws : List Jvm.Cond) (a1 : Addr) (a2 : Addr) (g1 : Int32) (bu : Addr) (ku : ClassId) (zu : Int32) (us : List Int32) (h0 : Heap) (n0 : Nat) (Z0 : n0 ≤ h0.size) (E1 : Exa Z h0 a1 "java/lang/StringBuilder") (Fc : Fld Z h0 a1 "java/lang/AbstractStringBuilder" "coder" "B" (.int 1)) (E2 : Exa Z h0 a2 "java/lang/String") (Gc : Fld Z h0 a2 "java/lang/String" "coder" "B" (.int 0)) (Gv : Fld Z h0 a2 "java/lang/String" "value" "[B" (.ref bu)) (Vu : Arv Z h0 bu ku .byte zu (List.map Value.int (List.map own_b8 us)) (.int 0)) (hu : zu.toInt = us.length) (SC : Sta Z h0 "java/lang/String" "COMPACT_STRINGS" "Z" (.int g1)) (hg1 : ¬ (g1 = (0 : Int32))) : own_M l mN_31 jdk_68_method_71_code 2 none ws ({ frames := 2, cells := 0, slots := 0, locals := 25 } : Room) Z h0 #[(.ref a1), (.ref a2)] (Qn h0 n0) := by
  refine own_go #[.val (.ref a1), .val (.ref a2)] (plainFor_of_name pn_1) (fun m => ef_in10 m a1 a2) ?_
  intro p e s m below meth c s₁ hx hby hml hown hnm hlk X0 e0 hZ hrt
  have N0 := Fr.nil n0
  obtain ⟨T129, X129, e129, st129⟩ := getS2 X0 hx hZ hown (host := "") (Or.inl (own_w hw 71 rfl)) Via.refl e0 SC (g := (mkF m 0 #[.val (.ref a1), .val (.ref a2)] [])) rfl (hb hby d23_0)
  refine own_of (U' := (T129.setTop (mkF m 3 #[.val (.ref a1), .val (.ref a2)] [(.int g1)]))) (st129) ?_
  have hc3_130 : ¬ (g1 = (0 : Int32)) := hg1
  refine own_ifNo X129 hx hby d23_3 ((if0 _ _).trans (feq hc3_130).1) ?_
  refine own_aloadN X129 hx hby d23_6 rfl rfl ?_
  obtain ⟨T131, X131, e131, st131⟩ := getF X129 hx hZ hown (host := "") (Or.inl (own_w hw 74 rfl)) Via.refl e129 Fc (g := (mkF m 7 #[.val (.ref a1), .val (.ref a2)] [(.ref a1)])) rfl rfl (hb hby d23_7)
  refine own_of (U' := (T131.setTop (mkF m 10 #[.val (.ref a1), .val (.ref a2)] [(.int 1)]))) (st131) ?_
  refine own_aloadN X131 hx hby d23_10 rfl rfl ?_
  obtain ⟨cq132, kq132, q132a, q132b, q132c⟩ := isOf hZ e131 E2
  obtain ⟨_, _, ⟨T132, L132, k132, n132⟩, -, X132, ⟨Lc132, hQ132, l132, y132, z132⟩, st132⟩ := X131.virtualBack hx (y := mN_0) (z := mN_0) hown (oV hZ hw 113 rfl) (oV hZ hw 92 rfl) (notFace_of_selects (args := #[]) (oV hZ hw 94 rfl)) (oV hZ hw 94 rfl) (oV hZ hw 93 rfl) (by decide) (backOf (W := 1) (rmcoL l Z a0 hw [] a2 g1 h0 n0 Z0 Gc SC hg1) hZ (own_w hw 95 rfl) (own_w hw 12 rfl) (by decide) (by decide)) q132a q132c (g := (mkF m 11 #[.val (.ref a1), .val (.ref a2)] [(.ref a2), (.int 1)])) rfl (by rw [hml]; rfl) (Steps.refl _) (argsL := []) (rest := [(.int 1)]) (lenOf pd_0 rfl) rfl (by exact oZ rfl) (hb hby d23_11) (fun _ _ => ⟨rfl, e131, (by decide : 0 + 0 ≤ _), (by decide : 0 + 0 ≤ _)⟩)
  dsimp only [Pt.U, Pt.locs, Pt.cells, Pt.slots] at X132 l132 y132 z132 st132 hQ132
  rw [l132, y132, z132] at X132
  obtain ⟨rfl, Nq132, e132⟩ := hQ132
  have N132 := Fr.app N0 Nq132
  refine own_of (U' := (T132.setTop (mkF m 14 #[.val (.ref a1), .val (.ref a2)] [(.int 0), (.int 1)]))) (fun _ k => st132.trans k) ?_
  have hc14_133 : ¬ ((1 : Int32) = (0 : Int32)) := by decide
  refine own_icmpNo X132 hx hby d23_14 (feq hc14_133).1 ?_
  refine own_aloadN X132 hx hby d23_17 rfl rfl ?_
  obtain ⟨cq134, q134, q134'⟩ := E1.cell
  obtain ⟨_, _, ⟨T134, L134, k134, n134⟩, -, X134, ⟨Lc134, hQ134, l134, y134, z134⟩, st134⟩ := X132.privateBack hx (y := mN_30) hown (oV hZ hw 258 rfl) (oV hZ hw 259 rfl) (mvT hZ (own_selQ (y := mN_30) (own_w hw 261 rfl) (own_w hw 260 rfl) (own_w hw 259 rfl) (by decide))) (Cond.privateMethod_at (mvP hZ (own_w hw 260 rfl) (args := #[]))) (oV hZ hw 262 rfl) (by decide) (backOf (W := 0) (rmif1 l Z a0 hw [] a1 g1 h0 n0 Z0 E1 Fc SC hg1) hZ (own_w hw 262 rfl) (own_w hw 68 rfl) (by decide) (by decide)) (g := (mkF m 18 #[.val (.ref a1), .val (.ref a2)] [(.ref a1)])) rfl (by rw [hml]; rfl) (Steps.refl _) (a := a1) (by rw [e132]; exact q134) q134' (argsL := []) (rest := []) (lenOf pd_15 rfl) rfl (by exact oZ rfl) (hb hby d23_18) (fun _ _ => ⟨rfl, e132, (by decide : 0 + 0 ≤ _), (by decide : 0 + 0 ≤ _)⟩)
  dsimp only [Pt.U, Pt.locs, Pt.cells, Pt.slots] at X134 l134 y134 z134 st134 hQ134
  rw [l134, y134, z134] at X134
  obtain ⟨rfl, Nq134, e134⟩ := hQ134
  have N134 := Fr.app N132 Nq134
  refine own_of (U' := (T134.setTop (mkF m 21 #[.val (.ref a1), .val (.ref a2)] []))) (fun _ k => st134.trans k) ?_
  exact own_ret0 X134 hx hlk hrt (hb hby d23_21) (by decide) (by decide) (⟨rfl, N134, e134⟩)
theorem ef_in11 (m : MethodId) (x0 : Addr) (x1 : Addr) : entryFrame m #[(.ref x0), (.ref x1)] 2 = mkF m 0 #[.val (.ref x0), .val (.ref x1)] [] := by first | (simp [entryFrame, mkF, argsToLocals, Value.category]; done) | rfl
theorem rmin11 (l : Launch) (Z : State) (a0 : Array Value) (hw : ∀ d ∈ tables_1, d.before a0 Z = true) (ws : List Jvm.Cond) (a1 : Addr) (a2 : Addr) (g1 : Int32) (bu : Addr) (ku : ClassId) (zu : Int32) (us : List Int32) (h0 : Heap) (n0 : Nat) (Z0 : n0 ≤ h0.size) (E1 : Exa Z h0 a1 "java/lang/StringBuilder") (Fc : Fld Z h0 a1 "java/lang/AbstractStringBuilder" "coder" "B" (.int 1)) (E2 : Exa Z h0 a2 "java/lang/String") (Gc : Fld Z h0 a2 "java/lang/String" "coder" "B" (.int 1)) (Gv : Fld Z h0 a2 "java/lang/String" "value" "[B" (.ref bu)) (Vu : Arv Z h0 bu ku .byte zu (List.map Value.int (own_u16 us)) (.int 0)) (hu : zu.toInt = 2 * (us.length : Int)) (SC : Sta Z h0 "java/lang/String" "COMPACT_STRINGS" "Z" (.int g1)) (hg1 : ¬ (g1 = (0 : Int32))) : own_M l mN_31 jdk_68_method_71_code 2 none ws ({ frames := 1, cells := 0, slots := 0, locals := 13 } : Room) Z h0 #[(.ref a1), (.ref a2)] (Qn h0 n0) := by
  refine own_go #[.val (.ref a1), .val (.ref a2)] (plainFor_of_name pn_1) (fun m => ef_in11 m a1 a2) ?_
  intro p e s m below meth c s₁ hx hby hml hown hnm hlk X0 e0 hZ hrt
  have N0 := Fr.nil n0
  obtain ⟨T135, X135, e135, st135⟩ := getS2 X0 hx hZ hown (host := "") (Or.inl (own_w hw 71 rfl)) Via.refl e0 SC (g := (mkF m 0 #[.val (.ref a1), .val (.ref a2)] [])) rfl (hb hby d23_0)
  refine own_of (U' := (T135.setTop (mkF m 3 #[.val (.ref a1), .val (.ref a2)] [(.int g1)]))) (st135) ?_
  have hc3_136 : ¬ (g1 = (0 : Int32)) := hg1
  refine own_ifNo X135 hx hby d23_3 ((if0 _ _).trans (feq hc3_136).1) ?_
  refine own_aloadN X135 hx hby d23_6 rfl rfl ?_
  obtain ⟨T137, X137, e137, st137⟩ := getF X135 hx hZ hown (host := "") (Or.inl (own_w hw 74 rfl)) Via.refl e135 Fc (g := (mkF m 7 #[.val (.ref a1), .val (.ref a2)] [(.ref a1)])) rfl rfl (hb hby d23_7)
  refine own_of (U' := (T137.setTop (mkF m 10 #[.val (.ref a1), .val (.ref a2)] [(.int 1)]))) (st137) ?_
  refine own_aloadN X137 hx hby d23_10 rfl rfl ?_
  obtain ⟨cq138, kq138, q138a, q138b, q138c⟩ := isOf hZ e137 E2
  obtain ⟨_, _, ⟨T138, L138, k138, n138⟩, -, X138, ⟨Lc138, hQ138, l138, y138, z138⟩, st138⟩ := X137.virtualBack hx (y := mN_0) (z := mN_0) hown (oV hZ hw 113 rfl) (oV hZ hw 92 rfl) (notFace_of_selects (args := #[]) (oV hZ hw 94 rfl)) (oV hZ hw 94 rfl) (oV hZ hw 93 rfl) (by decide) (backOf (W := 1) (rmcoU l Z a0 hw [] a2 g1 h0 n0 Z0 Gc SC hg1) hZ (own_w hw 95 rfl) (own_w hw 12 rfl) (by decide) (by decide)) q138a q138c (g := (mkF m 11 #[.val (.ref a1), .val (.ref a2)] [(.ref a2), (.int 1)])) rfl (by rw [hml]; rfl) (Steps.refl _) (argsL := []) (rest := [(.int 1)]) (lenOf pd_0 rfl) rfl (by exact oZ rfl) (hb hby d23_11) (fun _ _ => ⟨rfl, e137, (by decide : 0 + 0 ≤ _), (by decide : 0 + 0 ≤ _)⟩)
  dsimp only [Pt.U, Pt.locs, Pt.cells, Pt.slots] at X138 l138 y138 z138 st138 hQ138
  rw [l138, y138, z138] at X138
  obtain ⟨rfl, Nq138, e138⟩ := hQ138
  have N138 := Fr.app N0 Nq138
  refine own_of (U' := (T138.setTop (mkF m 14 #[.val (.ref a1), .val (.ref a2)] [(.int 1), (.int 1)]))) (fun _ k => st138.trans k) ?_
  have hc14_139 : (1 : Int32) = (1 : Int32) := by decide
  refine own_icmpYes X138 hx hby 14 21 d23_14 (teq hc14_139).1 (by decide) (by decide) ?_
  exact own_ret0 X138 hx hlk hrt (hb hby d23_21) (by decide) (by decide) (⟨rfl, N138, e138⟩)
abbrev mN_32 : MethodName := ⟨"java/lang/String", "getBytes", "([BIB)V"⟩
theorem d24_0 : decode c_32 0 = .ok (.aload_n 0, 1) := by decide +kernel
theorem d24_1 : decode c_32 1 = .ok (.invokevirtual 335, 3) := by decide +kernel
theorem d24_4 : decode c_32 4 = .ok (.iload_n 3, 1) := by decide +kernel
theorem d24_5 : decode c_32 5 = .ok (.if_icmp .ne 23, 3) := by decide +kernel
theorem d24_8 : decode c_32 8 = .ok (.aload_n 0, 1) := by decide +kernel
theorem d24_9 : decode c_32 9 = .ok (.getfield 9, 3) := by decide +kernel
theorem d24_12 : decode c_32 12 = .ok (.iconst 0, 1) := by decide +kernel
theorem d24_13 : decode c_32 13 = .ok (.aload_n 1, 1) := by decide +kernel
theorem d24_14 : decode c_32 14 = .ok (.iload_n 2, 1) := by decide +kernel
theorem d24_15 : decode c_32 15 = .ok (.iload_n 3, 1) := by decide +kernel
theorem d24_16 : decode c_32 16 = .ok (.ishl, 1) := by decide +kernel
theorem d24_17 : decode c_32 17 = .ok (.aload_n 0, 1) := by decide +kernel
theorem d24_18 : decode c_32 18 = .ok (.getfield 9, 3) := by decide +kernel
theorem d24_21 : decode c_32 21 = .ok (.arraylength, 1) := by decide +kernel
theorem d24_22 : decode c_32 22 = .ok (.invokestatic 212, 3) := by decide +kernel
theorem d24_25 : decode c_32 25 = .ok (.goto 18, 3) := by decide +kernel
theorem d24_43 : decode c_32 43 = .ok (.return_, 1) := by decide +kernel
theorem ef_gb00 (m : MethodId) (x0 : Addr) (x1 : Addr) (x2 : Int32) : entryFrame m #[(.ref x0), (.ref x1), (.int x2), (.int 0)] 4 = mkF m 0 #[.val (.ref x0), .val (.ref x1), .val (.int x2), .val (.int 0)] [] := by first | (simp [entryFrame, mkF, argsToLocals, Value.category]; done) | rfl
def Qgb (Z : State) (b : Addr) (kb : ClassId) (z : Int32) (bs : List Int32) (h0 : Heap) (n0 : Nat) (v : Option Value) (h : Heap) (L : List Loc) : Prop := v = none ∧ Fr n0 L ∧ Keep h0 h [b] ∧ Arv Z h b kb .byte z (List.map Value.int bs) (.int 0)
theorem rmgb00 (l : Launch) (Z : State) (a0 : Array Value) (hw : ∀ d ∈ tables_1, d.before a0 Z = true) (ws : List Jvm.Cond) (a2 : Addr) (g1 : Int32) (bu : Addr) (ku : ClassId) (zu : Int32) (us : List Int32) (b : Addr) (kb : ClassId) (p2 : Int32) (cs : List Int32) (h0 : Heap) (n0 : Nat) (Z0 : n0 ≤ h0.size) (E2 : Exa Z h0 a2 "java/lang/String") (Gc : Fld Z h0 a2 "java/lang/String" "coder" "B" (.int 0)) (Gv : Fld Z h0 a2 "java/lang/String" "value" "[B" (.ref bu)) (Vu : Arv Z h0 bu ku .byte zu (List.map Value.int (List.map own_b8 us)) (.int 0)) (hu : zu.toInt = us.length) (SC : Sta Z h0 "java/lang/String" "COMPACT_STRINGS" "Z" (.int g1)) (hg1 : ¬ (g1 = (0 : Int32))) (Vb : Arv Z h0 b kb .byte (16 : Int32) (List.map Value.int (List.map own_b8 cs)) (.int 0)) (hp : p2.toInt = cs.length) (hm : cs.length + us.length ≤ 16) (hus : own_chs us) (g_b : n0 ≤ b) (ne2 : a2 ≠ b) (neu : bu ≠ b) : own_M l mN_32 jdk_42_method_147_code 4 none ws ({ frames := 1, cells := 0, slots := 0, locals := 18 } : Room) Z h0 #[(.ref a2), (.ref b), (.int p2), (.int 0)] (Qgb Z b kb (16 : Int32) (List.map own_b8 cs ++ List.map own_b8 us) h0 n0) := by
  refine own_go #[.val (.ref a2), .val (.ref b), .val (.int p2), .val (.int 0)] (plainFor_of_name pn_0) (fun m => ef_gb00 m a2 b p2) ?_
  intro p e s m below meth c s₁ hx hby hml hown hnm hlk X0 e0 hZ hrt
  have N0 := Fr.nil n0
  have KK := Keep.refl h0 [b]
  refine own_aloadN X0 hx hby d24_0 rfl rfl ?_
  obtain ⟨cq140, kq140, q140a, q140b, q140c⟩ := isOf hZ e0 E2
  obtain ⟨_, _, ⟨T140, L140, k140, n140⟩, -, X140, ⟨Lc140, hQ140, l140, y140, z140⟩, st140⟩ := X0.virtualBack hx (y := mN_0) (z := mN_0) hown (oV hZ hw 91 rfl) (oV hZ hw 92 rfl) (notFace_of_selects (args := #[]) (oV hZ hw 94 rfl)) (oV hZ hw 94 rfl) (oV hZ hw 93 rfl) (by decide) (backOf (W := 0) (rmcoL l Z a0 hw [] a2 g1 h0 n0 Z0 Gc SC hg1) hZ (own_w hw 95 rfl) (own_w hw 12 rfl) (by decide) (by decide)) q140a q140c (g := (mkF m 1 #[.val (.ref a2), .val (.ref b), .val (.int p2), .val (.int 0)] [(.ref a2)])) rfl (by rw [hml]; rfl) (Steps.refl _) (argsL := []) (rest := []) (lenOf pd_0 rfl) rfl (by exact oZ rfl) (hb hby d24_1) (fun _ _ => ⟨rfl, e0, (by decide : 0 + 0 ≤ _), (by decide : 0 + 0 ≤ _)⟩)
  dsimp only [Pt.U, Pt.locs, Pt.cells, Pt.slots] at X140 l140 y140 z140 st140 hQ140
  rw [l140, y140, z140] at X140
  obtain ⟨rfl, Nq140, e140⟩ := hQ140
  have N140 := Fr.app N0 Nq140
  refine own_of (U' := (T140.setTop (mkF m 4 #[.val (.ref a2), .val (.ref b), .val (.int p2), .val (.int 0)] [(.int 0)]))) (fun _ k => st140.trans k) ?_
  refine own_iloadN X140 hx hby d24_4 rfl ?_
  have hc5_141 : (0 : Int32) = (0 : Int32) := by decide
  refine own_icmpNo X140 hx hby d24_5 (teq hc5_141).2 ?_
  refine own_aloadN X140 hx hby d24_8 rfl rfl ?_
  obtain ⟨T142, X142, e142, st142⟩ := getF X140 hx hZ hown (host := "") (Or.inl (own_w hw 38 rfl)) Via.refl e140 Gv (g := (mkF m 9 #[.val (.ref a2), .val (.ref b), .val (.int p2), .val (.int 0)] [(.ref a2)])) rfl rfl (hb hby d24_9)
  refine own_of (U' := (T142.setTop (mkF m 12 #[.val (.ref a2), .val (.ref b), .val (.int p2), .val (.int 0)] [(.ref bu)]))) (st142) ?_
  refine own_iconst X142 hx hby 0 d24_12 rfl ?_
  refine own_aloadN X142 hx hby d24_13 rfl rfl ?_
  refine own_iloadN X142 hx hby d24_14 rfl ?_
  refine own_iloadN X142 hx hby d24_15 rfl ?_
  refine own_ishl X142 hx hby d24_16 ?_
  refine own_eq (U' := (T142.setTop (mkF m 17 #[.val (.ref a2), .val (.ref b), .val (.int p2), .val (.int 0)] [(.int p2), (.ref b), (.int 0), (.ref bu)]))) (by rw [show (p2 <<< ((0 : Int32) &&& 31)) = p2 from own_shl0 p2]) ?_
  refine own_aloadN X142 hx hby d24_17 rfl rfl ?_
  obtain ⟨T143, X143, e143, st143⟩ := getF X142 hx hZ hown (host := "") (Or.inl (own_w hw 38 rfl)) Via.refl e142 Gv (g := (mkF m 18 #[.val (.ref a2), .val (.ref b), .val (.int p2), .val (.int 0)] [(.ref a2), (.int p2), (.ref b), (.int 0), (.ref bu)])) rfl rfl (hb hby d24_18)
  refine own_of (U' := (T143.setTop (mkF m 21 #[.val (.ref a2), .val (.ref b), .val (.int p2), .val (.int 0)] [(.ref bu), (.int p2), (.ref b), (.int 0), (.ref bu)]))) (st143) ?_
  obtain ⟨cl144, Ar144, qa144, Sa144, Na144, -, -⟩ := id Vu
  have al144 := X143.arraylength hx (by rw [e143]; exact Ar144.1) (State.isArrayOf_alike hZ.alike Ar144.2.1) (g := (mkF m 21 #[.val (.ref a2), .val (.ref b), .val (.int p2), .val (.int 0)] [(.ref bu), (.int p2), (.ref b), (.int 0), (.ref bu)])) rfl rfl (hb hby d24_21)
  rw [len_of Sa144 Na144] at al144
  refine own_of (U' := (T143.setTop (mkF m 22 #[.val (.ref a2), .val (.ref b), .val (.int p2), .val (.int 0)] [(.int zu), (.int p2), (.ref b), (.int 0), (.ref bu)]))) (al144) ?_
  have Vp145 := Arv.pad Vb (own_padk (List.map own_b8 cs) (zu).toNatClampNeg)
  obtain ⟨T145, h145, L145, X145, e145, N145, Kp145, Vr145, st145⟩ := cpA X143 hx hZ hown (own_w hw 119 rfl) (own_w hw 122 rfl) (own_w hw 120 rfl) (own_w hw 121 rfl) e143 Vu Vp145 (Or.inl ⟨rfl, rfl⟩) (sp := (0 : Int32)) (dp := p2) (nn := zu) (by decide) (own_ge0 (by omega)) (own_ge0 (by omega)) (by rw [own_z0, Nat.zero_add]; exact Nat.le_refl _) (by rw [own_clamp hp, own_clamp hu]; exact own_leN (by rw [own_i16]; omega)) (us := _) rfl (own_cpl (List.map own_b8 cs) (by rw [List.length_map]; exact own_clamp hp)) N140 g_b (g := (mkF m 22 #[.val (.ref a2), .val (.ref b), .val (.int p2), .val (.int 0)] [(.int zu), (.int p2), (.ref b), (.int 0), (.ref bu)])) rfl (by rw [hml]; rfl) rfl (hb hby d24_22) (by decide) (W := 0) (by exact oZ rfl) (by decide)
  have nst_b := Vb.nostat
  replace Z0 := nT Z0 Kp145.1
  replace E2 := E2.keep Kp145
  replace Gc := Gc.keep Kp145 (ninS ne2 nin0)
  replace Gv := Gv.keep Kp145 (ninS ne2 nin0)
  replace Vu := Vu.keep Kp145 (ninS neu nin0)
  replace SC := own_staKeep SC Kp145 (nsS nst_b ns0)
  replace KK := KK.trans Kp145 (allS (Or.inl (List.mem_of_getElem? (i := 0) rfl)) all0)
  have Vn145 : Arv Z h145 b kb .byte (16 : Int32) (List.map Value.int ((List.map own_b8 cs) ++ (List.map own_b8 us))) (.int 0) := (by have q := Arv.pad Vr145 (own_cpI (List.map own_b8 cs) (List.map own_b8 us) rfl (by rw [List.length_map]; exact own_clamp hp)); rw [List.take_of_length_le (by rw [List.length_map, own_clamp hu]; exact Nat.le_refl _)] at q; exact q)
  refine own_of (U' := (T145.setTop (mkF m 25 #[.val (.ref a2), .val (.ref b), .val (.int p2), .val (.int 0)] []))) (st145) ?_
  refine own_goto X145 hx hby 25 43 d24_25 (by decide) (by decide) ?_
  exact own_ret0 X145 hx hlk hrt (hb hby d24_43) (by decide) (by decide) (by rw [e145]; exact ⟨rfl, N145, KK, Vn145⟩)
theorem ef_gb11 (m : MethodId) (x0 : Addr) (x1 : Addr) (x2 : Int32) : entryFrame m #[(.ref x0), (.ref x1), (.int x2), (.int 1)] 4 = mkF m 0 #[.val (.ref x0), .val (.ref x1), .val (.int x2), .val (.int 1)] [] := by first | (simp [entryFrame, mkF, argsToLocals, Value.category]; done) | rfl
theorem rmgb11 (l : Launch) (Z : State) (a0 : Array Value) (hw : ∀ d ∈ tables_1, d.before a0 Z = true) (ws : List Jvm.Cond) (a2 : Addr) (g1 : Int32) (bu : Addr) (ku : ClassId) (zu : Int32) (us : List Int32) (b : Addr) (kb : ClassId) (p2 : Int32) (cs : List Int32) (h0 : Heap) (n0 : Nat) (Z0 : n0 ≤ h0.size) (E2 : Exa Z h0 a2 "java/lang/String") (Gc : Fld Z h0 a2 "java/lang/String" "coder" "B" (.int 1)) (Gv : Fld Z h0 a2 "java/lang/String" "value" "[B" (.ref bu)) (Vu : Arv Z h0 bu ku .byte zu (List.map Value.int (own_u16 us)) (.int 0)) (hu : zu.toInt = 2 * (us.length : Int)) (SC : Sta Z h0 "java/lang/String" "COMPACT_STRINGS" "Z" (.int g1)) (hg1 : ¬ (g1 = (0 : Int32))) (Vb : Arv Z h0 b kb .byte (32 : Int32) (List.map Value.int (own_u16 cs)) (.int 0)) (hp : p2.toInt = cs.length) (hm : cs.length + us.length ≤ 16) (hus : own_chs us) (g_b : n0 ≤ b) (ne2 : a2 ≠ b) (neu : bu ≠ b) : own_M l mN_32 jdk_42_method_147_code 4 none ws ({ frames := 1, cells := 0, slots := 0, locals := 18 } : Room) Z h0 #[(.ref a2), (.ref b), (.int p2), (.int 1)] (Qgb Z b kb (32 : Int32) (own_u16 cs ++ own_u16 us) h0 n0) := by
  refine own_go #[.val (.ref a2), .val (.ref b), .val (.int p2), .val (.int 1)] (plainFor_of_name pn_0) (fun m => ef_gb11 m a2 b p2) ?_
  intro p e s m below meth c s₁ hx hby hml hown hnm hlk X0 e0 hZ hrt
  have N0 := Fr.nil n0
  have KK := Keep.refl h0 [b]
  refine own_aloadN X0 hx hby d24_0 rfl rfl ?_
  obtain ⟨cq146, kq146, q146a, q146b, q146c⟩ := isOf hZ e0 E2
  obtain ⟨_, _, ⟨T146, L146, k146, n146⟩, -, X146, ⟨Lc146, hQ146, l146, y146, z146⟩, st146⟩ := X0.virtualBack hx (y := mN_0) (z := mN_0) hown (oV hZ hw 91 rfl) (oV hZ hw 92 rfl) (notFace_of_selects (args := #[]) (oV hZ hw 94 rfl)) (oV hZ hw 94 rfl) (oV hZ hw 93 rfl) (by decide) (backOf (W := 0) (rmcoU l Z a0 hw [] a2 g1 h0 n0 Z0 Gc SC hg1) hZ (own_w hw 95 rfl) (own_w hw 12 rfl) (by decide) (by decide)) q146a q146c (g := (mkF m 1 #[.val (.ref a2), .val (.ref b), .val (.int p2), .val (.int 1)] [(.ref a2)])) rfl (by rw [hml]; rfl) (Steps.refl _) (argsL := []) (rest := []) (lenOf pd_0 rfl) rfl (by exact oZ rfl) (hb hby d24_1) (fun _ _ => ⟨rfl, e0, (by decide : 0 + 0 ≤ _), (by decide : 0 + 0 ≤ _)⟩)
  dsimp only [Pt.U, Pt.locs, Pt.cells, Pt.slots] at X146 l146 y146 z146 st146 hQ146
  rw [l146, y146, z146] at X146
  obtain ⟨rfl, Nq146, e146⟩ := hQ146
  have N146 := Fr.app N0 Nq146
  refine own_of (U' := (T146.setTop (mkF m 4 #[.val (.ref a2), .val (.ref b), .val (.int p2), .val (.int 1)] [(.int 1)]))) (fun _ k => st146.trans k) ?_
  refine own_iloadN X146 hx hby d24_4 rfl ?_
  have hc5_147 : (1 : Int32) = (1 : Int32) := by decide
  refine own_icmpNo X146 hx hby d24_5 (teq hc5_147).2 ?_
  refine own_aloadN X146 hx hby d24_8 rfl rfl ?_
  obtain ⟨T148, X148, e148, st148⟩ := getF X146 hx hZ hown (host := "") (Or.inl (own_w hw 38 rfl)) Via.refl e146 Gv (g := (mkF m 9 #[.val (.ref a2), .val (.ref b), .val (.int p2), .val (.int 1)] [(.ref a2)])) rfl rfl (hb hby d24_9)
  refine own_of (U' := (T148.setTop (mkF m 12 #[.val (.ref a2), .val (.ref b), .val (.int p2), .val (.int 1)] [(.ref bu)]))) (st148) ?_
  refine own_iconst X148 hx hby 0 d24_12 rfl ?_
  refine own_aloadN X148 hx hby d24_13 rfl rfl ?_
  refine own_iloadN X148 hx hby d24_14 rfl ?_
  refine own_iloadN X148 hx hby d24_15 rfl ?_
  refine own_ishl X148 hx hby d24_16 ?_
  refine own_aloadN X148 hx hby d24_17 rfl rfl ?_
  obtain ⟨T149, X149, e149, st149⟩ := getF X148 hx hZ hown (host := "") (Or.inl (own_w hw 38 rfl)) Via.refl e148 Gv (g := (mkF m 18 #[.val (.ref a2), .val (.ref b), .val (.int p2), .val (.int 1)] [(.ref a2), (.int (p2 <<< ((1 : Int32) &&& 31))), (.ref b), (.int 0), (.ref bu)])) rfl rfl (hb hby d24_18)
  refine own_of (U' := (T149.setTop (mkF m 21 #[.val (.ref a2), .val (.ref b), .val (.int p2), .val (.int 1)] [(.ref bu), (.int (p2 <<< ((1 : Int32) &&& 31))), (.ref b), (.int 0), (.ref bu)]))) (st149) ?_
  obtain ⟨cl150, Ar150, qa150, Sa150, Na150, -, -⟩ := id Vu
  have al150 := X149.arraylength hx (by rw [e149]; exact Ar150.1) (State.isArrayOf_alike hZ.alike Ar150.2.1) (g := (mkF m 21 #[.val (.ref a2), .val (.ref b), .val (.int p2), .val (.int 1)] [(.ref bu), (.int (p2 <<< ((1 : Int32) &&& 31))), (.ref b), (.int 0), (.ref bu)])) rfl rfl (hb hby d24_21)
  rw [len_of Sa150 Na150] at al150
  refine own_of (U' := (T149.setTop (mkF m 22 #[.val (.ref a2), .val (.ref b), .val (.int p2), .val (.int 1)] [(.int zu), (.int (p2 <<< ((1 : Int32) &&& 31))), (.ref b), (.int 0), (.ref bu)]))) (al150) ?_
  have Vp151 := Arv.pad Vb (own_padk (own_u16 cs) (zu).toNatClampNeg)
  obtain ⟨T151, h151, L151, X151, e151, N151, Kp151, Vr151, st151⟩ := cpA X149 hx hZ hown (own_w hw 119 rfl) (own_w hw 122 rfl) (own_w hw 120 rfl) (own_w hw 121 rfl) e149 Vu Vp151 (Or.inl ⟨rfl, rfl⟩) (sp := (0 : Int32)) (dp := (p2 <<< ((1 : Int32) &&& 31))) (nn := zu) (by decide) (own_ge0 (by rw [own_dbl (by omega) (by omega)]; omega)) (own_ge0 (by omega)) (by rw [own_z0, Nat.zero_add]; exact Nat.le_refl _) (by rw [own_clamp (n := 2 * cs.length) (by rw [own_dbl (by omega) (by omega), hp]; omega), own_clamp (n := 2 * us.length) (by rw [hu]; omega)]; exact own_leN (by rw [own_i32]; omega)) (us := _) rfl (own_cpl (own_u16 cs) (by rw [own_u16_len]; exact own_clamp (by rw [own_dbl (by omega) (by omega), hp]; omega))) N146 g_b (g := (mkF m 22 #[.val (.ref a2), .val (.ref b), .val (.int p2), .val (.int 1)] [(.int zu), (.int (p2 <<< ((1 : Int32) &&& 31))), (.ref b), (.int 0), (.ref bu)])) rfl (by rw [hml]; rfl) rfl (hb hby d24_22) (by decide) (W := 0) (by exact oZ rfl) (by decide)
  have nst_b := Vb.nostat
  replace Z0 := nT Z0 Kp151.1
  replace E2 := E2.keep Kp151
  replace Gc := Gc.keep Kp151 (ninS ne2 nin0)
  replace Gv := Gv.keep Kp151 (ninS ne2 nin0)
  replace Vu := Vu.keep Kp151 (ninS neu nin0)
  replace SC := own_staKeep SC Kp151 (nsS nst_b ns0)
  replace KK := KK.trans Kp151 (allS (Or.inl (List.mem_of_getElem? (i := 0) rfl)) all0)
  have Vn151 : Arv Z h151 b kb .byte (32 : Int32) (List.map Value.int ((own_u16 cs) ++ (own_u16 us))) (.int 0) := (by have q := Arv.pad Vr151 (own_cpI (own_u16 cs) (own_u16 us) rfl (by rw [own_u16_len]; exact own_clamp (by rw [own_dbl (by omega) (by omega), hp]; omega))); rw [List.take_of_length_le (by rw [own_u16_len, own_clamp (n := 2 * us.length) (by rw [hu]; omega)]; exact Nat.le_refl _)] at q; exact q)
  refine own_of (U' := (T151.setTop (mkF m 25 #[.val (.ref a2), .val (.ref b), .val (.int p2), .val (.int 1)] []))) (st151) ?_
  refine own_goto X151 hx hby 25 43 d24_25 (by decide) (by decide) ?_
  exact own_ret0 X151 hx hlk hrt (hb hby d24_43) (by decide) (by decide) (by rw [e151]; exact ⟨rfl, N151, KK, Vn151⟩)
theorem d24_28 : decode c_32 28 = .ok (.aload_n 0, 1) := by decide +kernel
theorem d24_29 : decode c_32 29 = .ok (.getfield 9, 3) := by decide +kernel
theorem d24_32 : decode c_32 32 = .ok (.iconst 0, 1) := by decide +kernel
theorem d24_33 : decode c_32 33 = .ok (.aload_n 1, 1) := by decide +kernel
theorem d24_34 : decode c_32 34 = .ok (.iload_n 2, 1) := by decide +kernel
theorem d24_35 : decode c_32 35 = .ok (.aload_n 0, 1) := by decide +kernel
theorem d24_36 : decode c_32 36 = .ok (.getfield 9, 3) := by decide +kernel
theorem d24_39 : decode c_32 39 = .ok (.arraylength, 1) := by decide +kernel
theorem d24_40 : decode c_32 40 = .ok (.invokestatic 106, 3) := by decide +kernel
theorem ef_gb01 (m : MethodId) (x0 : Addr) (x1 : Addr) (x2 : Int32) : entryFrame m #[(.ref x0), (.ref x1), (.int x2), (.int 1)] 4 = mkF m 0 #[.val (.ref x0), .val (.ref x1), .val (.int x2), .val (.int 1)] [] := by first | (simp [entryFrame, mkF, argsToLocals, Value.category]; done) | rfl
theorem rmgb01 (l : Launch) (Z : State) (a0 : Array Value) (hw : ∀ d ∈ tables_1, d.before a0 Z = true) (ws : List Jvm.Cond) (a2 : Addr) (g1 : Int32) (bu : Addr) (ku : ClassId) (zu : Int32) (us : List Int32) (b : Addr) (kb : ClassId) (p2 : Int32) (cs : List Int32) (rS : Value) (h0 : Heap) (n0 : Nat) (Z0 : n0 ≤ h0.size) (E2 : Exa Z h0 a2 "java/lang/String") (Gc : Fld Z h0 a2 "java/lang/String" "coder" "B" (.int 0)) (Gv : Fld Z h0 a2 "java/lang/String" "value" "[B" (.ref bu)) (Vu : Arv Z h0 bu ku .byte zu (List.map Value.int (List.map own_b8 us)) (.int 0)) (hu : zu.toInt = us.length) (SC : Sta Z h0 "java/lang/String" "COMPACT_STRINGS" "Z" (.int g1)) (hg1 : ¬ (g1 = (0 : Int32))) (Vb : Arv Z h0 b kb .byte (32 : Int32) (List.map Value.int (own_u16 cs)) (.int 0)) (hp : p2.toInt = cs.length) (hm : cs.length + us.length ≤ 16) (hus : own_chs us) (g_b : n0 ≤ b) (ne2 : a2 ≠ b) (neu : bu ≠ b) (hlat : own_lat us) (SA : Sta Z h0 "java/lang/StringUTF16" "$assertionsDisabled" "Z" (.int 1)) (SHI : Sta Z h0 "java/lang/StringUTF16" "HI_BYTE_SHIFT" "I" (.int 0)) (SLO : Sta Z h0 "java/lang/StringUTF16" "LO_BYTE_SHIFT" "I" (.int 8)) (SF : Sta Z h0 "jdk/internal/util/Preconditions" "SIOOBE_FORMATTER" "Ljava/util/function/BiFunction;" rS) (hrS : rS.isRef = true) : own_M l mN_32 jdk_42_method_147_code 4 none ws ({ frames := 5, cells := 0, slots := 0, locals := 76 } : Room) Z h0 #[(.ref a2), (.ref b), (.int p2), (.int 1)] (Qgb Z b kb (32 : Int32) (own_u16 (cs ++ us)) h0 n0) := by
  refine own_go #[.val (.ref a2), .val (.ref b), .val (.int p2), .val (.int 1)] (plainFor_of_name pn_0) (fun m => ef_gb01 m a2 b p2) ?_
  intro p e s m below meth c s₁ hx hby hml hown hnm hlk X0 e0 hZ hrt
  have N0 := Fr.nil n0
  have KK := Keep.refl h0 [b]
  refine own_aloadN X0 hx hby d24_0 rfl rfl ?_
  obtain ⟨cq152, kq152, q152a, q152b, q152c⟩ := isOf hZ e0 E2
  obtain ⟨_, _, ⟨T152, L152, k152, n152⟩, -, X152, ⟨Lc152, hQ152, l152, y152, z152⟩, st152⟩ := X0.virtualBack hx (y := mN_0) (z := mN_0) hown (oV hZ hw 91 rfl) (oV hZ hw 92 rfl) (notFace_of_selects (args := #[]) (oV hZ hw 94 rfl)) (oV hZ hw 94 rfl) (oV hZ hw 93 rfl) (by decide) (backOf (W := 0) (rmcoL l Z a0 hw [] a2 g1 h0 n0 Z0 Gc SC hg1) hZ (own_w hw 95 rfl) (own_w hw 12 rfl) (by decide) (by decide)) q152a q152c (g := (mkF m 1 #[.val (.ref a2), .val (.ref b), .val (.int p2), .val (.int 1)] [(.ref a2)])) rfl (by rw [hml]; rfl) (Steps.refl _) (argsL := []) (rest := []) (lenOf pd_0 rfl) rfl (by exact oZ rfl) (hb hby d24_1) (fun _ _ => ⟨rfl, e0, (by decide : 0 + 0 ≤ _), (by decide : 0 + 0 ≤ _)⟩)
  dsimp only [Pt.U, Pt.locs, Pt.cells, Pt.slots] at X152 l152 y152 z152 st152 hQ152
  rw [l152, y152, z152] at X152
  obtain ⟨rfl, Nq152, e152⟩ := hQ152
  have N152 := Fr.app N0 Nq152
  refine own_of (U' := (T152.setTop (mkF m 4 #[.val (.ref a2), .val (.ref b), .val (.int p2), .val (.int 1)] [(.int 0)]))) (fun _ k => st152.trans k) ?_
  refine own_iloadN X152 hx hby d24_4 rfl ?_
  have hc5_153 : ¬ ((0 : Int32) = (1 : Int32)) := by decide
  refine own_icmpYes X152 hx hby 5 28 d24_5 (feq hc5_153).2 (by decide) (by decide) ?_
  refine own_aloadN X152 hx hby d24_28 rfl rfl ?_
  obtain ⟨T154, X154, e154, st154⟩ := getF X152 hx hZ hown (host := "") (Or.inl (own_w hw 38 rfl)) Via.refl e152 Gv (g := (mkF m 29 #[.val (.ref a2), .val (.ref b), .val (.int p2), .val (.int 1)] [(.ref a2)])) rfl rfl (hb hby d24_29)
  refine own_of (U' := (T154.setTop (mkF m 32 #[.val (.ref a2), .val (.ref b), .val (.int p2), .val (.int 1)] [(.ref bu)]))) (st154) ?_
  refine own_iconst X154 hx hby 0 d24_32 rfl ?_
  refine own_aloadN X154 hx hby d24_33 rfl rfl ?_
  refine own_iloadN X154 hx hby d24_34 rfl ?_
  refine own_aloadN X154 hx hby d24_35 rfl rfl ?_
  obtain ⟨T155, X155, e155, st155⟩ := getF X154 hx hZ hown (host := "") (Or.inl (own_w hw 38 rfl)) Via.refl e154 Gv (g := (mkF m 36 #[.val (.ref a2), .val (.ref b), .val (.int p2), .val (.int 1)] [(.ref a2), (.int p2), (.ref b), (.int 0), (.ref bu)])) rfl rfl (hb hby d24_36)
  refine own_of (U' := (T155.setTop (mkF m 39 #[.val (.ref a2), .val (.ref b), .val (.int p2), .val (.int 1)] [(.ref bu), (.int p2), (.ref b), (.int 0), (.ref bu)]))) (st155) ?_
  obtain ⟨cl156, Ar156, qa156, Sa156, Na156, -, -⟩ := id Vu
  have al156 := X155.arraylength hx (by rw [e155]; exact Ar156.1) (State.isArrayOf_alike hZ.alike Ar156.2.1) (g := (mkF m 39 #[.val (.ref a2), .val (.ref b), .val (.int p2), .val (.int 1)] [(.ref bu), (.int p2), (.ref b), (.int 0), (.ref bu)])) rfl rfl (hb hby d24_39)
  rw [len_of Sa156 Na156] at al156
  refine own_of (U' := (T155.setTop (mkF m 40 #[.val (.ref a2), .val (.ref b), .val (.int p2), .val (.int 1)] [(.int zu), (.int p2), (.ref b), (.int 0), (.ref bu)]))) (al156) ?_
  obtain ⟨_, _, ⟨T157, L157, k157, n157⟩, -, X157, ⟨Lc157, hQ157, l157, y157, z157⟩, st157⟩ := Jvm.LawKit.callS X155 hx (y := mN_29) hown (oV hZ hw 294 rfl) (oV hZ hw 265 rfl) (oV hZ hw 45 rfl) (oV hZ hw 266 rfl) (by decide) (backOf (W := 0) (rmli l Z a0 hw [] bu b p2 zu ku kb zu (32 : Int32) us cs rS h0 n0 Z0 Vu Vb hp hu (by omega) (by rw [own_i32]; omega) (by omega) hlat hus g_b neu SA SHI SLO SF hrS) hZ (own_w hw 266 rfl) (own_w hw 45 rfl) (by decide) (by decide)) (g := (mkF m 40 #[.val (.ref a2), .val (.ref b), .val (.int p2), .val (.int 1)] [(.int zu), (.int p2), (.ref b), (.int 0), (.ref bu)])) rfl (by rw [hml]; rfl) (argsL := [(.ref bu), (.int 0), (.ref b), (.int p2), (.int zu)]) (rest := []) (lenOf pd_12 rfl) rfl (by exact oZ rfl) (hb hby d24_40) (fun _ _ => ⟨rfl, e155, (by decide : 0 + 0 ≤ _), (by decide : 0 + 0 ≤ _)⟩)
  dsimp only [Pt.U, Pt.locs, Pt.cells, Pt.slots] at X157 l157 y157 z157 st157 hQ157
  rw [l157, y157, z157] at X157
  obtain ⟨rfl, Nq157, Kp157, Vq157⟩ := hQ157
  have N157 := Fr.app N152 Nq157
  have nst_b := Vb.nostat
  replace Z0 := nT Z0 Kp157.1
  replace E2 := E2.keep Kp157
  replace Gc := Gc.keep Kp157 (ninS ne2 nin0)
  replace Gv := Gv.keep Kp157 (ninS ne2 nin0)
  replace Vu := Vu.keep Kp157 (ninS neu nin0)
  replace SC := own_staKeep SC Kp157 (nsS nst_b ns0)
  replace SA := own_staKeep SA Kp157 (nsS nst_b ns0)
  replace SHI := own_staKeep SHI Kp157 (nsS nst_b ns0)
  replace SLO := own_staKeep SLO Kp157 (nsS nst_b ns0)
  replace SF := own_staKeep SF Kp157 (nsS nst_b ns0)
  replace KK := KK.trans Kp157 (allS (Or.inl (List.mem_of_getElem? (i := 0) rfl)) all0)
  refine own_of (U' := (T157.setTop (mkF m 43 #[.val (.ref a2), .val (.ref b), .val (.int p2), .val (.int 1)] []))) (st157) ?_
  exact own_ret0 X157 hx hlk hrt (hb hby d24_43) (by decide) (by decide) (⟨rfl, N157, KK, Vq157⟩)
def Qps (Z : State) (a1 b : Addr) (n : Int32) (cs : List Int32) (h0 : Heap) (n0 : Nat) (v : Option Value) (h : Heap) (L : List Loc) : Prop := v = none ∧ Fr n0 L ∧ Keep h0 h [a1, b] ∧ ∃ b' : Addr, (b = b' ∨ h0.size ≤ b') ∧ Fld Z h a1 "java/lang/AbstractStringBuilder" "value" "[B" (.ref b') ∧ Fld Z h a1 "java/lang/AbstractStringBuilder" "count" "I" (.int n) ∧ Fld Z h a1 "java/lang/AbstractStringBuilder" "maybeLatin1" "Z" (.int 0) ∧ own_C Z h a1 b' cs
abbrev mN_33 : MethodName := ⟨"java/lang/AbstractStringBuilder", "putStringAt", "(ILjava/lang/String;)V"⟩
theorem pd_16 : parseMethodDescriptor "(Ljava/lang/String;)V" = some ⟨[(.object "java/lang/String")], none⟩ := by decide +kernel
theorem pd_17 : parseMethodDescriptor "([BIB)V" = some ⟨[(.array .byte), .int, .byte], none⟩ := by decide +kernel
theorem d22_0 : decode c_33 0 = .ok (.aload_n 0, 1) := by decide +kernel
theorem d22_1 : decode c_33 1 = .ok (.aload_n 2, 1) := by decide +kernel
theorem d22_2 : decode c_33 2 = .ok (.invokevirtual 397, 3) := by decide +kernel
theorem d22_5 : decode c_33 5 = .ok (.aload_n 2, 1) := by decide +kernel
theorem d22_6 : decode c_33 6 = .ok (.aload_n 0, 1) := by decide +kernel
theorem d22_7 : decode c_33 7 = .ok (.getfield 15, 3) := by decide +kernel
theorem d22_10 : decode c_33 10 = .ok (.iload_n 1, 1) := by decide +kernel
theorem d22_11 : decode c_33 11 = .ok (.aload_n 0, 1) := by decide +kernel
theorem d22_12 : decode c_33 12 = .ok (.getfield 22, 3) := by decide +kernel
theorem d22_15 : decode c_33 15 = .ok (.invokevirtual 399, 3) := by decide +kernel
theorem d22_18 : decode c_33 18 = .ok (.return_, 1) := by decide +kernel
theorem ef_ps00 (m : MethodId) (x0 : Addr) (x1 : Int32) (x2 : Addr) : entryFrame m #[(.ref x0), (.int x1), (.ref x2)] 3 = mkF m 0 #[.val (.ref x0), .val (.int x1), .val (.ref x2)] [] := by first | (simp [entryFrame, mkF, argsToLocals, Value.category]; done) | rfl
theorem rmps00 (l : Launch) (Z : State) (a0 : Array Value) (hw : ∀ d ∈ tables_1, d.before a0 Z = true) (ws : List Jvm.Cond) (a1 b : Addr) (kb : ClassId) (n : Int32) (cs : List Int32) (a2 : Addr) (g1 : Int32) (bu : Addr) (ku : ClassId) (zu : Int32) (us : List Int32) (rS : Value) (h0 : Heap) (n0 : Nat) (Z0 : n0 ≤ h0.size) (E1 : Exa Z h0 a1 "java/lang/StringBuilder") (Fv : Fld Z h0 a1 "java/lang/AbstractStringBuilder" "value" "[B" (.ref b)) (Fn : Fld Z h0 a1 "java/lang/AbstractStringBuilder" "count" "I" (.int n)) (Fm : Fld Z h0 a1 "java/lang/AbstractStringBuilder" "maybeLatin1" "Z" (.int 0)) (Fc : Fld Z h0 a1 "java/lang/AbstractStringBuilder" "coder" "B" (.int 0)) (Vb : Arv Z h0 b kb .byte (16 : Int32) (List.map Value.int (List.map own_b8 cs)) (.int 0)) (E2 : Exa Z h0 a2 "java/lang/String") (Gc : Fld Z h0 a2 "java/lang/String" "coder" "B" (.int 0)) (Gv : Fld Z h0 a2 "java/lang/String" "value" "[B" (.ref bu)) (Vu : Arv Z h0 bu ku .byte zu (List.map Value.int (List.map own_b8 us)) (.int 0)) (hu : zu.toInt = us.length)  (hn : n.toInt = cs.length) (hl : cs.length ≤ 16) (hcs : own_chs cs) (hm : cs.length + us.length ≤ 16) (hus : own_chs us) (hlb : own_lat cs) (hlu : own_lat us) (g_a1 : n0 ≤ a1) (g_b : n0 ≤ b) (neab : a1 ≠ b) (n12 : a1 ≠ a2) (n1u : a1 ≠ bu) (ne2 : a2 ≠ b) (neu : bu ≠ b) (SC : Sta Z h0 "java/lang/String" "COMPACT_STRINGS" "Z" (.int g1)) (hg1 : ¬ (g1 = (0 : Int32))) (SA : Sta Z h0 "java/lang/StringUTF16" "$assertionsDisabled" "Z" (.int 1)) (SHI : Sta Z h0 "java/lang/StringUTF16" "HI_BYTE_SHIFT" "I" (.int 0)) (SLO : Sta Z h0 "java/lang/StringUTF16" "LO_BYTE_SHIFT" "I" (.int 8)) (SF : Sta Z h0 "jdk/internal/util/Preconditions" "SIOOBE_FORMATTER" "Ljava/util/function/BiFunction;" rS) (hrS : rS.isRef = true) : own_M l mN_33 jdk_68_method_73_code 3 none ws ({ frames := 7, cells := 1, slots := 32, locals := 102 } : Room) Z h0 #[(.ref a1), (.int n), (.ref a2)] (Qps Z a1 b n (cs ++ us) h0 n0) := by
  refine own_go #[.val (.ref a1), .val (.int n), .val (.ref a2)] (plainFor_of_name pn_1) (fun m => ef_ps00 m a1 n a2) ?_
  intro p e s m below meth c s₁ hx hby hml hown hnm hlk X0 e0 hZ hrt
  have N0 := Fr.nil n0
  have KK := Keep.refl h0 [a1, b]
  refine own_aloadN X0 hx hby d22_0 rfl rfl ?_
  refine own_aloadN X0 hx hby d22_1 rfl rfl ?_
  obtain ⟨cq158, q158, q158'⟩ := E1.cell
  obtain ⟨_, _, ⟨T158, L158, k158, n158⟩, -, X158, ⟨Lc158, hQ158, l158, y158, z158⟩, st158⟩ := X0.privateBack hx (y := mN_31) hown (oV hZ hw 108 rfl) (oV hZ hw 109 rfl) (mvT hZ (own_selQ (y := mN_31) (own_w hw 111 rfl) (own_w hw 110 rfl) (own_w hw 109 rfl) (by decide))) (Cond.privateMethod_at (mvP hZ (own_w hw 110 rfl) (args := #[]))) (oV hZ hw 112 rfl) (by decide) (backOf (W := 0) (rmin00 l Z a0 hw [] a1 a2 g1 bu ku zu us h0 n0 Z0 E1 Fc E2 Gc Gv Vu hu SC hg1) hZ (own_w hw 112 rfl) (own_w hw 68 rfl) (by decide) (by decide)) (g := (mkF m 2 #[.val (.ref a1), .val (.int n), .val (.ref a2)] [(.ref a2), (.ref a1)])) rfl (by rw [hml]; rfl) (Steps.refl _) (a := a1) (by rw [e0]; exact q158) q158' (argsL := [(.ref a2)]) (rest := []) (lenOf pd_16 rfl) rfl (by exact oZ rfl) (hb hby d22_2) (fun _ _ => ⟨rfl, e0, (by decide : 0 + 0 ≤ _), (by decide : 0 + 0 ≤ _)⟩)
  dsimp only [Pt.U, Pt.locs, Pt.cells, Pt.slots] at X158 l158 y158 z158 st158 hQ158
  rw [l158, y158, z158] at X158
  obtain ⟨rfl, Nq158, e158⟩ := hQ158
  have N158 := Fr.app N0 Nq158
  refine own_of (U' := (T158.setTop (mkF m 5 #[.val (.ref a1), .val (.int n), .val (.ref a2)] []))) (fun _ k => st158.trans k) ?_
  refine own_aloadN X158 hx hby d22_5 rfl rfl ?_
  refine own_aloadN X158 hx hby d22_6 rfl rfl ?_
  obtain ⟨T159, X159, e159, st159⟩ := getF X158 hx hZ hown (host := "") (Or.inl (own_w hw 72 rfl)) Via.refl e158 Fv (g := (mkF m 7 #[.val (.ref a1), .val (.int n), .val (.ref a2)] [(.ref a1), (.ref a2)])) rfl rfl (hb hby d22_7)
  refine own_of (U' := (T159.setTop (mkF m 10 #[.val (.ref a1), .val (.int n), .val (.ref a2)] [(.ref b), (.ref a2)]))) (st159) ?_
  refine own_iloadN X159 hx hby d22_10 rfl ?_
  refine own_aloadN X159 hx hby d22_11 rfl rfl ?_
  obtain ⟨T160, X160, e160, st160⟩ := getF X159 hx hZ hown (host := "") (Or.inl (own_w hw 74 rfl)) Via.refl e159 Fc (g := (mkF m 12 #[.val (.ref a1), .val (.int n), .val (.ref a2)] [(.ref a1), (.int n), (.ref b), (.ref a2)])) rfl rfl (hb hby d22_12)
  refine own_of (U' := (T160.setTop (mkF m 15 #[.val (.ref a1), .val (.int n), .val (.ref a2)] [(.int 0), (.int n), (.ref b), (.ref a2)]))) (st160) ?_
  obtain ⟨cq161, kq161, q161a, q161b, q161c⟩ := isOf hZ e160 E2
  obtain ⟨_, _, ⟨T161, L161, k161, n161⟩, -, X161, ⟨Lc161, hQ161, l161, y161, z161⟩, st161⟩ := X160.virtualBack hx (y := mN_32) (z := mN_32) hown (oV hZ hw 114 rfl) (oV hZ hw 115 rfl) (notFace_of_selects (args := #[]) (oV hZ hw 117 rfl)) (oV hZ hw 117 rfl) (oV hZ hw 116 rfl) (by decide) (backOf (W := 0) (rmgb00 l Z a0 hw [] a2 g1 bu ku zu us b kb n cs h0 n0 Z0 E2 Gc Gv Vu hu SC hg1 Vb hn hm hus g_b ne2 neu) hZ (own_w hw 118 rfl) (own_w hw 12 rfl) (by decide) (by decide)) q161a q161c (g := (mkF m 15 #[.val (.ref a1), .val (.int n), .val (.ref a2)] [(.int 0), (.int n), (.ref b), (.ref a2)])) rfl (by rw [hml]; rfl) (Steps.refl _) (argsL := [(.ref b), (.int n), (.int 0)]) (rest := []) (lenOf pd_17 rfl) rfl (by exact oZ rfl) (hb hby d22_15) (fun _ _ => ⟨rfl, e160, (by decide : 0 + 0 ≤ _), (by decide : 0 + 0 ≤ _)⟩)
  dsimp only [Pt.U, Pt.locs, Pt.cells, Pt.slots] at X161 l161 y161 z161 st161 hQ161
  rw [l161, y161, z161] at X161
  obtain ⟨rfl, Nq161, Kp161, Vq161⟩ := hQ161
  have N161 := Fr.app N158 Nq161
  have nst_b := Vb.nostat
  replace Z0 := nT Z0 Kp161.1
  replace E1 := E1.keep Kp161
  replace Fv := Fv.keep Kp161 (ninS neab nin0)
  replace Fn := Fn.keep Kp161 (ninS neab nin0)
  replace Fm := Fm.keep Kp161 (ninS neab nin0)
  replace Fc := Fc.keep Kp161 (ninS neab nin0)
  replace E2 := E2.keep Kp161
  replace Gc := Gc.keep Kp161 (ninS ne2 nin0)
  replace Gv := Gv.keep Kp161 (ninS ne2 nin0)
  replace Vu := Vu.keep Kp161 (ninS neu nin0)
  replace SC := own_staKeep SC Kp161 (nsS nst_b ns0)
  replace SA := own_staKeep SA Kp161 (nsS nst_b ns0)
  replace SHI := own_staKeep SHI Kp161 (nsS nst_b ns0)
  replace SLO := own_staKeep SLO Kp161 (nsS nst_b ns0)
  replace SF := own_staKeep SF Kp161 (nsS nst_b ns0)
  replace KK := KK.trans Kp161 (allS (Or.inl (List.mem_of_getElem? (i := 1) rfl)) all0)
  rw [← List.map_append] at Vq161
  refine own_of (U' := (T161.setTop (mkF m 18 #[.val (.ref a1), .val (.int n), .val (.ref a2)] []))) (fun _ k => st161.trans k) ?_
  exact own_ret0 X161 hx hlk hrt (hb hby d22_18) (by decide) (by decide) (⟨rfl, N161, KK, b, Or.inl rfl, Fv, Fn, Fm, kb, Or.inl ⟨own_latapp.mpr ⟨hlb, hlu⟩, Fc, Vq161⟩⟩)
theorem ef_ps01 (m : MethodId) (x0 : Addr) (x1 : Int32) (x2 : Addr) : entryFrame m #[(.ref x0), (.int x1), (.ref x2)] 3 = mkF m 0 #[.val (.ref x0), .val (.int x1), .val (.ref x2)] [] := by first | (simp [entryFrame, mkF, argsToLocals, Value.category]; done) | rfl
theorem rmps01 (l : Launch) (Z : State) (a0 : Array Value) (hw : ∀ d ∈ tables_1, d.before a0 Z = true) (ws : List Jvm.Cond) (a1 b : Addr) (kb : ClassId) (n : Int32) (cs : List Int32) (a2 : Addr) (g1 : Int32) (bu : Addr) (ku : ClassId) (zu : Int32) (us : List Int32) (rS : Value) (h0 : Heap) (n0 : Nat) (Z0 : n0 ≤ h0.size) (E1 : Exa Z h0 a1 "java/lang/StringBuilder") (Fv : Fld Z h0 a1 "java/lang/AbstractStringBuilder" "value" "[B" (.ref b)) (Fn : Fld Z h0 a1 "java/lang/AbstractStringBuilder" "count" "I" (.int n)) (Fm : Fld Z h0 a1 "java/lang/AbstractStringBuilder" "maybeLatin1" "Z" (.int 0)) (Fc : Fld Z h0 a1 "java/lang/AbstractStringBuilder" "coder" "B" (.int 0)) (Vb : Arv Z h0 b kb .byte (16 : Int32) (List.map Value.int (List.map own_b8 cs)) (.int 0)) (E2 : Exa Z h0 a2 "java/lang/String") (Gc : Fld Z h0 a2 "java/lang/String" "coder" "B" (.int 1)) (Gv : Fld Z h0 a2 "java/lang/String" "value" "[B" (.ref bu)) (Vu : Arv Z h0 bu ku .byte zu (List.map Value.int (own_u16 us)) (.int 0)) (hu : zu.toInt = 2 * (us.length : Int))  (hn : n.toInt = cs.length) (hl : cs.length ≤ 16) (hcs : own_chs cs) (hm : cs.length + us.length ≤ 16) (hus : own_chs us) (hlb : own_lat cs) (hlu : ¬ own_lat us) (g_a1 : n0 ≤ a1) (g_b : n0 ≤ b) (neab : a1 ≠ b) (n12 : a1 ≠ a2) (n1u : a1 ≠ bu) (ne2 : a2 ≠ b) (neu : bu ≠ b) (SC : Sta Z h0 "java/lang/String" "COMPACT_STRINGS" "Z" (.int g1)) (hg1 : ¬ (g1 = (0 : Int32))) (SA : Sta Z h0 "java/lang/StringUTF16" "$assertionsDisabled" "Z" (.int 1)) (SHI : Sta Z h0 "java/lang/StringUTF16" "HI_BYTE_SHIFT" "I" (.int 0)) (SLO : Sta Z h0 "java/lang/StringUTF16" "LO_BYTE_SHIFT" "I" (.int 8)) (SF : Sta Z h0 "jdk/internal/util/Preconditions" "SIOOBE_FORMATTER" "Ljava/util/function/BiFunction;" rS) (hrS : rS.isRef = true) : own_M l mN_33 jdk_68_method_73_code 3 none ws ({ frames := 7, cells := 1, slots := 32, locals := 102 } : Room) Z h0 #[(.ref a1), (.int n), (.ref a2)] (Qps Z a1 b n (cs ++ us) h0 n0) := by
  refine own_go #[.val (.ref a1), .val (.int n), .val (.ref a2)] (plainFor_of_name pn_1) (fun m => ef_ps01 m a1 n a2) ?_
  intro p e s m below meth c s₁ hx hby hml hown hnm hlk X0 e0 hZ hrt
  have N0 := Fr.nil n0
  have KK := Keep.refl h0 [a1, b]
  refine own_aloadN X0 hx hby d22_0 rfl rfl ?_
  refine own_aloadN X0 hx hby d22_1 rfl rfl ?_
  obtain ⟨cq162, q162, q162'⟩ := E1.cell
  obtain ⟨_, _, ⟨T162, L162, k162, n162⟩, -, X162, ⟨Lc162, hQ162, l162, y162, z162⟩, st162⟩ := X0.privateBack hx (y := mN_31) hown (oV hZ hw 108 rfl) (oV hZ hw 109 rfl) (mvT hZ (own_selQ (y := mN_31) (own_w hw 111 rfl) (own_w hw 110 rfl) (own_w hw 109 rfl) (by decide))) (Cond.privateMethod_at (mvP hZ (own_w hw 110 rfl) (args := #[]))) (oV hZ hw 112 rfl) (by decide) (backOf (W := 0) (rmin01 l Z a0 hw [] a1 b kb n cs a2 g1 bu ku zu us rS h0 n0 Z0 E1 Fv Fn Fm Fc Vb E2 Gc Gv Vu hu hn hl hcs hlb g_a1 neab n12 n1u ne2 neu SC hg1 SA SHI SLO SF hrS) hZ (own_w hw 112 rfl) (own_w hw 68 rfl) (by decide) (by decide)) (g := (mkF m 2 #[.val (.ref a1), .val (.int n), .val (.ref a2)] [(.ref a2), (.ref a1)])) rfl (by rw [hml]; rfl) (Steps.refl _) (a := a1) (by rw [e0]; exact q162) q162' (argsL := [(.ref a2)]) (rest := []) (lenOf pd_16 rfl) rfl (by exact oZ rfl) (hb hby d22_2) (fun _ _ => ⟨rfl, e0, (by decide : 0 + 1 ≤ _), (by decide : 0 + 32 ≤ _)⟩)
  dsimp only [Pt.U, Pt.locs, Pt.cells, Pt.slots] at X162 l162 y162 z162 st162 hQ162
  rw [l162, y162, z162] at X162
  obtain ⟨rfl, Nq162, Kp162, u162, ku162, gq162, Fv162, Fn162, Fm162, Fc162, Vq162⟩ := hQ162
  have g_u162 : n0 ≤ u162 := nT Z0 gq162
  have sz_u162 : h0.size ≤ u162 := nT KK.1 gq162
  have ne_a1_u162 : a1 ≠ u162 := nL E1.lt gq162
  have ne_b_u162 : b ≠ u162 := nL Vb.lt gq162
  have ne_a2_u162 : a2 ≠ u162 := nL E2.lt gq162
  have ne_bu_u162 : bu ≠ u162 := nL Vu.lt gq162
  have N162 := Fr.app N0 Nq162
  have nst_a1 := E1.nostat
  replace Z0 := nT Z0 Kp162.1
  replace E1 := E1.keep Kp162
  replace Vb := Vb.keep Kp162 (ninS (Ne.symm neab) nin0)
  replace E2 := E2.keep Kp162
  replace Gc := Gc.keep Kp162 (ninS (Ne.symm n12) nin0)
  replace Gv := Gv.keep Kp162 (ninS (Ne.symm n12) nin0)
  replace Vu := Vu.keep Kp162 (ninS (Ne.symm n1u) nin0)
  replace SC := own_staKeep SC Kp162 (nsS nst_a1 ns0)
  replace SA := own_staKeep SA Kp162 (nsS nst_a1 ns0)
  replace SHI := own_staKeep SHI Kp162 (nsS nst_a1 ns0)
  replace SLO := own_staKeep SLO Kp162 (nsS nst_a1 ns0)
  replace SF := own_staKeep SF Kp162 (nsS nst_a1 ns0)
  replace KK := KK.trans Kp162 (allS (Or.inl (List.mem_of_getElem? (i := 0) rfl)) all0)
  refine own_of (U' := (T162.setTop (mkF m 5 #[.val (.ref a1), .val (.int n), .val (.ref a2)] []))) (fun _ k => st162.trans k) ?_
  refine own_aloadN X162 hx hby d22_5 rfl rfl ?_
  refine own_aloadN X162 hx hby d22_6 rfl rfl ?_
  obtain ⟨T163, X163, e163, st163⟩ := getF X162 hx hZ hown (host := "") (Or.inl (own_w hw 72 rfl)) Via.refl rfl Fv162 (g := (mkF m 7 #[.val (.ref a1), .val (.int n), .val (.ref a2)] [(.ref a1), (.ref a2)])) rfl rfl (hb hby d22_7)
  refine own_of (U' := (T163.setTop (mkF m 10 #[.val (.ref a1), .val (.int n), .val (.ref a2)] [(.ref u162), (.ref a2)]))) (st163) ?_
  refine own_iloadN X163 hx hby d22_10 rfl ?_
  refine own_aloadN X163 hx hby d22_11 rfl rfl ?_
  obtain ⟨T164, X164, e164, st164⟩ := getF X163 hx hZ hown (host := "") (Or.inl (own_w hw 74 rfl)) Via.refl e163 Fc162 (g := (mkF m 12 #[.val (.ref a1), .val (.int n), .val (.ref a2)] [(.ref a1), (.int n), (.ref u162), (.ref a2)])) rfl rfl (hb hby d22_12)
  refine own_of (U' := (T164.setTop (mkF m 15 #[.val (.ref a1), .val (.int n), .val (.ref a2)] [(.int 1), (.int n), (.ref u162), (.ref a2)]))) (st164) ?_
  obtain ⟨cq165, kq165, q165a, q165b, q165c⟩ := isOf hZ e164 E2
  obtain ⟨_, _, ⟨T165, L165, k165, n165⟩, -, X165, ⟨Lc165, hQ165, l165, y165, z165⟩, st165⟩ := X164.virtualBack hx (y := mN_32) (z := mN_32) hown (oV hZ hw 114 rfl) (oV hZ hw 115 rfl) (notFace_of_selects (args := #[]) (oV hZ hw 117 rfl)) (oV hZ hw 117 rfl) (oV hZ hw 116 rfl) (by decide) (backOf (W := 0) (rmgb11 l Z a0 hw [] a2 g1 bu ku zu us u162 ku162 n cs T162.heap n0 Z0 E2 Gc Gv Vu hu SC hg1 Vq162 hn hm hus g_u162 ne_a2_u162 ne_bu_u162) hZ (own_w hw 118 rfl) (own_w hw 12 rfl) (by decide) (by decide)) q165a q165c (g := (mkF m 15 #[.val (.ref a1), .val (.int n), .val (.ref a2)] [(.int 1), (.int n), (.ref u162), (.ref a2)])) rfl (by rw [hml]; rfl) (Steps.refl _) (argsL := [(.ref u162), (.int n), (.int 1)]) (rest := []) (lenOf pd_17 rfl) rfl (by exact oZ rfl) (hb hby d22_15) (fun _ _ => ⟨rfl, e164, (by decide : 1 + 0 ≤ _), (by decide : 32 + 0 ≤ _)⟩)
  dsimp only [Pt.U, Pt.locs, Pt.cells, Pt.slots] at X165 l165 y165 z165 st165 hQ165
  rw [l165, y165, z165] at X165
  obtain ⟨rfl, Nq165, Kp165, Vq165⟩ := hQ165
  have N165 := Fr.app N162 Nq165
  have nst_u162 := Vq162.nostat
  replace Z0 := nT Z0 Kp165.1
  replace E1 := E1.keep Kp165
  replace Vb := Vb.keep Kp165 (ninS ne_b_u162 nin0)
  replace E2 := E2.keep Kp165
  replace Gc := Gc.keep Kp165 (ninS ne_a2_u162 nin0)
  replace Gv := Gv.keep Kp165 (ninS ne_a2_u162 nin0)
  replace Vu := Vu.keep Kp165 (ninS ne_bu_u162 nin0)
  replace SC := own_staKeep SC Kp165 (nsS nst_u162 ns0)
  replace SA := own_staKeep SA Kp165 (nsS nst_u162 ns0)
  replace SHI := own_staKeep SHI Kp165 (nsS nst_u162 ns0)
  replace SLO := own_staKeep SLO Kp165 (nsS nst_u162 ns0)
  replace SF := own_staKeep SF Kp165 (nsS nst_u162 ns0)
  replace KK := KK.trans Kp165 (allS (Or.inr sz_u162) all0)
  replace Fv162 := Fv162.keep Kp165 (ninS ne_a1_u162 nin0)
  replace Fn162 := Fn162.keep Kp165 (ninS ne_a1_u162 nin0)
  replace Fm162 := Fm162.keep Kp165 (ninS ne_a1_u162 nin0)
  replace Fc162 := Fc162.keep Kp165 (ninS ne_a1_u162 nin0)
  rw [← own_u16_app] at Vq165
  refine own_of (U' := (T165.setTop (mkF m 18 #[.val (.ref a1), .val (.int n), .val (.ref a2)] []))) (fun _ k => st165.trans k) ?_
  exact own_ret0 X165 hx hlk hrt (hb hby d22_18) (by decide) (by decide) (⟨rfl, N165, KK, u162, Or.inr sz_u162, Fv162, Fn162, Fm162, ku162, Or.inr ⟨fun q => hlu (own_latapp.mp q).2, Fc162, Vq165⟩⟩)
theorem ef_ps10 (m : MethodId) (x0 : Addr) (x1 : Int32) (x2 : Addr) : entryFrame m #[(.ref x0), (.int x1), (.ref x2)] 3 = mkF m 0 #[.val (.ref x0), .val (.int x1), .val (.ref x2)] [] := by first | (simp [entryFrame, mkF, argsToLocals, Value.category]; done) | rfl
theorem rmps10 (l : Launch) (Z : State) (a0 : Array Value) (hw : ∀ d ∈ tables_1, d.before a0 Z = true) (ws : List Jvm.Cond) (a1 b : Addr) (kb : ClassId) (n : Int32) (cs : List Int32) (a2 : Addr) (g1 : Int32) (bu : Addr) (ku : ClassId) (zu : Int32) (us : List Int32) (rS : Value) (h0 : Heap) (n0 : Nat) (Z0 : n0 ≤ h0.size) (E1 : Exa Z h0 a1 "java/lang/StringBuilder") (Fv : Fld Z h0 a1 "java/lang/AbstractStringBuilder" "value" "[B" (.ref b)) (Fn : Fld Z h0 a1 "java/lang/AbstractStringBuilder" "count" "I" (.int n)) (Fm : Fld Z h0 a1 "java/lang/AbstractStringBuilder" "maybeLatin1" "Z" (.int 0)) (Fc : Fld Z h0 a1 "java/lang/AbstractStringBuilder" "coder" "B" (.int 1)) (Vb : Arv Z h0 b kb .byte (32 : Int32) (List.map Value.int (own_u16 cs)) (.int 0)) (E2 : Exa Z h0 a2 "java/lang/String") (Gc : Fld Z h0 a2 "java/lang/String" "coder" "B" (.int 0)) (Gv : Fld Z h0 a2 "java/lang/String" "value" "[B" (.ref bu)) (Vu : Arv Z h0 bu ku .byte zu (List.map Value.int (List.map own_b8 us)) (.int 0)) (hu : zu.toInt = us.length)  (hn : n.toInt = cs.length) (hl : cs.length ≤ 16) (hcs : own_chs cs) (hm : cs.length + us.length ≤ 16) (hus : own_chs us) (hlb : ¬ own_lat cs) (hlu : own_lat us) (g_a1 : n0 ≤ a1) (g_b : n0 ≤ b) (neab : a1 ≠ b) (n12 : a1 ≠ a2) (n1u : a1 ≠ bu) (ne2 : a2 ≠ b) (neu : bu ≠ b) (SC : Sta Z h0 "java/lang/String" "COMPACT_STRINGS" "Z" (.int g1)) (hg1 : ¬ (g1 = (0 : Int32))) (SA : Sta Z h0 "java/lang/StringUTF16" "$assertionsDisabled" "Z" (.int 1)) (SHI : Sta Z h0 "java/lang/StringUTF16" "HI_BYTE_SHIFT" "I" (.int 0)) (SLO : Sta Z h0 "java/lang/StringUTF16" "LO_BYTE_SHIFT" "I" (.int 8)) (SF : Sta Z h0 "jdk/internal/util/Preconditions" "SIOOBE_FORMATTER" "Ljava/util/function/BiFunction;" rS) (hrS : rS.isRef = true) : own_M l mN_33 jdk_68_method_73_code 3 none ws ({ frames := 7, cells := 1, slots := 32, locals := 102 } : Room) Z h0 #[(.ref a1), (.int n), (.ref a2)] (Qps Z a1 b n (cs ++ us) h0 n0) := by
  refine own_go #[.val (.ref a1), .val (.int n), .val (.ref a2)] (plainFor_of_name pn_1) (fun m => ef_ps10 m a1 n a2) ?_
  intro p e s m below meth c s₁ hx hby hml hown hnm hlk X0 e0 hZ hrt
  have N0 := Fr.nil n0
  have KK := Keep.refl h0 [a1, b]
  refine own_aloadN X0 hx hby d22_0 rfl rfl ?_
  refine own_aloadN X0 hx hby d22_1 rfl rfl ?_
  obtain ⟨cq166, q166, q166'⟩ := E1.cell
  obtain ⟨_, _, ⟨T166, L166, k166, n166⟩, -, X166, ⟨Lc166, hQ166, l166, y166, z166⟩, st166⟩ := X0.privateBack hx (y := mN_31) hown (oV hZ hw 108 rfl) (oV hZ hw 109 rfl) (mvT hZ (own_selQ (y := mN_31) (own_w hw 111 rfl) (own_w hw 110 rfl) (own_w hw 109 rfl) (by decide))) (Cond.privateMethod_at (mvP hZ (own_w hw 110 rfl) (args := #[]))) (oV hZ hw 112 rfl) (by decide) (backOf (W := 0) (rmin10 l Z a0 hw [] a1 a2 g1 bu ku zu us h0 n0 Z0 E1 Fc E2 Gc Gv Vu hu SC hg1) hZ (own_w hw 112 rfl) (own_w hw 68 rfl) (by decide) (by decide)) (g := (mkF m 2 #[.val (.ref a1), .val (.int n), .val (.ref a2)] [(.ref a2), (.ref a1)])) rfl (by rw [hml]; rfl) (Steps.refl _) (a := a1) (by rw [e0]; exact q166) q166' (argsL := [(.ref a2)]) (rest := []) (lenOf pd_16 rfl) rfl (by exact oZ rfl) (hb hby d22_2) (fun _ _ => ⟨rfl, e0, (by decide : 0 + 0 ≤ _), (by decide : 0 + 0 ≤ _)⟩)
  dsimp only [Pt.U, Pt.locs, Pt.cells, Pt.slots] at X166 l166 y166 z166 st166 hQ166
  rw [l166, y166, z166] at X166
  obtain ⟨rfl, Nq166, e166⟩ := hQ166
  have N166 := Fr.app N0 Nq166
  refine own_of (U' := (T166.setTop (mkF m 5 #[.val (.ref a1), .val (.int n), .val (.ref a2)] []))) (fun _ k => st166.trans k) ?_
  refine own_aloadN X166 hx hby d22_5 rfl rfl ?_
  refine own_aloadN X166 hx hby d22_6 rfl rfl ?_
  obtain ⟨T167, X167, e167, st167⟩ := getF X166 hx hZ hown (host := "") (Or.inl (own_w hw 72 rfl)) Via.refl e166 Fv (g := (mkF m 7 #[.val (.ref a1), .val (.int n), .val (.ref a2)] [(.ref a1), (.ref a2)])) rfl rfl (hb hby d22_7)
  refine own_of (U' := (T167.setTop (mkF m 10 #[.val (.ref a1), .val (.int n), .val (.ref a2)] [(.ref b), (.ref a2)]))) (st167) ?_
  refine own_iloadN X167 hx hby d22_10 rfl ?_
  refine own_aloadN X167 hx hby d22_11 rfl rfl ?_
  obtain ⟨T168, X168, e168, st168⟩ := getF X167 hx hZ hown (host := "") (Or.inl (own_w hw 74 rfl)) Via.refl e167 Fc (g := (mkF m 12 #[.val (.ref a1), .val (.int n), .val (.ref a2)] [(.ref a1), (.int n), (.ref b), (.ref a2)])) rfl rfl (hb hby d22_12)
  refine own_of (U' := (T168.setTop (mkF m 15 #[.val (.ref a1), .val (.int n), .val (.ref a2)] [(.int 1), (.int n), (.ref b), (.ref a2)]))) (st168) ?_
  obtain ⟨cq169, kq169, q169a, q169b, q169c⟩ := isOf hZ e168 E2
  obtain ⟨_, _, ⟨T169, L169, k169, n169⟩, -, X169, ⟨Lc169, hQ169, l169, y169, z169⟩, st169⟩ := X168.virtualBack hx (y := mN_32) (z := mN_32) hown (oV hZ hw 114 rfl) (oV hZ hw 115 rfl) (notFace_of_selects (args := #[]) (oV hZ hw 117 rfl)) (oV hZ hw 117 rfl) (oV hZ hw 116 rfl) (by decide) (backOf (W := 0) (rmgb01 l Z a0 hw [] a2 g1 bu ku zu us b kb n cs rS h0 n0 Z0 E2 Gc Gv Vu hu SC hg1 Vb hn hm hus g_b ne2 neu hlu SA SHI SLO SF hrS) hZ (own_w hw 118 rfl) (own_w hw 12 rfl) (by decide) (by decide)) q169a q169c (g := (mkF m 15 #[.val (.ref a1), .val (.int n), .val (.ref a2)] [(.int 1), (.int n), (.ref b), (.ref a2)])) rfl (by rw [hml]; rfl) (Steps.refl _) (argsL := [(.ref b), (.int n), (.int 1)]) (rest := []) (lenOf pd_17 rfl) rfl (by exact oZ rfl) (hb hby d22_15) (fun _ _ => ⟨rfl, e168, (by decide : 0 + 0 ≤ _), (by decide : 0 + 0 ≤ _)⟩)
  dsimp only [Pt.U, Pt.locs, Pt.cells, Pt.slots] at X169 l169 y169 z169 st169 hQ169
  rw [l169, y169, z169] at X169
  obtain ⟨rfl, Nq169, Kp169, Vq169⟩ := hQ169
  have N169 := Fr.app N166 Nq169
  have nst_b := Vb.nostat
  replace Z0 := nT Z0 Kp169.1
  replace E1 := E1.keep Kp169
  replace Fv := Fv.keep Kp169 (ninS neab nin0)
  replace Fn := Fn.keep Kp169 (ninS neab nin0)
  replace Fm := Fm.keep Kp169 (ninS neab nin0)
  replace Fc := Fc.keep Kp169 (ninS neab nin0)
  replace E2 := E2.keep Kp169
  replace Gc := Gc.keep Kp169 (ninS ne2 nin0)
  replace Gv := Gv.keep Kp169 (ninS ne2 nin0)
  replace Vu := Vu.keep Kp169 (ninS neu nin0)
  replace SC := own_staKeep SC Kp169 (nsS nst_b ns0)
  replace SA := own_staKeep SA Kp169 (nsS nst_b ns0)
  replace SHI := own_staKeep SHI Kp169 (nsS nst_b ns0)
  replace SLO := own_staKeep SLO Kp169 (nsS nst_b ns0)
  replace SF := own_staKeep SF Kp169 (nsS nst_b ns0)
  replace KK := KK.trans Kp169 (allS (Or.inl (List.mem_of_getElem? (i := 1) rfl)) all0)
  refine own_of (U' := (T169.setTop (mkF m 18 #[.val (.ref a1), .val (.int n), .val (.ref a2)] []))) (fun _ k => st169.trans k) ?_
  exact own_ret0 X169 hx hlk hrt (hb hby d22_18) (by decide) (by decide) (⟨rfl, N169, KK, b, Or.inl rfl, Fv, Fn, Fm, kb, Or.inr ⟨fun q => hlb (own_latapp.mp q).1, Fc, Vq169⟩⟩)
theorem ef_ps11 (m : MethodId) (x0 : Addr) (x1 : Int32) (x2 : Addr) : entryFrame m #[(.ref x0), (.int x1), (.ref x2)] 3 = mkF m 0 #[.val (.ref x0), .val (.int x1), .val (.ref x2)] [] := by first | (simp [entryFrame, mkF, argsToLocals, Value.category]; done) | rfl
theorem rmps11 (l : Launch) (Z : State) (a0 : Array Value) (hw : ∀ d ∈ tables_1, d.before a0 Z = true) (ws : List Jvm.Cond) (a1 b : Addr) (kb : ClassId) (n : Int32) (cs : List Int32) (a2 : Addr) (g1 : Int32) (bu : Addr) (ku : ClassId) (zu : Int32) (us : List Int32) (rS : Value) (h0 : Heap) (n0 : Nat) (Z0 : n0 ≤ h0.size) (E1 : Exa Z h0 a1 "java/lang/StringBuilder") (Fv : Fld Z h0 a1 "java/lang/AbstractStringBuilder" "value" "[B" (.ref b)) (Fn : Fld Z h0 a1 "java/lang/AbstractStringBuilder" "count" "I" (.int n)) (Fm : Fld Z h0 a1 "java/lang/AbstractStringBuilder" "maybeLatin1" "Z" (.int 0)) (Fc : Fld Z h0 a1 "java/lang/AbstractStringBuilder" "coder" "B" (.int 1)) (Vb : Arv Z h0 b kb .byte (32 : Int32) (List.map Value.int (own_u16 cs)) (.int 0)) (E2 : Exa Z h0 a2 "java/lang/String") (Gc : Fld Z h0 a2 "java/lang/String" "coder" "B" (.int 1)) (Gv : Fld Z h0 a2 "java/lang/String" "value" "[B" (.ref bu)) (Vu : Arv Z h0 bu ku .byte zu (List.map Value.int (own_u16 us)) (.int 0)) (hu : zu.toInt = 2 * (us.length : Int))  (hn : n.toInt = cs.length) (hl : cs.length ≤ 16) (hcs : own_chs cs) (hm : cs.length + us.length ≤ 16) (hus : own_chs us) (hlb : ¬ own_lat cs) (hlu : ¬ own_lat us) (g_a1 : n0 ≤ a1) (g_b : n0 ≤ b) (neab : a1 ≠ b) (n12 : a1 ≠ a2) (n1u : a1 ≠ bu) (ne2 : a2 ≠ b) (neu : bu ≠ b) (SC : Sta Z h0 "java/lang/String" "COMPACT_STRINGS" "Z" (.int g1)) (hg1 : ¬ (g1 = (0 : Int32))) (SA : Sta Z h0 "java/lang/StringUTF16" "$assertionsDisabled" "Z" (.int 1)) (SHI : Sta Z h0 "java/lang/StringUTF16" "HI_BYTE_SHIFT" "I" (.int 0)) (SLO : Sta Z h0 "java/lang/StringUTF16" "LO_BYTE_SHIFT" "I" (.int 8)) (SF : Sta Z h0 "jdk/internal/util/Preconditions" "SIOOBE_FORMATTER" "Ljava/util/function/BiFunction;" rS) (hrS : rS.isRef = true) : own_M l mN_33 jdk_68_method_73_code 3 none ws ({ frames := 7, cells := 1, slots := 32, locals := 102 } : Room) Z h0 #[(.ref a1), (.int n), (.ref a2)] (Qps Z a1 b n (cs ++ us) h0 n0) := by
  refine own_go #[.val (.ref a1), .val (.int n), .val (.ref a2)] (plainFor_of_name pn_1) (fun m => ef_ps11 m a1 n a2) ?_
  intro p e s m below meth c s₁ hx hby hml hown hnm hlk X0 e0 hZ hrt
  have N0 := Fr.nil n0
  have KK := Keep.refl h0 [a1, b]
  refine own_aloadN X0 hx hby d22_0 rfl rfl ?_
  refine own_aloadN X0 hx hby d22_1 rfl rfl ?_
  obtain ⟨cq170, q170, q170'⟩ := E1.cell
  obtain ⟨_, _, ⟨T170, L170, k170, n170⟩, -, X170, ⟨Lc170, hQ170, l170, y170, z170⟩, st170⟩ := X0.privateBack hx (y := mN_31) hown (oV hZ hw 108 rfl) (oV hZ hw 109 rfl) (mvT hZ (own_selQ (y := mN_31) (own_w hw 111 rfl) (own_w hw 110 rfl) (own_w hw 109 rfl) (by decide))) (Cond.privateMethod_at (mvP hZ (own_w hw 110 rfl) (args := #[]))) (oV hZ hw 112 rfl) (by decide) (backOf (W := 0) (rmin11 l Z a0 hw [] a1 a2 g1 bu ku zu us h0 n0 Z0 E1 Fc E2 Gc Gv Vu hu SC hg1) hZ (own_w hw 112 rfl) (own_w hw 68 rfl) (by decide) (by decide)) (g := (mkF m 2 #[.val (.ref a1), .val (.int n), .val (.ref a2)] [(.ref a2), (.ref a1)])) rfl (by rw [hml]; rfl) (Steps.refl _) (a := a1) (by rw [e0]; exact q170) q170' (argsL := [(.ref a2)]) (rest := []) (lenOf pd_16 rfl) rfl (by exact oZ rfl) (hb hby d22_2) (fun _ _ => ⟨rfl, e0, (by decide : 0 + 0 ≤ _), (by decide : 0 + 0 ≤ _)⟩)
  dsimp only [Pt.U, Pt.locs, Pt.cells, Pt.slots] at X170 l170 y170 z170 st170 hQ170
  rw [l170, y170, z170] at X170
  obtain ⟨rfl, Nq170, e170⟩ := hQ170
  have N170 := Fr.app N0 Nq170
  refine own_of (U' := (T170.setTop (mkF m 5 #[.val (.ref a1), .val (.int n), .val (.ref a2)] []))) (fun _ k => st170.trans k) ?_
  refine own_aloadN X170 hx hby d22_5 rfl rfl ?_
  refine own_aloadN X170 hx hby d22_6 rfl rfl ?_
  obtain ⟨T171, X171, e171, st171⟩ := getF X170 hx hZ hown (host := "") (Or.inl (own_w hw 72 rfl)) Via.refl e170 Fv (g := (mkF m 7 #[.val (.ref a1), .val (.int n), .val (.ref a2)] [(.ref a1), (.ref a2)])) rfl rfl (hb hby d22_7)
  refine own_of (U' := (T171.setTop (mkF m 10 #[.val (.ref a1), .val (.int n), .val (.ref a2)] [(.ref b), (.ref a2)]))) (st171) ?_
  refine own_iloadN X171 hx hby d22_10 rfl ?_
  refine own_aloadN X171 hx hby d22_11 rfl rfl ?_
  obtain ⟨T172, X172, e172, st172⟩ := getF X171 hx hZ hown (host := "") (Or.inl (own_w hw 74 rfl)) Via.refl e171 Fc (g := (mkF m 12 #[.val (.ref a1), .val (.int n), .val (.ref a2)] [(.ref a1), (.int n), (.ref b), (.ref a2)])) rfl rfl (hb hby d22_12)
  refine own_of (U' := (T172.setTop (mkF m 15 #[.val (.ref a1), .val (.int n), .val (.ref a2)] [(.int 1), (.int n), (.ref b), (.ref a2)]))) (st172) ?_
  obtain ⟨cq173, kq173, q173a, q173b, q173c⟩ := isOf hZ e172 E2
  obtain ⟨_, _, ⟨T173, L173, k173, n173⟩, -, X173, ⟨Lc173, hQ173, l173, y173, z173⟩, st173⟩ := X172.virtualBack hx (y := mN_32) (z := mN_32) hown (oV hZ hw 114 rfl) (oV hZ hw 115 rfl) (notFace_of_selects (args := #[]) (oV hZ hw 117 rfl)) (oV hZ hw 117 rfl) (oV hZ hw 116 rfl) (by decide) (backOf (W := 0) (rmgb11 l Z a0 hw [] a2 g1 bu ku zu us b kb n cs h0 n0 Z0 E2 Gc Gv Vu hu SC hg1 Vb hn hm hus g_b ne2 neu) hZ (own_w hw 118 rfl) (own_w hw 12 rfl) (by decide) (by decide)) q173a q173c (g := (mkF m 15 #[.val (.ref a1), .val (.int n), .val (.ref a2)] [(.int 1), (.int n), (.ref b), (.ref a2)])) rfl (by rw [hml]; rfl) (Steps.refl _) (argsL := [(.ref b), (.int n), (.int 1)]) (rest := []) (lenOf pd_17 rfl) rfl (by exact oZ rfl) (hb hby d22_15) (fun _ _ => ⟨rfl, e172, (by decide : 0 + 0 ≤ _), (by decide : 0 + 0 ≤ _)⟩)
  dsimp only [Pt.U, Pt.locs, Pt.cells, Pt.slots] at X173 l173 y173 z173 st173 hQ173
  rw [l173, y173, z173] at X173
  obtain ⟨rfl, Nq173, Kp173, Vq173⟩ := hQ173
  have N173 := Fr.app N170 Nq173
  have nst_b := Vb.nostat
  replace Z0 := nT Z0 Kp173.1
  replace E1 := E1.keep Kp173
  replace Fv := Fv.keep Kp173 (ninS neab nin0)
  replace Fn := Fn.keep Kp173 (ninS neab nin0)
  replace Fm := Fm.keep Kp173 (ninS neab nin0)
  replace Fc := Fc.keep Kp173 (ninS neab nin0)
  replace E2 := E2.keep Kp173
  replace Gc := Gc.keep Kp173 (ninS ne2 nin0)
  replace Gv := Gv.keep Kp173 (ninS ne2 nin0)
  replace Vu := Vu.keep Kp173 (ninS neu nin0)
  replace SC := own_staKeep SC Kp173 (nsS nst_b ns0)
  replace SA := own_staKeep SA Kp173 (nsS nst_b ns0)
  replace SHI := own_staKeep SHI Kp173 (nsS nst_b ns0)
  replace SLO := own_staKeep SLO Kp173 (nsS nst_b ns0)
  replace SF := own_staKeep SF Kp173 (nsS nst_b ns0)
  replace KK := KK.trans Kp173 (allS (Or.inl (List.mem_of_getElem? (i := 1) rfl)) all0)
  rw [← own_u16_app] at Vq173
  refine own_of (U' := (T173.setTop (mkF m 18 #[.val (.ref a1), .val (.int n), .val (.ref a2)] []))) (fun _ k => st173.trans k) ?_
  exact own_ret0 X173 hx hlk hrt (hb hby d22_18) (by decide) (by decide) (⟨rfl, N173, KK, b, Or.inl rfl, Fv, Fn, Fm, kb, Or.inr ⟨fun q => hlb (own_latapp.mp q).1, Fc, Vq173⟩⟩)
theorem rmps (l : Launch) (Z : State) (a0 : Array Value) (hw : ∀ d ∈ tables_1, d.before a0 Z = true) (ws : List Jvm.Cond) (a1 b : Addr) (n : Int32) (cs : List Int32) (a2 : Addr) (us : List Int32) (n1 : Nat) (g1 : Int32) (rS : Value) (h0 : Heap) (n0 : Nat) (Z0 : n0 ≤ h0.size) (E1 : Exa Z h0 a1 "java/lang/StringBuilder") (Fv : Fld Z h0 a1 "java/lang/AbstractStringBuilder" "value" "[B" (.ref b)) (Fn : Fld Z h0 a1 "java/lang/AbstractStringBuilder" "count" "I" (.int n)) (Fm : Fld Z h0 a1 "java/lang/AbstractStringBuilder" "maybeLatin1" "Z" (.int 0)) (C1 : own_C Z h0 a1 b cs) (O2 : own_S2 Z h0 n1 a2 us) (hn : n.toInt = cs.length) (hl : cs.length ≤ 16) (hcs : own_chs cs) (hm : cs.length + us.length ≤ 16) (hus : own_chs us) (g_a1 : n0 ≤ a1) (g_b : n0 ≤ b) (neab : a1 ≠ b) (y1 : n1 ≤ a1) (y2 : n1 ≤ b) (SC : Sta Z h0 "java/lang/String" "COMPACT_STRINGS" "Z" (.int g1)) (hg1 : ¬ (g1 = (0 : Int32))) (SA : Sta Z h0 "java/lang/StringUTF16" "$assertionsDisabled" "Z" (.int 1)) (SHI : Sta Z h0 "java/lang/StringUTF16" "HI_BYTE_SHIFT" "I" (.int 0)) (SLO : Sta Z h0 "java/lang/StringUTF16" "LO_BYTE_SHIFT" "I" (.int 8)) (SF : Sta Z h0 "jdk/internal/util/Preconditions" "SIOOBE_FORMATTER" "Ljava/util/function/BiFunction;" rS) (hrS : rS.isRef = true) : own_M l mN_33 jdk_68_method_73_code 3 none ws ({ frames := 7, cells := 1, slots := 32, locals := 102 } : Room) Z h0 #[(.ref a1), (.int n), (.ref a2)] (Qps Z a1 b n (cs ++ us) h0 n0) := by
  obtain ⟨kb, ⟨lt, Fc, Vb⟩ | ⟨lt, Fc, Vb⟩⟩ := C1 <;> obtain ⟨bu, ku, cd, zu, la, lb, E2, Gc, Gv, ⟨rfl, lu, hu, Vu⟩ | ⟨rfl, lu, hu, Vu⟩⟩ := O2
  · exact rmps00 l Z a0 hw ws a1 b kb n cs a2 g1 bu ku zu us rS h0 n0 Z0 E1 Fv Fn Fm Fc Vb E2 Gc Gv Vu hu hn hl hcs hm hus lt lu g_a1 g_b neab (Nat.ne_of_gt (Nat.lt_of_lt_of_le la y1)) (Nat.ne_of_gt (Nat.lt_of_lt_of_le lb y1)) (Nat.ne_of_lt (Nat.lt_of_lt_of_le la y2)) (Nat.ne_of_lt (Nat.lt_of_lt_of_le lb y2)) SC hg1 SA SHI SLO SF hrS
  · exact rmps01 l Z a0 hw ws a1 b kb n cs a2 g1 bu ku zu us rS h0 n0 Z0 E1 Fv Fn Fm Fc Vb E2 Gc Gv Vu hu hn hl hcs hm hus lt lu g_a1 g_b neab (Nat.ne_of_gt (Nat.lt_of_lt_of_le la y1)) (Nat.ne_of_gt (Nat.lt_of_lt_of_le lb y1)) (Nat.ne_of_lt (Nat.lt_of_lt_of_le la y2)) (Nat.ne_of_lt (Nat.lt_of_lt_of_le lb y2)) SC hg1 SA SHI SLO SF hrS
  · exact rmps10 l Z a0 hw ws a1 b kb n cs a2 g1 bu ku zu us rS h0 n0 Z0 E1 Fv Fn Fm Fc Vb E2 Gc Gv Vu hu hn hl hcs hm hus lt lu g_a1 g_b neab (Nat.ne_of_gt (Nat.lt_of_lt_of_le la y1)) (Nat.ne_of_gt (Nat.lt_of_lt_of_le lb y1)) (Nat.ne_of_lt (Nat.lt_of_lt_of_le la y2)) (Nat.ne_of_lt (Nat.lt_of_lt_of_le lb y2)) SC hg1 SA SHI SLO SF hrS
  · exact rmps11 l Z a0 hw ws a1 b kb n cs a2 g1 bu ku zu us rS h0 n0 Z0 E1 Fv Fn Fm Fc Vb E2 Gc Gv Vu hu hn hl hcs hm hus lt lu g_a1 g_b neab (Nat.ne_of_gt (Nat.lt_of_lt_of_le la y1)) (Nat.ne_of_gt (Nat.lt_of_lt_of_le lb y1)) (Nat.ne_of_lt (Nat.lt_of_lt_of_le la y2)) (Nat.ne_of_lt (Nat.lt_of_lt_of_le lb y2)) SC hg1 SA SHI SLO SF hrS
def Qap (Z : State) (a1 b : Addr) (cs : List Int32) (h0 : Heap) (n0 : Nat) (v : Option Value) (h : Heap) (L : List Loc) : Prop := v = some (.ref a1) ∧ Fr n0 L ∧ Keep h0 h [a1, b] ∧ ∃ b' : Addr, (b = b' ∨ h0.size ≤ b') ∧ own_B Z h a1 b' cs
abbrev mN_34 : MethodName := ⟨"java/lang/AbstractStringBuilder", "append", "(Ljava/lang/String;)Ljava/lang/AbstractStringBuilder;"⟩
theorem pd_18 : parseMethodDescriptor "(I)V" = some ⟨[.int], none⟩ := by decide +kernel
theorem pd_19 : parseMethodDescriptor "(ILjava/lang/String;)V" = some ⟨[.int, (.object "java/lang/String")], none⟩ := by decide +kernel
theorem d18_0 : decode c_34 0 = .ok (.aload_n 1, 1) := by decide +kernel
theorem d18_1 : decode c_34 1 = .ok (.ifnonnull 8, 3) := by decide +kernel
theorem d18_9 : decode c_34 9 = .ok (.aload_n 1, 1) := by decide +kernel
theorem d18_10 : decode c_34 10 = .ok (.invokevirtual 32, 3) := by decide +kernel
theorem d18_13 : decode c_34 13 = .ok (.istore_n 2, 1) := by decide +kernel
theorem d18_14 : decode c_34 14 = .ok (.aload_n 0, 1) := by decide +kernel
theorem d18_15 : decode c_34 15 = .ok (.aload_n 0, 1) := by decide +kernel
theorem d18_16 : decode c_34 16 = .ok (.getfield 79, 3) := by decide +kernel
theorem d18_19 : decode c_34 19 = .ok (.iload_n 2, 1) := by decide +kernel
theorem d18_20 : decode c_34 20 = .ok (.iadd, 1) := by decide +kernel
theorem d18_21 : decode c_34 21 = .ok (.invokevirtual 100, 3) := by decide +kernel
theorem d18_24 : decode c_34 24 = .ok (.aload_n 0, 1) := by decide +kernel
theorem d18_25 : decode c_34 25 = .ok (.aload_n 0, 1) := by decide +kernel
theorem d18_26 : decode c_34 26 = .ok (.getfield 79, 3) := by decide +kernel
theorem d18_29 : decode c_34 29 = .ok (.aload_n 1, 1) := by decide +kernel
theorem d18_30 : decode c_34 30 = .ok (.invokevirtual 208, 3) := by decide +kernel
theorem d18_33 : decode c_34 33 = .ok (.aload_n 0, 1) := by decide +kernel
theorem d18_34 : decode c_34 34 = .ok (.dup, 1) := by decide +kernel
theorem d18_35 : decode c_34 35 = .ok (.getfield 79, 3) := by decide +kernel
theorem d18_38 : decode c_34 38 = .ok (.iload_n 2, 1) := by decide +kernel
theorem d18_39 : decode c_34 39 = .ok (.iadd, 1) := by decide +kernel
theorem d18_40 : decode c_34 40 = .ok (.putfield 79, 3) := by decide +kernel
theorem d18_43 : decode c_34 43 = .ok (.aload_n 0, 1) := by decide +kernel
theorem d18_44 : decode c_34 44 = .ok (.areturn, 1) := by decide +kernel
theorem ef_as (m : MethodId) (x0 : Addr) (x1 : Addr) : entryFrame m #[(.ref x0), (.ref x1)] 3 = mkF m 0 #[.val (.ref x0), .val (.ref x1), .unset] [] := by first | (simp [entryFrame, mkF, argsToLocals, Value.category]; done) | rfl
theorem rmas (l : Launch) (Z : State) (a0 : Array Value) (hw : ∀ d ∈ tables_1, d.before a0 Z = true) (ws : List Jvm.Cond) (a1 b : Addr) (n : Int32) (cs : List Int32) (a2 : Addr) (us : List Int32) (n1 : Nat) (g1 : Int32) (rS : Value) (h0 : Heap) (n0 : Nat) (Z0 : n0 ≤ h0.size) (E1 : Exa Z h0 a1 "java/lang/StringBuilder") (Fv : Fld Z h0 a1 "java/lang/AbstractStringBuilder" "value" "[B" (.ref b)) (Fn : Fld Z h0 a1 "java/lang/AbstractStringBuilder" "count" "I" (.int n)) (Fm : Fld Z h0 a1 "java/lang/AbstractStringBuilder" "maybeLatin1" "Z" (.int 0)) (C1 : own_C Z h0 a1 b cs) (O2 : own_S2 Z h0 n1 a2 us) (hn : n.toInt = cs.length) (hcs : own_chs cs) (hm : cs.length + us.length ≤ 16) (hus : own_chs us) (g_a1 : n0 ≤ a1) (g_b : n0 ≤ b) (neab : a1 ≠ b) (y1 : n1 ≤ a1) (y2 : n1 ≤ b) (hn1 : n1 ≤ h0.size) (SC : Sta Z h0 "java/lang/String" "COMPACT_STRINGS" "Z" (.int g1)) (hg1 : ¬ (g1 = (0 : Int32))) (SA : Sta Z h0 "java/lang/StringUTF16" "$assertionsDisabled" "Z" (.int 1)) (SHI : Sta Z h0 "java/lang/StringUTF16" "HI_BYTE_SHIFT" "I" (.int 0)) (SLO : Sta Z h0 "java/lang/StringUTF16" "LO_BYTE_SHIFT" "I" (.int 8)) (SF : Sta Z h0 "jdk/internal/util/Preconditions" "SIOOBE_FORMATTER" "Ljava/util/function/BiFunction;" rS) (hrS : rS.isRef = true) : own_M l mN_34 jdk_68_method_22_code 3 (some (.object "java/lang/AbstractStringBuilder")) ws ({ frames := 8, cells := 1, slots := 32, locals := 116 } : Room) Z h0 #[(.ref a1), (.ref a2)] (Qap Z a1 b (cs ++ us) h0 n0) := by
  refine own_go #[.val (.ref a1), .val (.ref a2), .unset] (plainFor_of_name pn_1) (fun m => ef_as m a1 a2) ?_
  intro p e s m below meth c s₁ hx hby hml hown hnm hlk X0 e0 hZ hrt
  have N0 := Fr.nil n0
  have KK := Keep.refl h0 [a1, b]
  have E2 := own_S2exa O2
  refine own_aloadN X0 hx hby d18_0 rfl rfl ?_
  refine own_ifnonnullYes X0 hx hby 1 9 d18_1 (by decide) (by decide) ?_
  refine own_aloadN X0 hx hby d18_9 rfl rfl ?_
  obtain ⟨cq174, kq174, q174a, q174b, q174c⟩ := isOf hZ e0 E2
  obtain ⟨_, _, ⟨T174, L174, k174, n174⟩, -, X174, ⟨Lc174, hQ174, l174, y174, z174⟩, st174⟩ := X0.virtualBack hx (y := mN_2) (z := mN_2) hown (oV hZ hw 86 rfl) (oV hZ hw 87 rfl) (notFace_of_selects (args := #[]) (oV hZ hw 89 rfl)) (oV hZ hw 89 rfl) (oV hZ hw 88 rfl) (by decide) (backOf (W := 0) (rmlen l Z a0 hw [] a2 us n1 g1 h0 n0 Z0 O2 SC hg1) hZ (own_w hw 90 rfl) (own_w hw 12 rfl) (by decide) (by decide)) q174a q174c (g := (mkF m 10 #[.val (.ref a1), .val (.ref a2), .unset] [(.ref a2)])) rfl (by rw [hml]; rfl) (Steps.refl _) (argsL := []) (rest := []) (lenOf pd_1 rfl) rfl (by exact oZ rfl) (hb hby d18_10) (fun _ _ => ⟨rfl, e0, (by decide : 0 + 0 ≤ _), (by decide : 0 + 0 ≤ _)⟩)
  dsimp only [Pt.U, Pt.locs, Pt.cells, Pt.slots] at X174 l174 y174 z174 st174 hQ174
  rw [l174, y174, z174] at X174
  obtain ⟨r174, rfl, Nq174, e174, hr174⟩ := hQ174
  have N174 := Fr.app N0 Nq174
  refine own_of (U' := (T174.setTop (mkF m 13 #[.val (.ref a1), .val (.ref a2), .unset] [(.int r174)]))) (fun _ k => st174.trans k) ?_
  refine own_istoreN X174 hx hby d18_13 (l' := #[.val (.ref a1), .val (.ref a2), .val (.int r174)]) rfl ?_
  refine own_aloadN X174 hx hby d18_14 rfl rfl ?_
  refine own_aloadN X174 hx hby d18_15 rfl rfl ?_
  obtain ⟨T175, X175, e175, st175⟩ := getF X174 hx hZ hown (host := "") (Or.inl (own_w hw 96 rfl)) Via.refl e174 Fn (g := (mkF m 16 #[.val (.ref a1), .val (.ref a2), .val (.int r174)] [(.ref a1), (.ref a1)])) rfl rfl (hb hby d18_16)
  refine own_of (U' := (T175.setTop (mkF m 19 #[.val (.ref a1), .val (.ref a2), .val (.int r174)] [(.int n), (.ref a1)]))) (st175) ?_
  refine own_iloadN X175 hx hby d18_19 rfl ?_
  refine own_iadd X175 hx hby d18_20 ?_
  obtain ⟨cq176, q176, q176'⟩ := E1.cell
  obtain ⟨_, _, ⟨T176, L176, k176, n176⟩, -, X176, ⟨Lc176, hQ176, l176, y176, z176⟩, st176⟩ := X175.privateBack hx (y := mN_7) hown (oV hZ hw 98 rfl) (oV hZ hw 99 rfl) (mvT hZ (own_selQ (y := mN_7) (own_w hw 101 rfl) (own_w hw 100 rfl) (own_w hw 99 rfl) (by decide))) (Cond.privateMethod_at (mvP hZ (own_w hw 100 rfl) (args := #[]))) (oV hZ hw 102 rfl) (by decide) (backOf (W := 0) (rmec l Z a0 hw [] a1 (n + r174) b cs h0 n0 Z0 Fv C1 (by rw [own_addI (by omega) (by omega)]; omega) (by rw [own_addI (by omega) (by omega)]; omega)) hZ (own_w hw 102 rfl) (own_w hw 68 rfl) (by decide) (by decide)) (g := (mkF m 21 #[.val (.ref a1), .val (.ref a2), .val (.int r174)] [(.int (n + r174)), (.ref a1)])) rfl (by rw [hml]; rfl) (Steps.refl _) (a := a1) (by rw [e175]; exact q176) q176' (argsL := [(.int (n + r174))]) (rest := []) (lenOf pd_18 rfl) rfl (by exact oZ rfl) (hb hby d18_21) (fun _ _ => ⟨rfl, e175, (by decide : 0 + 0 ≤ _), (by decide : 0 + 0 ≤ _)⟩)
  dsimp only [Pt.U, Pt.locs, Pt.cells, Pt.slots] at X176 l176 y176 z176 st176 hQ176
  rw [l176, y176, z176] at X176
  obtain ⟨rfl, Nq176, e176⟩ := hQ176
  have N176 := Fr.app N174 Nq176
  refine own_of (U' := (T176.setTop (mkF m 24 #[.val (.ref a1), .val (.ref a2), .val (.int r174)] []))) (fun _ k => st176.trans k) ?_
  refine own_aloadN X176 hx hby d18_24 rfl rfl ?_
  refine own_aloadN X176 hx hby d18_25 rfl rfl ?_
  obtain ⟨T177, X177, e177, st177⟩ := getF X176 hx hZ hown (host := "") (Or.inl (own_w hw 96 rfl)) Via.refl e176 Fn (g := (mkF m 26 #[.val (.ref a1), .val (.ref a2), .val (.int r174)] [(.ref a1), (.ref a1)])) rfl rfl (hb hby d18_26)
  refine own_of (U' := (T177.setTop (mkF m 29 #[.val (.ref a1), .val (.ref a2), .val (.int r174)] [(.int n), (.ref a1)]))) (st177) ?_
  refine own_aloadN X177 hx hby d18_29 rfl rfl ?_
  obtain ⟨cq178, q178, q178'⟩ := E1.cell
  obtain ⟨_, _, ⟨T178, L178, k178, n178⟩, -, X178, ⟨Lc178, hQ178, l178, y178, z178⟩, st178⟩ := X177.privateBack hx (y := mN_33) hown (oV hZ hw 103 rfl) (oV hZ hw 104 rfl) (mvT hZ (own_selQ (y := mN_33) (own_w hw 106 rfl) (own_w hw 105 rfl) (own_w hw 104 rfl) (by decide))) (Cond.privateMethod_at (mvP hZ (own_w hw 105 rfl) (args := #[]))) (oV hZ hw 107 rfl) (by decide) (backOf (W := 0) (rmps l Z a0 hw [] a1 b n cs a2 us n1 g1 rS h0 n0 Z0 E1 Fv Fn Fm C1 O2 hn (by omega) hcs hm hus g_a1 g_b neab y1 y2 SC hg1 SA SHI SLO SF hrS) hZ (own_w hw 107 rfl) (own_w hw 68 rfl) (by decide) (by decide)) (g := (mkF m 30 #[.val (.ref a1), .val (.ref a2), .val (.int r174)] [(.ref a2), (.int n), (.ref a1)])) rfl (by rw [hml]; rfl) (Steps.refl _) (a := a1) (by rw [e177]; exact q178) q178' (argsL := [(.int n), (.ref a2)]) (rest := []) (lenOf pd_19 rfl) rfl (by exact oZ rfl) (hb hby d18_30) (fun _ _ => ⟨rfl, e177, (by decide : 0 + 1 ≤ _), (by decide : 0 + 32 ≤ _)⟩)
  dsimp only [Pt.U, Pt.locs, Pt.cells, Pt.slots] at X178 l178 y178 z178 st178 hQ178
  rw [l178, y178, z178] at X178
  obtain ⟨rfl, Nq178, Kp178, u178, ho178, Fv178, Fn178, Fm178, Cq178⟩ := hQ178
  have ne_a1_u178 : a1 ≠ u178 := own_neor ho178 neab E1.lt
  have g_u178 : n0 ≤ u178 := ho178.elim (fun q => by rw [← q]; exact g_b) (fun q => nT Z0 q)
  have mk_u178 : u178 ∈ ([a1, b] : List Addr) ∨ h0.size ≤ u178 := ho178.elim (fun q => by rw [← q]; exact (Or.inl (List.mem_of_getElem? (i := 1) rfl))) (fun q => Or.inr (nT KK.1 q))
  have yy_u178 : n1 ≤ u178 := ho178.elim (fun q => by rw [← q]; exact y2) (fun q => nT hn1 q)
  have N178 := Fr.app N176 Nq178
  have nst_a1 := E1.nostat
  have nst_b := own_Cnostat C1
  replace O2 := own_S2keep O2 Kp178 (allS y1 (allS y2 all0))
  replace Z0 := nT Z0 Kp178.1
  replace E1 := E1.keep Kp178
  replace E2 := E2.keep Kp178
  replace SC := own_staKeep SC Kp178 (nsS nst_a1 (nsS nst_b ns0))
  replace SA := own_staKeep SA Kp178 (nsS nst_a1 (nsS nst_b ns0))
  replace SHI := own_staKeep SHI Kp178 (nsS nst_a1 (nsS nst_b ns0))
  replace SLO := own_staKeep SLO Kp178 (nsS nst_a1 (nsS nst_b ns0))
  replace SF := own_staKeep SF Kp178 (nsS nst_a1 (nsS nst_b ns0))
  replace KK := KK.trans Kp178 (allS (Or.inl (List.mem_of_getElem? (i := 0) rfl)) (allS (Or.inl (List.mem_of_getElem? (i := 1) rfl)) all0))
  refine own_of (U' := (T178.setTop (mkF m 33 #[.val (.ref a1), .val (.ref a2), .val (.int r174)] []))) (fun _ k => st178.trans k) ?_
  refine own_aloadN X178 hx hby d18_33 rfl rfl ?_
  refine own_dup X178 hx hby d18_34 rfl ?_
  obtain ⟨T179, X179, e179, st179⟩ := getF X178 hx hZ hown (host := "") (Or.inl (own_w hw 96 rfl)) Via.refl rfl Fn178 (g := (mkF m 35 #[.val (.ref a1), .val (.ref a2), .val (.int r174)] [(.ref a1), (.ref a1)])) rfl rfl (hb hby d18_35)
  refine own_of (U' := (T179.setTop (mkF m 38 #[.val (.ref a1), .val (.ref a2), .val (.int r174)] [(.int n), (.ref a1)]))) (st179) ?_
  refine own_iloadN X179 hx hby d18_38 rfl ?_
  refine own_iadd X179 hx hby d18_39 ?_
  obtain ⟨T180, h180, X180, e180, W180, st180⟩ := putF X179 hx hZ hown (host := "") (Or.inl (own_w hw 96 rfl)) Via.refl e179 Fn178 E1 (Or.inl (own_w hw 97 rfl)) (own_w hw 59 rfl) (ty := .int) (by decide) rfl rfl (g := (mkF m 40 #[.val (.ref a1), .val (.ref a2), .val (.int r174)] [(.int (n + r174)), (.ref a1)])) rfl rfl (hb hby d18_40)
  replace O2 := own_S2keep O2 (Keep.of_wr W180) (allS y1 all0)
  replace Z0 := nT Z0 (Keep.of_wr W180).1
  replace E1 := E1.wr W180
  replace E2 := E2.wr W180
  replace SC := SC.wr W180
  replace SA := SA.wr W180
  replace SHI := SHI.wr W180
  replace SLO := SLO.wr W180
  replace SF := SF.wr W180
  replace KK := KK.wr W180 (Or.inl (List.mem_of_getElem? (i := 0) rfl))
  replace Fv178 := Fv178.other W180 (Or.inr (slot_ne (Or.inl (own_w hw 73 rfl)) (Or.inl (own_w hw 97 rfl)) (by decide) (t := (.array .byte)) (t' := .int) (by decide) (by decide)))
  replace Fn178 := Fn178.same W180
  replace Fm178 := Fm178.other W180 (Or.inr (slot_ne (Or.inl (own_w hw 296 rfl)) (Or.inl (own_w hw 97 rfl)) (by decide) (t := .boolean) (t' := .int) (by decide) (by decide)))
  have N180 := Fr.snoc X180 N178 g_a1
  refine own_of (U' := (T180.setTop (mkF m 43 #[.val (.ref a1), .val (.ref a2), .val (.int r174)] []))) (st180) ?_
  replace Cq178 := own_Cwr Cq178 W180 (fun v0 F => F.other W180 (Or.inr (slot_ne (Or.inl (own_w hw 75 rfl)) (Or.inl (own_w hw 97 rfl)) (by decide) (t := .byte) (t' := .int) (by decide) (by decide)))) (Ne.symm ne_a1_u178)
  refine own_aloadN X180 hx hby d18_43 rfl rfl ?_
  exact own_retA X180 hx hlk hrt rfl rfl (hb hby d18_44) (by decide) (by decide) (by rw [e180]; exact ⟨rfl, N180, KK, u178, ho178, (n + r174), E1, Fv178, Fn178, Fm178, Cq178, (by rw [own_addI (by omega) (by omega), List.length_append]; omega), own_chsapp hcs hus⟩)
abbrev mN_35 : MethodName := ⟨"java/lang/StringBuilder", "append", "(Ljava/lang/String;)Ljava/lang/StringBuilder;"⟩
theorem pd_20 : parseMethodDescriptor "(Ljava/lang/String;)Ljava/lang/AbstractStringBuilder;" = some ⟨[(.object "java/lang/String")], some (.object "java/lang/AbstractStringBuilder")⟩ := by decide +kernel
theorem d17_0 : decode c_35 0 = .ok (.aload_n 0, 1) := by decide +kernel
theorem d17_1 : decode c_35 1 = .ok (.aload_n 1, 1) := by decide +kernel
theorem d17_2 : decode c_35 2 = .ok (.invokespecial 29, 3) := by decide +kernel
theorem d17_5 : decode c_35 5 = .ok (.pop, 1) := by decide +kernel
theorem d17_6 : decode c_35 6 = .ok (.aload_n 0, 1) := by decide +kernel
theorem d17_7 : decode c_35 7 = .ok (.areturn, 1) := by decide +kernel
theorem ef_sa (m : MethodId) (x0 : Addr) (x1 : Addr) : entryFrame m #[(.ref x0), (.ref x1)] 2 = mkF m 0 #[.val (.ref x0), .val (.ref x1)] [] := by first | (simp [entryFrame, mkF, argsToLocals, Value.category]; done) | rfl
theorem rmsa (l : Launch) (Z : State) (a0 : Array Value) (hw : ∀ d ∈ tables_1, d.before a0 Z = true) (ws : List Jvm.Cond) (a1 b : Addr) (cs : List Int32) (a2 : Addr) (us : List Int32) (n1 : Nat) (g1 : Int32) (rS : Value) (h0 : Heap) (n0 : Nat) (Z0 : n0 ≤ h0.size) (B1 : own_B Z h0 a1 b cs) (O2 : own_S2 Z h0 n1 a2 us) (hm : cs.length + us.length ≤ 16) (hus : own_chs us) (g_a1 : n0 ≤ a1) (g_b : n0 ≤ b) (neab : a1 ≠ b) (y1 : n1 ≤ a1) (y2 : n1 ≤ b) (hn1 : n1 ≤ h0.size) (SC : Sta Z h0 "java/lang/String" "COMPACT_STRINGS" "Z" (.int g1)) (hg1 : ¬ (g1 = (0 : Int32))) (SA : Sta Z h0 "java/lang/StringUTF16" "$assertionsDisabled" "Z" (.int 1)) (SHI : Sta Z h0 "java/lang/StringUTF16" "HI_BYTE_SHIFT" "I" (.int 0)) (SLO : Sta Z h0 "java/lang/StringUTF16" "LO_BYTE_SHIFT" "I" (.int 8)) (SF : Sta Z h0 "jdk/internal/util/Preconditions" "SIOOBE_FORMATTER" "Ljava/util/function/BiFunction;" rS) (hrS : rS.isRef = true) : own_M l mN_35 jdk_67_method_7_code 2 (some (.object "java/lang/StringBuilder")) ws ({ frames := 9, cells := 1, slots := 32, locals := 130 } : Room) Z h0 #[(.ref a1), (.ref a2)] (Qap Z a1 b (cs ++ us) h0 n0) := by
  refine own_go #[.val (.ref a1), .val (.ref a2)] (plainFor_of_name pn_2) (fun m => ef_sa m a1 a2) ?_
  intro p e s m below meth c s₁ hx hby hml hown hnm hlk X0 e0 hZ hrt
  have N0 := Fr.nil n0
  have KK := Keep.refl h0 [a1, b]
  obtain ⟨n, E1, Fv, Fn, Fm, C1, hn, hcs⟩ := B1
  refine own_aloadN X0 hx hby d17_0 rfl rfl ?_
  refine own_aloadN X0 hx hby d17_1 rfl rfl ?_
  obtain ⟨_, _, ⟨T181, L181, k181, n181⟩, -, X181, ⟨Lc181, hQ181, l181, y181, z181⟩, st181⟩ := superBack X0 hx hZ (y := mN_34) hown (own_w hw 81 rfl) (own_sameM (y := mN_34) (w := mN_7) (own_w hw 84 rfl) (own_w hw 101 rfl) rfl (by decide)) (own_w hw 82 rfl) (own_w hw 83 rfl) (by decide) (backOf (W := 0) (rmas l Z a0 hw [] a1 b n cs a2 us n1 g1 rS h0 n0 Z0 E1 Fv Fn Fm C1 O2 hn hcs hm hus g_a1 g_b neab y1 y2 hn1 SC hg1 SA SHI SLO SF hrS) hZ (own_w hw 85 rfl) (own_w hw 68 rfl) (by decide) (by decide)) e0 (Ins.self E1) (g := (mkF m 2 #[.val (.ref a1), .val (.ref a2)] [(.ref a2), (.ref a1)])) rfl (by rw [hml]; rfl) (own_w hw 85 rfl) (argsL := [(.ref a2)]) (rest := []) (lenOf pd_20 rfl) rfl (by exact oZ rfl) (hb hby d17_2) (fun _ _ => ⟨rfl, e0, (by decide : 0 + 1 ≤ _), (by decide : 0 + 32 ≤ _)⟩)
  dsimp only [Pt.U, Pt.locs, Pt.cells, Pt.slots] at X181 l181 y181 z181 st181 hQ181
  rw [l181, y181, z181] at X181
  obtain ⟨rfl, Nq181, Kp181, u181, ho181, Bq181⟩ := hQ181
  have ne_a1_u181 : a1 ≠ u181 := own_neor ho181 neab E1.lt
  have g_u181 : n0 ≤ u181 := ho181.elim (fun q => by rw [← q]; exact g_b) (fun q => nT Z0 q)
  have mk_u181 : u181 ∈ ([a1, b] : List Addr) ∨ h0.size ≤ u181 := ho181.elim (fun q => by rw [← q]; exact (Or.inl (List.mem_of_getElem? (i := 1) rfl))) (fun q => Or.inr (nT KK.1 q))
  have yy_u181 : n1 ≤ u181 := ho181.elim (fun q => by rw [← q]; exact y2) (fun q => nT hn1 q)
  have N181 := Fr.app N0 Nq181
  have nst_a1 := E1.nostat
  have nst_b := own_Cnostat C1
  replace O2 := own_S2keep O2 Kp181 (allS y1 (allS y2 all0))
  replace Z0 := nT Z0 Kp181.1
  replace E1 := E1.keep Kp181
  replace SC := own_staKeep SC Kp181 (nsS nst_a1 (nsS nst_b ns0))
  replace SA := own_staKeep SA Kp181 (nsS nst_a1 (nsS nst_b ns0))
  replace SHI := own_staKeep SHI Kp181 (nsS nst_a1 (nsS nst_b ns0))
  replace SLO := own_staKeep SLO Kp181 (nsS nst_a1 (nsS nst_b ns0))
  replace SF := own_staKeep SF Kp181 (nsS nst_a1 (nsS nst_b ns0))
  replace KK := KK.trans Kp181 (allS (Or.inl (List.mem_of_getElem? (i := 0) rfl)) (allS (Or.inl (List.mem_of_getElem? (i := 1) rfl)) all0))
  have Eb181 := own_Bexa Bq181
  refine own_of (U' := (T181.setTop (mkF m 5 #[.val (.ref a1), .val (.ref a2)] [(.ref a1)]))) (fun _ k => st181.trans k) ?_
  refine own_pop X181 hx hby d17_5 rfl ?_
  refine own_aloadN X181 hx hby d17_6 rfl rfl ?_
  exact own_retA X181 hx hlk hrt rfl rfl (hb hby d17_7) (by decide) (by decide) (⟨rfl, N181, KK, u181, ho181, Bq181⟩)
theorem own_lat58 : own_lat [58] := fun c hc => by rw [List.mem_singleton.mp hc]; decide
theorem own_chs58 : own_chs [58] := fun c hc => by rw [List.mem_singleton.mp hc]; decide
abbrev mN_36 : MethodName := ⟨"java/lang/AbstractStringBuilder", "append", "(C)Ljava/lang/AbstractStringBuilder;"⟩
theorem pd_21 : parseMethodDescriptor "(C)Z" = some ⟨[.char], some .boolean⟩ := by decide +kernel
theorem d26_0 : decode c_36 0 = .ok (.aload_n 0, 1) := by decide +kernel
theorem d26_1 : decode c_36 1 = .ok (.aload_n 0, 1) := by decide +kernel
theorem d26_2 : decode c_36 2 = .ok (.getfield 79, 3) := by decide +kernel
theorem d26_5 : decode c_36 5 = .ok (.iconst 1, 1) := by decide +kernel
theorem d26_6 : decode c_36 6 = .ok (.iadd, 1) := by decide +kernel
theorem d26_7 : decode c_36 7 = .ok (.invokevirtual 100, 3) := by decide +kernel
theorem d26_10 : decode c_36 10 = .ok (.aload_n 0, 1) := by decide +kernel
theorem d26_11 : decode c_36 11 = .ok (.invokevirtual 83, 3) := by decide +kernel
theorem d26_14 : decode c_36 14 = .ok (.ifCond .eq 31, 3) := by decide +kernel
theorem d26_17 : decode c_36 17 = .ok (.iload_n 1, 1) := by decide +kernel
theorem d26_18 : decode c_36 18 = .ok (.invokestatic 191, 3) := by decide +kernel
theorem d26_21 : decode c_36 21 = .ok (.ifCond .eq 24, 3) := by decide +kernel
theorem d26_24 : decode c_36 24 = .ok (.aload_n 0, 1) := by decide +kernel
theorem d26_25 : decode c_36 25 = .ok (.getfield 15, 3) := by decide +kernel
theorem d26_28 : decode c_36 28 = .ok (.aload_n 0, 1) := by decide +kernel
theorem d26_29 : decode c_36 29 = .ok (.dup, 1) := by decide +kernel
theorem d26_30 : decode c_36 30 = .ok (.getfield 79, 3) := by decide +kernel
theorem d26_33 : decode c_36 33 = .ok (.dup_x1, 1) := by decide +kernel
theorem d26_34 : decode c_36 34 = .ok (.iconst 1, 1) := by decide +kernel
theorem d26_35 : decode c_36 35 = .ok (.iadd, 1) := by decide +kernel
theorem d26_36 : decode c_36 36 = .ok (.putfield 79, 3) := by decide +kernel
theorem d26_39 : decode c_36 39 = .ok (.iload_n 1, 1) := by decide +kernel
theorem d26_40 : decode c_36 40 = .ok (.i2b, 1) := by decide +kernel
theorem d26_41 : decode c_36 41 = .ok (.bastore, 1) := by decide +kernel
theorem d26_42 : decode c_36 42 = .ok (.goto 33, 3) := by decide +kernel
theorem d26_75 : decode c_36 75 = .ok (.aload_n 0, 1) := by decide +kernel
theorem d26_76 : decode c_36 76 = .ok (.areturn, 1) := by decide +kernel
theorem ef_ac0 (m : MethodId) (x0 : Addr) : entryFrame m #[(.ref x0), (.int 58)] 2 = mkF m 0 #[.val (.ref x0), .val (.int 58)] [] := by first | (simp [entryFrame, mkF, argsToLocals, Value.category]; done) | rfl
theorem rmac0 (l : Launch) (Z : State) (a0 : Array Value) (hw : ∀ d ∈ tables_1, d.before a0 Z = true) (ws : List Jvm.Cond) (a1 b : Addr) (kb : ClassId) (n : Int32) (cs : List Int32) (g1 : Int32) (rS : Value) (h0 : Heap) (n0 : Nat) (Z0 : n0 ≤ h0.size) (E1 : Exa Z h0 a1 "java/lang/StringBuilder") (Fv : Fld Z h0 a1 "java/lang/AbstractStringBuilder" "value" "[B" (.ref b)) (Fn : Fld Z h0 a1 "java/lang/AbstractStringBuilder" "count" "I" (.int n)) (Fm : Fld Z h0 a1 "java/lang/AbstractStringBuilder" "maybeLatin1" "Z" (.int 0)) (Fc : Fld Z h0 a1 "java/lang/AbstractStringBuilder" "coder" "B" (.int 0)) (Vb : Arv Z h0 b kb .byte (16 : Int32) (List.map Value.int (List.map own_b8 cs)) (.int 0)) (hn : n.toInt = cs.length) (hcs : own_chs cs) (hm : cs.length + 1 ≤ 16) (lt : own_lat cs) (g_a1 : n0 ≤ a1) (g_b : n0 ≤ b) (neab : a1 ≠ b) (SC : Sta Z h0 "java/lang/String" "COMPACT_STRINGS" "Z" (.int g1)) (hg1 : ¬ (g1 = (0 : Int32))) (SA : Sta Z h0 "java/lang/StringUTF16" "$assertionsDisabled" "Z" (.int 1)) (SHI : Sta Z h0 "java/lang/StringUTF16" "HI_BYTE_SHIFT" "I" (.int 0)) (SLO : Sta Z h0 "java/lang/StringUTF16" "LO_BYTE_SHIFT" "I" (.int 8)) (SF : Sta Z h0 "jdk/internal/util/Preconditions" "SIOOBE_FORMATTER" "Ljava/util/function/BiFunction;" rS) (hrS : rS.isRef = true) : own_M l mN_36 jdk_68_method_31_code 2 (some (.object "java/lang/AbstractStringBuilder")) ws ({ frames := 4, cells := 0, slots := 0, locals := 54 } : Room) Z h0 #[(.ref a1), (.int 58)] (Qap Z a1 b (cs ++ [58]) h0 n0) := by
  refine own_go #[.val (.ref a1), .val (.int 58)] (plainFor_of_name pn_1) (fun m => ef_ac0 m a1) ?_
  intro p e s m below meth c s₁ hx hby hml hown hnm hlk X0 e0 hZ hrt
  have N0 := Fr.nil n0
  have KK := Keep.refl h0 [a1, b]
  refine own_aloadN X0 hx hby d26_0 rfl rfl ?_
  refine own_aloadN X0 hx hby d26_1 rfl rfl ?_
  obtain ⟨T182, X182, e182, st182⟩ := getF X0 hx hZ hown (host := "") (Or.inl (own_w hw 96 rfl)) Via.refl e0 Fn (g := (mkF m 2 #[.val (.ref a1), .val (.int 58)] [(.ref a1), (.ref a1)])) rfl rfl (hb hby d26_2)
  refine own_of (U' := (T182.setTop (mkF m 5 #[.val (.ref a1), .val (.int 58)] [(.int n), (.ref a1)]))) (st182) ?_
  refine own_iconst X182 hx hby 1 d26_5 rfl ?_
  refine own_iadd X182 hx hby d26_6 ?_
  obtain ⟨cq183, q183, q183'⟩ := E1.cell
  obtain ⟨_, _, ⟨T183, L183, k183, n183⟩, -, X183, ⟨Lc183, hQ183, l183, y183, z183⟩, st183⟩ := X182.privateBack hx (y := mN_7) hown (oV hZ hw 98 rfl) (oV hZ hw 99 rfl) (mvT hZ (own_selQ (y := mN_7) (own_w hw 101 rfl) (own_w hw 100 rfl) (own_w hw 99 rfl) (by decide))) (Cond.privateMethod_at (mvP hZ (own_w hw 100 rfl) (args := #[]))) (oV hZ hw 102 rfl) (by decide) (backOf (W := 0) (rmec0 l Z a0 hw [] a1 (n + (1 : Int32)) b kb cs h0 n0 Z0 Fv Fc Vb (by rw [own_inc hn (by omega)]; omega) (by rw [own_inc hn (by omega)]; omega)) hZ (own_w hw 102 rfl) (own_w hw 68 rfl) (by decide) (by decide)) (g := (mkF m 7 #[.val (.ref a1), .val (.int 58)] [(.int (n + (1 : Int32))), (.ref a1)])) rfl (by rw [hml]; rfl) (Steps.refl _) (a := a1) (by rw [e182]; exact q183) q183' (argsL := [(.int (n + (1 : Int32)))]) (rest := []) (lenOf pd_18 rfl) rfl (by exact oZ rfl) (hb hby d26_7) (fun _ _ => ⟨rfl, e182, (by decide : 0 + 0 ≤ _), (by decide : 0 + 0 ≤ _)⟩)
  dsimp only [Pt.U, Pt.locs, Pt.cells, Pt.slots] at X183 l183 y183 z183 st183 hQ183
  rw [l183, y183, z183] at X183
  obtain ⟨rfl, Nq183, e183⟩ := hQ183
  have N183 := Fr.app N0 Nq183
  refine own_of (U' := (T183.setTop (mkF m 10 #[.val (.ref a1), .val (.int 58)] []))) (fun _ k => st183.trans k) ?_
  refine own_aloadN X183 hx hby d26_10 rfl rfl ?_
  obtain ⟨cq184, kq184, q184a, q184b, q184c⟩ := isOf hZ e183 E1
  obtain ⟨_, _, ⟨T184, L184, k184, n184⟩, -, X184, ⟨Lc184, hQ184, l184, y184, z184⟩, st184⟩ := X183.virtualBack hx (y := mN_3) (z := mN_3) hown (oV hZ hw 132 rfl) (oV hZ hw 133 rfl) (notFace_of_selects (args := #[]) (oV hZ hw 135 rfl)) (oV hZ hw 135 rfl) (oV hZ hw 134 rfl) (by decide) (backOf (W := 0) (rmab0 l Z a0 hw [] a1 g1 h0 n0 Z0 Fc SC hg1) hZ (own_w hw 136 rfl) (own_w hw 68 rfl) (by decide) (by decide)) q184a q184c (g := (mkF m 11 #[.val (.ref a1), .val (.int 58)] [(.ref a1)])) rfl (by rw [hml]; rfl) (Steps.refl _) (argsL := []) (rest := []) (lenOf pd_13 rfl) rfl (by exact oZ rfl) (hb hby d26_11) (fun _ _ => ⟨rfl, e183, (by decide : 0 + 0 ≤ _), (by decide : 0 + 0 ≤ _)⟩)
  dsimp only [Pt.U, Pt.locs, Pt.cells, Pt.slots] at X184 l184 y184 z184 st184 hQ184
  rw [l184, y184, z184] at X184
  obtain ⟨rfl, Nq184, e184⟩ := hQ184
  have N184 := Fr.app N183 Nq184
  refine own_of (U' := (T184.setTop (mkF m 14 #[.val (.ref a1), .val (.int 58)] [(.int 1)]))) (fun _ k => st184.trans k) ?_
  have hc14_185 : ¬ ((1 : Int32) = (0 : Int32)) := by decide
  refine own_ifNo X184 hx hby d26_14 ((if0 _ _).trans (feq hc14_185).1) ?_
  refine own_iloadN X184 hx hby d26_17 rfl ?_
  obtain ⟨_, _, ⟨T186, L186, k186, n186⟩, -, X186, ⟨Lc186, hQ186, l186, y186, z186⟩, st186⟩ := Jvm.LawKit.callS X184 hx (y := mN_21) hown (oV hZ hw 137 rfl) (oV hZ hw 44 rfl) (oV hZ hw 45 rfl) (oV hZ hw 46 rfl) (by decide) (backOf (W := 0) (rmce0 l Z a0 hw [] (58 : Int32) h0 n0 Z0 (by decide)) hZ (own_w hw 46 rfl) (own_w hw 45 rfl) (by decide) (by decide)) (g := (mkF m 18 #[.val (.ref a1), .val (.int 58)] [(.int 58)])) rfl (by rw [hml]; rfl) (argsL := [(.int 58)]) (rest := []) (lenOf pd_21 rfl) rfl (by exact oZ rfl) (hb hby d26_18) (fun _ _ => ⟨rfl, e184, (by decide : 0 + 0 ≤ _), (by decide : 0 + 0 ≤ _)⟩)
  dsimp only [Pt.U, Pt.locs, Pt.cells, Pt.slots] at X186 l186 y186 z186 st186 hQ186
  rw [l186, y186, z186] at X186
  obtain ⟨rfl, Nq186, e186⟩ := hQ186
  have N186 := Fr.app N184 Nq186
  refine own_of (U' := (T186.setTop (mkF m 21 #[.val (.ref a1), .val (.int 58)] [(.int 1)]))) (st186) ?_
  have hc21_187 : ¬ ((1 : Int32) = (0 : Int32)) := by decide
  refine own_ifNo X186 hx hby d26_21 ((if0 _ _).trans (feq hc21_187).1) ?_
  replace Vb := Arv.pad Vb (own_padk (List.map own_b8 cs) 1)
  replace Vb : Arv Z h0 b kb .byte (16 : Int32) (List.map Value.int (List.map own_b8 cs ++ [(0 : Int32)])) (.int 0) := Vb
  refine own_aloadN X186 hx hby d26_24 rfl rfl ?_
  obtain ⟨T188, X188, e188, st188⟩ := getF X186 hx hZ hown (host := "") (Or.inl (own_w hw 72 rfl)) Via.refl e186 Fv (g := (mkF m 25 #[.val (.ref a1), .val (.int 58)] [(.ref a1)])) rfl rfl (hb hby d26_25)
  refine own_of (U' := (T188.setTop (mkF m 28 #[.val (.ref a1), .val (.int 58)] [(.ref b)]))) (st188) ?_
  refine own_aloadN X188 hx hby d26_28 rfl rfl ?_
  refine own_dup X188 hx hby d26_29 rfl ?_
  obtain ⟨T189, X189, e189, st189⟩ := getF X188 hx hZ hown (host := "") (Or.inl (own_w hw 96 rfl)) Via.refl e188 Fn (g := (mkF m 30 #[.val (.ref a1), .val (.int 58)] [(.ref a1), (.ref a1), (.ref b)])) rfl rfl (hb hby d26_30)
  refine own_of (U' := (T189.setTop (mkF m 33 #[.val (.ref a1), .val (.int 58)] [(.int n), (.ref a1), (.ref b)]))) (st189) ?_
  refine own_dupX1 X189 hx hby d26_33 rfl rfl ?_
  refine own_iconst X189 hx hby 1 d26_34 rfl ?_
  refine own_iadd X189 hx hby d26_35 ?_
  obtain ⟨T190, h190, X190, e190, W190, st190⟩ := putF X189 hx hZ hown (host := "") (Or.inl (own_w hw 96 rfl)) Via.refl e189 Fn E1 (Or.inl (own_w hw 97 rfl)) (own_w hw 59 rfl) (ty := .int) (by decide) rfl rfl (g := (mkF m 36 #[.val (.ref a1), .val (.int 58)] [(.int (n + (1 : Int32))), (.ref a1), (.int n), (.ref b)])) rfl rfl (hb hby d26_36)
  replace Z0 := nT Z0 (Keep.of_wr W190).1
  replace E1 := E1.wr W190
  replace Fv := Fv.other W190 (Or.inr (slot_ne (Or.inl (own_w hw 73 rfl)) (Or.inl (own_w hw 97 rfl)) (by decide) (t := (.array .byte)) (t' := .int) (by decide) (by decide)))
  replace Fn := Fn.same W190
  replace Fm := Fm.other W190 (Or.inr (slot_ne (Or.inl (own_w hw 296 rfl)) (Or.inl (own_w hw 97 rfl)) (by decide) (t := .boolean) (t' := .int) (by decide) (by decide)))
  replace Fc := Fc.other W190 (Or.inr (slot_ne (Or.inl (own_w hw 75 rfl)) (Or.inl (own_w hw 97 rfl)) (by decide) (t := .byte) (t' := .int) (by decide) (by decide)))
  replace Vb := Vb.other W190 (Ne.symm neab)
  replace SC := SC.wr W190
  replace SA := SA.wr W190
  replace SHI := SHI.wr W190
  replace SLO := SLO.wr W190
  replace SF := SF.wr W190
  replace KK := KK.wr W190 (Or.inl (List.mem_of_getElem? (i := 0) rfl))
  have N190 := Fr.snoc X190 N186 g_a1
  refine own_of (U' := (T190.setTop (mkF m 39 #[.val (.ref a1), .val (.int 58)] [(.int n), (.ref b)]))) (st190) ?_
  refine own_iloadN X190 hx hby d26_39 rfl ?_
  refine own_i2b X190 hx hby d26_40 ?_
  refine own_eq (U' := (T190.setTop (mkF m 41 #[.val (.ref a1), .val (.int 58)] [(.int 58), (.int n), (.ref b)]))) (by rw [show ((58 : Int32).toInt8.toInt32) = (58 : Int32) by decide]) ?_
  obtain ⟨cl191, Ar191, qa191, Sa191, Na191, Ha191, Ga191⟩ := Vb
  have hin191 : ¬ (n < 0 ∨ cl191.slots.size ≤ (n).toNatClampNeg) := inb_of Sa191 ⟨own_ge0 (by omega), by rw [own_ltI, own_i16]; omega⟩
  obtain ⟨T191, h191, X191, e191, W191, st191⟩ := stB X190 hx hZ e190 Ar191 (j := n) hin191 (g := (mkF m 41 #[.val (.ref a1), .val (.int 58)] [(.int 58), (.int n), (.ref b)])) rfl rfl (hb hby d26_41)
  replace Vb : Arv Z h191 b kb .byte (16 : Int32) (List.map Value.int (List.map own_b8 cs ++ [own_b8 (58 : Int32)])) (.int 0) := by have q := Arv.set Ar191 qa191 Sa191 Na191 Ha191 Ga191 (fits_nar_byte _) W191 ((List.map own_b8 cs).length + 0) (own_clamp (by rw [List.length_map, hn]; rfl)) (by simp); rw [own_58b, ← List.map_set, List.set_append_right _ _ (Nat.le_add_right _ _), Nat.add_sub_cancel_left] at q; exact q
  replace Z0 := nT Z0 (Keep.of_wr W191).1
  replace E1 := E1.wr W191
  replace Fv := Fv.other W191 (Or.inl neab)
  replace Fn := Fn.other W191 (Or.inl neab)
  replace Fm := Fm.other W191 (Or.inl neab)
  replace Fc := Fc.other W191 (Or.inl neab)
  replace SC := SC.wr W191
  replace SA := SA.wr W191
  replace SHI := SHI.wr W191
  replace SLO := SLO.wr W191
  replace SF := SF.wr W191
  replace KK := KK.wr W191 (Or.inl (List.mem_of_getElem? (i := 1) rfl))
  have N191 := Fr.snoc X191 N190 g_b
  refine own_of (U' := (T191.setTop (mkF m 42 #[.val (.ref a1), .val (.int 58)] []))) (st191) ?_
  refine own_goto X191 hx hby 42 75 d26_42 (by decide) (by decide) ?_
  refine own_aloadN X191 hx hby d26_75 rfl rfl ?_
  exact own_retA X191 hx hlk hrt rfl rfl (hb hby d26_76) (by decide) (by decide) (by rw [e191]; exact ⟨rfl, N191, KK, b, Or.inl rfl, (n + (1 : Int32)), E1, Fv, Fn, Fm, ⟨kb, Or.inl ⟨own_latapp.mpr ⟨lt, own_lat58⟩, Fc, by rw [List.map_append]; exact Vb⟩⟩, (by rw [own_inc hn (by omega), List.length_append]; rfl), own_chsapp hcs own_chs58⟩)
theorem d26_45 : decode c_36 45 = .ok (.aload_n 0, 1) := by decide +kernel
theorem d26_46 : decode c_36 46 = .ok (.invokevirtual 83, 3) := by decide +kernel
theorem d26_49 : decode c_36 49 = .ok (.ifCond .eq 7, 3) := by decide +kernel
theorem d26_56 : decode c_36 56 = .ok (.aload_n 0, 1) := by decide +kernel
theorem d26_57 : decode c_36 57 = .ok (.getfield 15, 3) := by decide +kernel
theorem d26_60 : decode c_36 60 = .ok (.aload_n 0, 1) := by decide +kernel
theorem d26_61 : decode c_36 61 = .ok (.dup, 1) := by decide +kernel
theorem d26_62 : decode c_36 62 = .ok (.getfield 79, 3) := by decide +kernel
theorem d26_65 : decode c_36 65 = .ok (.dup_x1, 1) := by decide +kernel
theorem d26_66 : decode c_36 66 = .ok (.iconst 1, 1) := by decide +kernel
theorem d26_67 : decode c_36 67 = .ok (.iadd, 1) := by decide +kernel
theorem d26_68 : decode c_36 68 = .ok (.putfield 79, 3) := by decide +kernel
theorem d26_71 : decode c_36 71 = .ok (.iload_n 1, 1) := by decide +kernel
theorem d26_72 : decode c_36 72 = .ok (.invokestatic 197, 3) := by decide +kernel
theorem ef_ac1 (m : MethodId) (x0 : Addr) : entryFrame m #[(.ref x0), (.int 58)] 2 = mkF m 0 #[.val (.ref x0), .val (.int 58)] [] := by first | (simp [entryFrame, mkF, argsToLocals, Value.category]; done) | rfl
theorem rmac1 (l : Launch) (Z : State) (a0 : Array Value) (hw : ∀ d ∈ tables_1, d.before a0 Z = true) (ws : List Jvm.Cond) (a1 b : Addr) (kb : ClassId) (n : Int32) (cs : List Int32) (g1 : Int32) (rS : Value) (h0 : Heap) (n0 : Nat) (Z0 : n0 ≤ h0.size) (E1 : Exa Z h0 a1 "java/lang/StringBuilder") (Fv : Fld Z h0 a1 "java/lang/AbstractStringBuilder" "value" "[B" (.ref b)) (Fn : Fld Z h0 a1 "java/lang/AbstractStringBuilder" "count" "I" (.int n)) (Fm : Fld Z h0 a1 "java/lang/AbstractStringBuilder" "maybeLatin1" "Z" (.int 0)) (Fc : Fld Z h0 a1 "java/lang/AbstractStringBuilder" "coder" "B" (.int 1)) (Vb : Arv Z h0 b kb .byte (32 : Int32) (List.map Value.int (own_u16 cs)) (.int 0)) (hn : n.toInt = cs.length) (hcs : own_chs cs) (hm : cs.length + 1 ≤ 16) (lt : ¬ own_lat cs) (g_a1 : n0 ≤ a1) (g_b : n0 ≤ b) (neab : a1 ≠ b) (SC : Sta Z h0 "java/lang/String" "COMPACT_STRINGS" "Z" (.int g1)) (hg1 : ¬ (g1 = (0 : Int32))) (SA : Sta Z h0 "java/lang/StringUTF16" "$assertionsDisabled" "Z" (.int 1)) (SHI : Sta Z h0 "java/lang/StringUTF16" "HI_BYTE_SHIFT" "I" (.int 0)) (SLO : Sta Z h0 "java/lang/StringUTF16" "LO_BYTE_SHIFT" "I" (.int 8)) (SF : Sta Z h0 "jdk/internal/util/Preconditions" "SIOOBE_FORMATTER" "Ljava/util/function/BiFunction;" rS) (hrS : rS.isRef = true) : own_M l mN_36 jdk_68_method_31_code 2 (some (.object "java/lang/AbstractStringBuilder")) ws ({ frames := 4, cells := 0, slots := 0, locals := 54 } : Room) Z h0 #[(.ref a1), (.int 58)] (Qap Z a1 b (cs ++ [58]) h0 n0) := by
  refine own_go #[.val (.ref a1), .val (.int 58)] (plainFor_of_name pn_1) (fun m => ef_ac1 m a1) ?_
  intro p e s m below meth c s₁ hx hby hml hown hnm hlk X0 e0 hZ hrt
  have N0 := Fr.nil n0
  have KK := Keep.refl h0 [a1, b]
  refine own_aloadN X0 hx hby d26_0 rfl rfl ?_
  refine own_aloadN X0 hx hby d26_1 rfl rfl ?_
  obtain ⟨T192, X192, e192, st192⟩ := getF X0 hx hZ hown (host := "") (Or.inl (own_w hw 96 rfl)) Via.refl e0 Fn (g := (mkF m 2 #[.val (.ref a1), .val (.int 58)] [(.ref a1), (.ref a1)])) rfl rfl (hb hby d26_2)
  refine own_of (U' := (T192.setTop (mkF m 5 #[.val (.ref a1), .val (.int 58)] [(.int n), (.ref a1)]))) (st192) ?_
  refine own_iconst X192 hx hby 1 d26_5 rfl ?_
  refine own_iadd X192 hx hby d26_6 ?_
  obtain ⟨cq193, q193, q193'⟩ := E1.cell
  obtain ⟨_, _, ⟨T193, L193, k193, n193⟩, -, X193, ⟨Lc193, hQ193, l193, y193, z193⟩, st193⟩ := X192.privateBack hx (y := mN_7) hown (oV hZ hw 98 rfl) (oV hZ hw 99 rfl) (mvT hZ (own_selQ (y := mN_7) (own_w hw 101 rfl) (own_w hw 100 rfl) (own_w hw 99 rfl) (by decide))) (Cond.privateMethod_at (mvP hZ (own_w hw 100 rfl) (args := #[]))) (oV hZ hw 102 rfl) (by decide) (backOf (W := 0) (rmec1 l Z a0 hw [] a1 (n + (1 : Int32)) b kb cs h0 n0 Z0 Fv Fc Vb (by rw [own_inc hn (by omega)]; omega) (by rw [own_inc hn (by omega)]; omega)) hZ (own_w hw 102 rfl) (own_w hw 68 rfl) (by decide) (by decide)) (g := (mkF m 7 #[.val (.ref a1), .val (.int 58)] [(.int (n + (1 : Int32))), (.ref a1)])) rfl (by rw [hml]; rfl) (Steps.refl _) (a := a1) (by rw [e192]; exact q193) q193' (argsL := [(.int (n + (1 : Int32)))]) (rest := []) (lenOf pd_18 rfl) rfl (by exact oZ rfl) (hb hby d26_7) (fun _ _ => ⟨rfl, e192, (by decide : 0 + 0 ≤ _), (by decide : 0 + 0 ≤ _)⟩)
  dsimp only [Pt.U, Pt.locs, Pt.cells, Pt.slots] at X193 l193 y193 z193 st193 hQ193
  rw [l193, y193, z193] at X193
  obtain ⟨rfl, Nq193, e193⟩ := hQ193
  have N193 := Fr.app N0 Nq193
  refine own_of (U' := (T193.setTop (mkF m 10 #[.val (.ref a1), .val (.int 58)] []))) (fun _ k => st193.trans k) ?_
  refine own_aloadN X193 hx hby d26_10 rfl rfl ?_
  obtain ⟨cq194, kq194, q194a, q194b, q194c⟩ := isOf hZ e193 E1
  obtain ⟨_, _, ⟨T194, L194, k194, n194⟩, -, X194, ⟨Lc194, hQ194, l194, y194, z194⟩, st194⟩ := X193.virtualBack hx (y := mN_3) (z := mN_3) hown (oV hZ hw 132 rfl) (oV hZ hw 133 rfl) (notFace_of_selects (args := #[]) (oV hZ hw 135 rfl)) (oV hZ hw 135 rfl) (oV hZ hw 134 rfl) (by decide) (backOf (W := 0) (rmab1 l Z a0 hw [] a1 g1 h0 n0 Z0 Fc SC hg1) hZ (own_w hw 136 rfl) (own_w hw 68 rfl) (by decide) (by decide)) q194a q194c (g := (mkF m 11 #[.val (.ref a1), .val (.int 58)] [(.ref a1)])) rfl (by rw [hml]; rfl) (Steps.refl _) (argsL := []) (rest := []) (lenOf pd_13 rfl) rfl (by exact oZ rfl) (hb hby d26_11) (fun _ _ => ⟨rfl, e193, (by decide : 0 + 0 ≤ _), (by decide : 0 + 0 ≤ _)⟩)
  dsimp only [Pt.U, Pt.locs, Pt.cells, Pt.slots] at X194 l194 y194 z194 st194 hQ194
  rw [l194, y194, z194] at X194
  obtain ⟨rfl, Nq194, e194⟩ := hQ194
  have N194 := Fr.app N193 Nq194
  refine own_of (U' := (T194.setTop (mkF m 14 #[.val (.ref a1), .val (.int 58)] [(.int 0)]))) (fun _ k => st194.trans k) ?_
  have hc14_195 : (0 : Int32) = (0 : Int32) := by decide
  refine own_ifYes X194 hx hby 14 45 d26_14 ((if0 _ _).trans (teq hc14_195).1) (by decide) (by decide) ?_
  refine own_aloadN X194 hx hby d26_45 rfl rfl ?_
  obtain ⟨cq196, kq196, q196a, q196b, q196c⟩ := isOf hZ e194 E1
  obtain ⟨_, _, ⟨T196, L196, k196, n196⟩, -, X196, ⟨Lc196, hQ196, l196, y196, z196⟩, st196⟩ := X194.virtualBack hx (y := mN_3) (z := mN_3) hown (oV hZ hw 132 rfl) (oV hZ hw 133 rfl) (notFace_of_selects (args := #[]) (oV hZ hw 135 rfl)) (oV hZ hw 135 rfl) (oV hZ hw 134 rfl) (by decide) (backOf (W := 0) (rmab1 l Z a0 hw [] a1 g1 h0 n0 Z0 Fc SC hg1) hZ (own_w hw 136 rfl) (own_w hw 68 rfl) (by decide) (by decide)) q196a q196c (g := (mkF m 46 #[.val (.ref a1), .val (.int 58)] [(.ref a1)])) rfl (by rw [hml]; rfl) (Steps.refl _) (argsL := []) (rest := []) (lenOf pd_13 rfl) rfl (by exact oZ rfl) (hb hby d26_46) (fun _ _ => ⟨rfl, e194, (by decide : 0 + 0 ≤ _), (by decide : 0 + 0 ≤ _)⟩)
  dsimp only [Pt.U, Pt.locs, Pt.cells, Pt.slots] at X196 l196 y196 z196 st196 hQ196
  rw [l196, y196, z196] at X196
  obtain ⟨rfl, Nq196, e196⟩ := hQ196
  have N196 := Fr.app N194 Nq196
  refine own_of (U' := (T196.setTop (mkF m 49 #[.val (.ref a1), .val (.int 58)] [(.int 0)]))) (fun _ k => st196.trans k) ?_
  have hc49_197 : (0 : Int32) = (0 : Int32) := by decide
  refine own_ifYes X196 hx hby 49 56 d26_49 ((if0 _ _).trans (teq hc49_197).1) (by decide) (by decide) ?_
  refine own_aloadN X196 hx hby d26_56 rfl rfl ?_
  obtain ⟨T198, X198, e198, st198⟩ := getF X196 hx hZ hown (host := "") (Or.inl (own_w hw 72 rfl)) Via.refl e196 Fv (g := (mkF m 57 #[.val (.ref a1), .val (.int 58)] [(.ref a1)])) rfl rfl (hb hby d26_57)
  refine own_of (U' := (T198.setTop (mkF m 60 #[.val (.ref a1), .val (.int 58)] [(.ref b)]))) (st198) ?_
  refine own_aloadN X198 hx hby d26_60 rfl rfl ?_
  refine own_dup X198 hx hby d26_61 rfl ?_
  obtain ⟨T199, X199, e199, st199⟩ := getF X198 hx hZ hown (host := "") (Or.inl (own_w hw 96 rfl)) Via.refl e198 Fn (g := (mkF m 62 #[.val (.ref a1), .val (.int 58)] [(.ref a1), (.ref a1), (.ref b)])) rfl rfl (hb hby d26_62)
  refine own_of (U' := (T199.setTop (mkF m 65 #[.val (.ref a1), .val (.int 58)] [(.int n), (.ref a1), (.ref b)]))) (st199) ?_
  refine own_dupX1 X199 hx hby d26_65 rfl rfl ?_
  refine own_iconst X199 hx hby 1 d26_66 rfl ?_
  refine own_iadd X199 hx hby d26_67 ?_
  obtain ⟨T200, h200, X200, e200, W200, st200⟩ := putF X199 hx hZ hown (host := "") (Or.inl (own_w hw 96 rfl)) Via.refl e199 Fn E1 (Or.inl (own_w hw 97 rfl)) (own_w hw 59 rfl) (ty := .int) (by decide) rfl rfl (g := (mkF m 68 #[.val (.ref a1), .val (.int 58)] [(.int (n + (1 : Int32))), (.ref a1), (.int n), (.ref b)])) rfl rfl (hb hby d26_68)
  replace Z0 := nT Z0 (Keep.of_wr W200).1
  replace E1 := E1.wr W200
  replace Fv := Fv.other W200 (Or.inr (slot_ne (Or.inl (own_w hw 73 rfl)) (Or.inl (own_w hw 97 rfl)) (by decide) (t := (.array .byte)) (t' := .int) (by decide) (by decide)))
  replace Fn := Fn.same W200
  replace Fm := Fm.other W200 (Or.inr (slot_ne (Or.inl (own_w hw 296 rfl)) (Or.inl (own_w hw 97 rfl)) (by decide) (t := .boolean) (t' := .int) (by decide) (by decide)))
  replace Fc := Fc.other W200 (Or.inr (slot_ne (Or.inl (own_w hw 75 rfl)) (Or.inl (own_w hw 97 rfl)) (by decide) (t := .byte) (t' := .int) (by decide) (by decide)))
  replace Vb := Vb.other W200 (Ne.symm neab)
  replace SC := SC.wr W200
  replace SA := SA.wr W200
  replace SHI := SHI.wr W200
  replace SLO := SLO.wr W200
  replace SF := SF.wr W200
  replace KK := KK.wr W200 (Or.inl (List.mem_of_getElem? (i := 0) rfl))
  have N200 := Fr.snoc X200 N196 g_a1
  refine own_of (U' := (T200.setTop (mkF m 71 #[.val (.ref a1), .val (.int 58)] [(.int n), (.ref b)]))) (st200) ?_
  refine own_iloadN X200 hx hby d26_71 rfl ?_
  obtain ⟨_, _, ⟨T201, L201, k201, n201⟩, -, X201, ⟨Lc201, hQ201, l201, y201, z201⟩, st201⟩ := Jvm.LawKit.callS X200 hx (y := mN_26) hown (oV hZ hw 282 rfl) (oV hZ hw 283 rfl) (oV hZ hw 27 rfl) (oV hZ hw 284 rfl) (by decide) (backOf (W := 0) (rmps2 l Z a0 hw [] b n (58 : Int32) kb (32 : Int32) cs rS h200 n0 Z0 Vb hn (by omega) (by rw [own_i32]; omega) g_b SA SHI SLO SF hrS) hZ (own_w hw 284 rfl) (own_w hw 27 rfl) (by decide) (by decide)) (g := (mkF m 72 #[.val (.ref a1), .val (.int 58)] [(.int 58), (.int n), (.ref b)])) rfl (by rw [hml]; rfl) (argsL := [(.ref b), (.int n), (.int 58)]) (rest := []) (lenOf pd_10 rfl) rfl (by exact oZ rfl) (hb hby d26_72) (fun _ _ => ⟨rfl, e200, (by decide : 0 + 0 ≤ _), (by decide : 0 + 0 ≤ _)⟩)
  dsimp only [Pt.U, Pt.locs, Pt.cells, Pt.slots] at X201 l201 y201 z201 st201 hQ201
  rw [l201, y201, z201] at X201
  obtain ⟨rfl, Nq201, Kp201, Vq201⟩ := hQ201
  have N201 := Fr.app N200 Nq201
  have nst_b := Vb.nostat
  replace Z0 := nT Z0 Kp201.1
  replace E1 := E1.keep Kp201
  replace Fv := Fv.keep Kp201 (ninS neab nin0)
  replace Fn := Fn.keep Kp201 (ninS neab nin0)
  replace Fm := Fm.keep Kp201 (ninS neab nin0)
  replace Fc := Fc.keep Kp201 (ninS neab nin0)
  replace SC := own_staKeep SC Kp201 (nsS nst_b ns0)
  replace SA := own_staKeep SA Kp201 (nsS nst_b ns0)
  replace SHI := own_staKeep SHI Kp201 (nsS nst_b ns0)
  replace SLO := own_staKeep SLO Kp201 (nsS nst_b ns0)
  replace SF := own_staKeep SF Kp201 (nsS nst_b ns0)
  replace KK := KK.trans Kp201 (allS (Or.inl (List.mem_of_getElem? (i := 1) rfl)) all0)
  refine own_of (U' := (T201.setTop (mkF m 75 #[.val (.ref a1), .val (.int 58)] []))) (st201) ?_
  refine own_aloadN X201 hx hby d26_75 rfl rfl ?_
  exact own_retA X201 hx hlk hrt rfl rfl (hb hby d26_76) (by decide) (by decide) (⟨rfl, N201, KK, b, Or.inl rfl, (n + (1 : Int32)), E1, Fv, Fn, Fm, ⟨kb, Or.inr ⟨fun q => lt (own_latapp.mp q).1, Fc, Vq201⟩⟩, (by rw [own_inc hn (by omega), List.length_append]; rfl), own_chsapp hcs own_chs58⟩)
theorem rmac (l : Launch) (Z : State) (a0 : Array Value) (hw : ∀ d ∈ tables_1, d.before a0 Z = true) (ws : List Jvm.Cond) (a1 b : Addr) (n : Int32) (cs : List Int32) (g1 : Int32) (rS : Value) (h0 : Heap) (n0 : Nat) (Z0 : n0 ≤ h0.size) (E1 : Exa Z h0 a1 "java/lang/StringBuilder") (Fv : Fld Z h0 a1 "java/lang/AbstractStringBuilder" "value" "[B" (.ref b)) (Fn : Fld Z h0 a1 "java/lang/AbstractStringBuilder" "count" "I" (.int n)) (Fm : Fld Z h0 a1 "java/lang/AbstractStringBuilder" "maybeLatin1" "Z" (.int 0)) (C1 : own_C Z h0 a1 b cs) (hn : n.toInt = cs.length) (hcs : own_chs cs) (hm : cs.length + 1 ≤ 16) (g_a1 : n0 ≤ a1) (g_b : n0 ≤ b) (neab : a1 ≠ b) (SC : Sta Z h0 "java/lang/String" "COMPACT_STRINGS" "Z" (.int g1)) (hg1 : ¬ (g1 = (0 : Int32))) (SA : Sta Z h0 "java/lang/StringUTF16" "$assertionsDisabled" "Z" (.int 1)) (SHI : Sta Z h0 "java/lang/StringUTF16" "HI_BYTE_SHIFT" "I" (.int 0)) (SLO : Sta Z h0 "java/lang/StringUTF16" "LO_BYTE_SHIFT" "I" (.int 8)) (SF : Sta Z h0 "jdk/internal/util/Preconditions" "SIOOBE_FORMATTER" "Ljava/util/function/BiFunction;" rS) (hrS : rS.isRef = true) : own_M l mN_36 jdk_68_method_31_code 2 (some (.object "java/lang/AbstractStringBuilder")) ws ({ frames := 4, cells := 0, slots := 0, locals := 54 } : Room) Z h0 #[(.ref a1), (.int 58)] (Qap Z a1 b (cs ++ [58]) h0 n0) := by
  obtain ⟨kb, ⟨lt, Fc, Vb⟩ | ⟨lt, Fc, Vb⟩⟩ := C1
  · exact rmac0 l Z a0 hw ws a1 b kb n cs g1 rS h0 n0 Z0 E1 Fv Fn Fm Fc Vb hn hcs hm lt g_a1 g_b neab SC hg1 SA SHI SLO SF hrS
  · exact rmac1 l Z a0 hw ws a1 b kb n cs g1 rS h0 n0 Z0 E1 Fv Fn Fm Fc Vb hn hcs hm lt g_a1 g_b neab SC hg1 SA SHI SLO SF hrS
abbrev mN_37 : MethodName := ⟨"java/lang/StringBuilder", "append", "(C)Ljava/lang/StringBuilder;"⟩
theorem pd_22 : parseMethodDescriptor "(C)Ljava/lang/AbstractStringBuilder;" = some ⟨[.char], some (.object "java/lang/AbstractStringBuilder")⟩ := by decide +kernel
theorem d25_0 : decode c_37 0 = .ok (.aload_n 0, 1) := by decide +kernel
theorem d25_1 : decode c_37 1 = .ok (.iload_n 1, 1) := by decide +kernel
theorem d25_2 : decode c_37 2 = .ok (.invokespecial 50, 3) := by decide +kernel
theorem d25_5 : decode c_37 5 = .ok (.pop, 1) := by decide +kernel
theorem d25_6 : decode c_37 6 = .ok (.aload_n 0, 1) := by decide +kernel
theorem d25_7 : decode c_37 7 = .ok (.areturn, 1) := by decide +kernel
theorem ef_sc (m : MethodId) (x0 : Addr) : entryFrame m #[(.ref x0), (.int 58)] 2 = mkF m 0 #[.val (.ref x0), .val (.int 58)] [] := by first | (simp [entryFrame, mkF, argsToLocals, Value.category]; done) | rfl
theorem rmsc (l : Launch) (Z : State) (a0 : Array Value) (hw : ∀ d ∈ tables_1, d.before a0 Z = true) (ws : List Jvm.Cond) (a1 b : Addr) (cs : List Int32) (g1 : Int32) (rS : Value) (h0 : Heap) (n0 : Nat) (Z0 : n0 ≤ h0.size) (B1 : own_B Z h0 a1 b cs) (hm : cs.length + 1 ≤ 16) (g_a1 : n0 ≤ a1) (g_b : n0 ≤ b) (neab : a1 ≠ b) (SC : Sta Z h0 "java/lang/String" "COMPACT_STRINGS" "Z" (.int g1)) (hg1 : ¬ (g1 = (0 : Int32))) (SA : Sta Z h0 "java/lang/StringUTF16" "$assertionsDisabled" "Z" (.int 1)) (SHI : Sta Z h0 "java/lang/StringUTF16" "HI_BYTE_SHIFT" "I" (.int 0)) (SLO : Sta Z h0 "java/lang/StringUTF16" "LO_BYTE_SHIFT" "I" (.int 8)) (SF : Sta Z h0 "jdk/internal/util/Preconditions" "SIOOBE_FORMATTER" "Ljava/util/function/BiFunction;" rS) (hrS : rS.isRef = true) : own_M l mN_37 jdk_67_method_14_code 2 (some (.object "java/lang/StringBuilder")) ws ({ frames := 5, cells := 0, slots := 0, locals := 67 } : Room) Z h0 #[(.ref a1), (.int 58)] (Qap Z a1 b (cs ++ [58]) h0 n0) := by
  refine own_go #[.val (.ref a1), .val (.int 58)] (plainFor_of_name pn_2) (fun m => ef_sc m a1) ?_
  intro p e s m below meth c s₁ hx hby hml hown hnm hlk X0 e0 hZ hrt
  have N0 := Fr.nil n0
  have KK := Keep.refl h0 [a1, b]
  obtain ⟨n, E1, Fv, Fn, Fm, C1, hn, hcs⟩ := B1
  refine own_aloadN X0 hx hby d25_0 rfl rfl ?_
  refine own_iloadN X0 hx hby d25_1 rfl ?_
  obtain ⟨_, _, ⟨T202, L202, k202, n202⟩, -, X202, ⟨Lc202, hQ202, l202, y202, z202⟩, st202⟩ := superBack X0 hx hZ (y := mN_36) hown (own_w hw 128 rfl) (own_sameM (y := mN_36) (w := mN_7) (own_w hw 130 rfl) (own_w hw 101 rfl) rfl (by decide)) (own_w hw 129 rfl) (own_w hw 83 rfl) (by decide) (backOf (W := 0) (rmac l Z a0 hw [] a1 b n cs g1 rS h0 n0 Z0 E1 Fv Fn Fm C1 hn hcs hm g_a1 g_b neab SC hg1 SA SHI SLO SF hrS) hZ (own_w hw 131 rfl) (own_w hw 68 rfl) (by decide) (by decide)) e0 (Ins.self E1) (g := (mkF m 2 #[.val (.ref a1), .val (.int 58)] [(.int 58), (.ref a1)])) rfl (by rw [hml]; rfl) (own_w hw 131 rfl) (argsL := [(.int 58)]) (rest := []) (lenOf pd_22 rfl) rfl (by exact oZ rfl) (hb hby d25_2) (fun _ _ => ⟨rfl, e0, (by decide : 0 + 0 ≤ _), (by decide : 0 + 0 ≤ _)⟩)
  dsimp only [Pt.U, Pt.locs, Pt.cells, Pt.slots] at X202 l202 y202 z202 st202 hQ202
  rw [l202, y202, z202] at X202
  obtain ⟨rfl, Nq202, Kp202, u202, ho202, Bq202⟩ := hQ202
  have ne_a1_u202 : a1 ≠ u202 := own_neor ho202 neab E1.lt
  have g_u202 : n0 ≤ u202 := ho202.elim (fun q => by rw [← q]; exact g_b) (fun q => nT Z0 q)
  have mk_u202 : u202 ∈ ([a1, b] : List Addr) ∨ h0.size ≤ u202 := ho202.elim (fun q => by rw [← q]; exact (Or.inl (List.mem_of_getElem? (i := 1) rfl))) (fun q => Or.inr (nT KK.1 q))
  have N202 := Fr.app N0 Nq202
  have nst_a1 := E1.nostat
  have nst_b := own_Cnostat C1
  replace Z0 := nT Z0 Kp202.1
  replace E1 := E1.keep Kp202
  replace SC := own_staKeep SC Kp202 (nsS nst_a1 (nsS nst_b ns0))
  replace SA := own_staKeep SA Kp202 (nsS nst_a1 (nsS nst_b ns0))
  replace SHI := own_staKeep SHI Kp202 (nsS nst_a1 (nsS nst_b ns0))
  replace SLO := own_staKeep SLO Kp202 (nsS nst_a1 (nsS nst_b ns0))
  replace SF := own_staKeep SF Kp202 (nsS nst_a1 (nsS nst_b ns0))
  replace KK := KK.trans Kp202 (allS (Or.inl (List.mem_of_getElem? (i := 0) rfl)) (allS (Or.inl (List.mem_of_getElem? (i := 1) rfl)) all0))
  have Eb202 := own_Bexa Bq202
  refine own_of (U' := (T202.setTop (mkF m 5 #[.val (.ref a1), .val (.int 58)] [(.ref a1)]))) (fun _ k => st202.trans k) ?_
  refine own_pop X202 hx hby d25_5 rfl ?_
  refine own_aloadN X202 hx hby d25_6 rfl rfl ?_
  exact own_retA X202 hx hlk hrt rfl rfl (hb hby d25_7) (by decide) (by decide) (⟨rfl, N202, KK, u202, ho202, Bq202⟩)
abbrev mN_38 : MethodName := ⟨"java/lang/AbstractStringBuilder", "<init>", "(I)V"⟩
theorem d16_0 : decode c_38 0 = .ok (.aload_n 0, 1) := by decide +kernel
theorem d16_1 : decode c_38 1 = .ok (.invokespecial 3, 3) := by decide +kernel
theorem d16_4 : decode c_38 4 = .ok (.getstatic 18, 3) := by decide +kernel
theorem d16_7 : decode c_38 7 = .ok (.ifCond .eq 18, 3) := by decide +kernel
theorem d16_10 : decode c_38 10 = .ok (.aload_n 0, 1) := by decide +kernel
theorem d16_11 : decode c_38 11 = .ok (.iload_n 1, 1) := by decide +kernel
theorem d16_12 : decode c_38 12 = .ok (.newarray .byte, 2) := by decide +kernel
theorem d16_14 : decode c_38 14 = .ok (.putfield 15, 3) := by decide +kernel
theorem d16_17 : decode c_38 17 = .ok (.aload_n 0, 1) := by decide +kernel
theorem d16_18 : decode c_38 18 = .ok (.iconst 0, 1) := by decide +kernel
theorem d16_19 : decode c_38 19 = .ok (.putfield 22, 3) := by decide +kernel
theorem d16_22 : decode c_38 22 = .ok (.goto 16, 3) := by decide +kernel
theorem d16_38 : decode c_38 38 = .ok (.return_, 1) := by decide +kernel
theorem ef_ai (m : MethodId) (x0 : Addr) : entryFrame m #[(.ref x0), (.int 16)] 2 = mkF m 0 #[.val (.ref x0), .val (.int 16)] [] := by first | (simp [entryFrame, mkF, argsToLocals, Value.category]; done) | rfl
def Qsb (Z : State) (a1 : Addr) (h0 : Heap) (n0 : Nat) (v : Option Value) (h : Heap) (L : List Loc) : Prop := v = none ∧ Fr n0 L ∧ Keep h0 h [a1] ∧ ∃ b : Addr, h0.size ≤ b ∧ own_B Z h a1 b ([] : List Int32)
theorem rmai (l : Launch) (Z : State) (a0 : Array Value) (hw : ∀ d ∈ tables_1, d.before a0 Z = true) (ws : List Jvm.Cond) (a1 : Addr) (g1 : Int32) (h0 : Heap) (n0 : Nat) (Z0 : n0 ≤ h0.size) (E1 : Exa Z h0 a1 "java/lang/StringBuilder") (Fv : Fld Z h0 a1 "java/lang/AbstractStringBuilder" "value" "[B" .null) (Fc : Fld Z h0 a1 "java/lang/AbstractStringBuilder" "coder" "B" (.int 0)) (Fn : Fld Z h0 a1 "java/lang/AbstractStringBuilder" "count" "I" (.int 0)) (Fm : Fld Z h0 a1 "java/lang/AbstractStringBuilder" "maybeLatin1" "Z" (.int 0)) (SC : Sta Z h0 "java/lang/String" "COMPACT_STRINGS" "Z" (.int g1)) (hg1 : ¬ (g1 = (0 : Int32))) (g_a1 : n0 ≤ a1) : own_M l mN_38 jdk_68_method_2_code 2 none ws ({ frames := 1, cells := 1, slots := 16, locals := 12 } : Room) Z h0 #[(.ref a1), (.int 16)] (Qsb Z a1 h0 n0) := by
  refine own_go #[.val (.ref a1), .val (.int 16)] (plainFor_of_name pn_1) (fun m => ef_ai m a1) ?_
  intro p e s m below meth c s₁ hx hby hml hown hnm hlk X0 e0 hZ hrt
  have N0 := Fr.nil n0
  have KK := Keep.refl h0 [a1]
  refine own_aloadN X0 hx hby d16_0 rfl rfl ?_
  obtain ⟨T203, X203, e203, st203⟩ := initO X0 hx hZ hown (own_w hw 70 rfl) (own_w hw 22 rfl) (own_w hw 23 rfl) e0 (g := (mkF m 1 #[.val (.ref a1), .val (.int 16)] [(.ref a1)])) rfl (by rw [hml]; rfl) rfl (hb hby d16_1) (by decide) (W := 0) (by exact oZ rfl) (by decide)
  refine own_of (U' := (T203.setTop (mkF m 4 #[.val (.ref a1), .val (.int 16)] []))) (st203) ?_
  obtain ⟨T204, X204, e204, st204⟩ := getS2 X203 hx hZ hown (host := "") (Or.inl (own_w hw 71 rfl)) Via.refl e203 SC (g := (mkF m 4 #[.val (.ref a1), .val (.int 16)] [])) rfl (hb hby d16_4)
  refine own_of (U' := (T204.setTop (mkF m 7 #[.val (.ref a1), .val (.int 16)] [(.int g1)]))) (st204) ?_
  have hc7_205 : ¬ (g1 = (0 : Int32)) := hg1
  refine own_ifNo X204 hx hby d16_7 ((if0 _ _).trans (feq hc7_205).1) ?_
  refine own_aloadN X204 hx hby d16_10 rfl rfl ?_
  refine own_iloadN X204 hx hby d16_11 rfl ?_
  obtain ⟨T206, h206, k206, X206, e206, E206, A206, st206⟩ := newP X204 hx hZ (own_w hw 29 rfl) e204 (g := (mkF m 12 #[.val (.ref a1), .val (.int 16)] [(.int 16), (.ref a1)])) rfl (hb hby d16_12) rfl (by decide) (cap := 16) (by decide) (by decide) (by decide) (by decide)
  obtain ⟨b206, gz206⟩ : ∃ z, z = h0.size := ⟨_, rfl⟩
  rw [← gz206] at A206 st206
  have g_b206 : n0 ≤ b206 := nT Z0 (nE gz206.symm)
  have sz_b206 : h0.size ≤ b206 := nT KK.1 (nE gz206.symm)
  have ne_a1_b206 : a1 ≠ b206 := Nat.ne_of_lt (Nat.lt_of_lt_of_le E1.lt (nE gz206.symm))
  replace Z0 := nT Z0 E206.1
  replace E1 := E1.ext E206
  replace Fv := Fv.ext E206
  replace Fn := Fn.ext E206
  replace Fm := Fm.ext E206
  replace Fc := Fc.ext E206
  replace SC := SC.ext E206
  replace KK := KK.ext E206
  have V206 : Arv Z h206 b206 k206 .byte (16 : Int32) (List.map Value.int ([] : List Int32)) (.int 0) := Arv.new A206 (by decide)
  refine own_of (U' := (T206.setTop (mkF m 14 #[.val (.ref a1), .val (.int 16)] [(.ref b206), (.ref a1)]))) (st206) ?_
  obtain ⟨T207, h207, X207, e207, W207, st207⟩ := putF X206 hx hZ hown (host := "") (Or.inl (own_w hw 72 rfl)) Via.refl e206 Fv E1 (Or.inl (own_w hw 73 rfl)) (own_w hw 59 rfl) (ty := (.array .byte)) (by decide) rfl rfl (g := (mkF m 14 #[.val (.ref a1), .val (.int 16)] [(.ref b206), (.ref a1)])) rfl rfl (hb hby d16_14)
  replace Z0 := nT Z0 (Keep.of_wr W207).1
  replace E1 := E1.wr W207
  replace Fv := Fv.same W207
  replace Fn := Fn.other W207 (Or.inr (slot_ne (Or.inl (own_w hw 97 rfl)) (Or.inl (own_w hw 73 rfl)) (by decide) (t := .int) (t' := (.array .byte)) (by decide) (by decide)))
  replace Fm := Fm.other W207 (Or.inr (slot_ne (Or.inl (own_w hw 296 rfl)) (Or.inl (own_w hw 73 rfl)) (by decide) (t := .boolean) (t' := (.array .byte)) (by decide) (by decide)))
  replace Fc := Fc.other W207 (Or.inr (slot_ne (Or.inl (own_w hw 75 rfl)) (Or.inl (own_w hw 73 rfl)) (by decide) (t := .byte) (t' := (.array .byte)) (by decide) (by decide)))
  replace SC := SC.wr W207
  replace KK := KK.wr W207 (Or.inl (List.mem_of_getElem? (i := 0) rfl))
  replace V206 := V206.other W207 (Ne.symm ne_a1_b206)
  have N207 := Fr.snoc X207 N0 g_a1
  refine own_of (U' := (T207.setTop (mkF m 17 #[.val (.ref a1), .val (.int 16)] []))) (st207) ?_
  refine own_aloadN X207 hx hby d16_17 rfl rfl ?_
  refine own_iconst X207 hx hby 0 d16_18 rfl ?_
  obtain ⟨T208, h208, X208, e208, W208, st208⟩ := putFN X207 hx hZ hown (own_w hw 74 rfl) Via.refl e207 Fc E1 (Or.inl (own_w hw 75 rfl)) (own_w hw 59 rfl) (ty := .byte) (v' := (.int 0)) (by decide) rfl (by decide) (g := (mkF m 19 #[.val (.ref a1), .val (.int 16)] [(.int 0), (.ref a1)])) rfl rfl (hb hby d16_19)
  replace Z0 := nT Z0 (Keep.of_wr W208).1
  replace E1 := E1.wr W208
  replace Fv := Fv.other W208 (Or.inr (slot_ne (Or.inl (own_w hw 73 rfl)) (Or.inl (own_w hw 75 rfl)) (by decide) (t := (.array .byte)) (t' := .byte) (by decide) (by decide)))
  replace Fn := Fn.other W208 (Or.inr (slot_ne (Or.inl (own_w hw 97 rfl)) (Or.inl (own_w hw 75 rfl)) (by decide) (t := .int) (t' := .byte) (by decide) (by decide)))
  replace Fm := Fm.other W208 (Or.inr (slot_ne (Or.inl (own_w hw 296 rfl)) (Or.inl (own_w hw 75 rfl)) (by decide) (t := .boolean) (t' := .byte) (by decide) (by decide)))
  replace Fc := Fc.same W208
  replace SC := SC.wr W208
  replace KK := KK.wr W208 (Or.inl (List.mem_of_getElem? (i := 0) rfl))
  replace V206 := V206.other W208 (Ne.symm ne_a1_b206)
  have N208 := Fr.snoc X208 N207 g_a1
  refine own_of (U' := (T208.setTop (mkF m 22 #[.val (.ref a1), .val (.int 16)] []))) (st208) ?_
  refine own_goto X208 hx hby 22 38 d16_22 (by decide) (by decide) ?_
  exact own_ret0 X208 hx hlk hrt (hb hby d16_38) (by decide) (by decide) (by rw [e208]; exact ⟨rfl, N208, KK, b206, sz_b206, (0 : Int32), E1, Fv, Fn, Fm, ⟨k206, Or.inl ⟨(fun _ q => nomatch q), Fc, V206⟩⟩, rfl, (fun _ q => nomatch q)⟩)
abbrev mN_39 : MethodName := ⟨"java/lang/StringBuilder", "<init>", "()V"⟩
theorem d15_0 : decode c_39 0 = .ok (.aload_n 0, 1) := by decide +kernel
theorem d15_1 : decode c_39 1 = .ok (.bipush 16, 2) := by decide +kernel
theorem d15_3 : decode c_39 3 = .ok (.invokespecial 1, 3) := by decide +kernel
theorem d15_6 : decode c_39 6 = .ok (.return_, 1) := by decide +kernel
theorem ef_bi (m : MethodId) (x0 : Addr) : entryFrame m #[(.ref x0)] 1 = mkF m 0 #[.val (.ref x0)] [] := by first | (simp [entryFrame, mkF, argsToLocals, Value.category]; done) | rfl
theorem rmbi (l : Launch) (Z : State) (a0 : Array Value) (hw : ∀ d ∈ tables_1, d.before a0 Z = true) (ws : List Jvm.Cond) (a1 : Addr) (g1 : Int32) (h0 : Heap) (n0 : Nat) (Z0 : n0 ≤ h0.size) (E1 : Exa Z h0 a1 "java/lang/StringBuilder") (Fv : Fld Z h0 a1 "java/lang/AbstractStringBuilder" "value" "[B" .null) (Fc : Fld Z h0 a1 "java/lang/AbstractStringBuilder" "coder" "B" (.int 0)) (Fn : Fld Z h0 a1 "java/lang/AbstractStringBuilder" "count" "I" (.int 0)) (Fm : Fld Z h0 a1 "java/lang/AbstractStringBuilder" "maybeLatin1" "Z" (.int 0)) (SC : Sta Z h0 "java/lang/String" "COMPACT_STRINGS" "Z" (.int g1)) (hg1 : ¬ (g1 = (0 : Int32))) (g_a1 : n0 ≤ a1) : own_M l mN_39 jdk_67_method_1_code 1 none ws ({ frames := 2, cells := 1, slots := 16, locals := 25 } : Room) Z h0 #[(.ref a1)] (Qsb Z a1 h0 n0) := by
  refine own_go #[.val (.ref a1)] (plainFor_of_name pn_2) (fun m => ef_bi m a1) ?_
  intro p e s m below meth c s₁ hx hby hml hown hnm hlk X0 e0 hZ hrt
  have N0 := Fr.nil n0
  have KK := Keep.refl h0 [a1]
  refine own_aloadN X0 hx hby d15_0 rfl rfl ?_
  refine own_bipush X0 hx hby 16 d15_1 rfl ?_
  obtain ⟨_, _, ⟨T209, L209, k209, n209⟩, -, X209, ⟨Lc209, hQ209, l209, y209, z209⟩, st209⟩ := X0.specialBack hx (y := mN_38) rfl hown (oV hZ hw 64 rfl) (oV hZ hw 65 rfl) (oV hZ hw 69 rfl) (by decide) (backOf (W := 0) (rmai l Z a0 hw [] a1 g1 h0 n0 Z0 E1 Fv Fc Fn Fm SC hg1 g_a1) hZ (own_w hw 69 rfl) (own_w hw 68 rfl) (by decide) (by decide)) (g := (mkF m 3 #[.val (.ref a1)] [(.int 16), (.ref a1)])) rfl (by rw [hml]; rfl) (Steps.refl _) (a := a1) (argsL := [(.int 16)]) (rest := []) (lenOf pd_18 rfl) rfl (by exact oZ rfl) (hb hby d15_3) (fun _ _ => ⟨rfl, e0, (by decide : 0 + 1 ≤ _), (by decide : 0 + 16 ≤ _)⟩)
  dsimp only [Pt.U, Pt.locs, Pt.cells, Pt.slots] at X209 l209 y209 z209 st209 hQ209
  rw [l209, y209, z209] at X209
  obtain ⟨rfl, Nq209, Kp209, u209, gq209, Bq209⟩ := hQ209
  have g_u209 : n0 ≤ u209 := nT Z0 gq209
  have sz_u209 : h0.size ≤ u209 := nT KK.1 gq209
  have ne_a1_u209 : a1 ≠ u209 := nL E1.lt gq209
  have N209 := Fr.app N0 Nq209
  have nst_a1 := E1.nostat
  replace Z0 := nT Z0 Kp209.1
  replace E1 := E1.keep Kp209
  replace SC := own_staKeep SC Kp209 (nsS nst_a1 ns0)
  replace KK := KK.trans Kp209 (allS (Or.inl (List.mem_of_getElem? (i := 0) rfl)) all0)
  have Eb209 := own_Bexa Bq209
  refine own_of (U' := (T209.setTop (mkF m 6 #[.val (.ref a1)] []))) (fun _ k => st209.trans k) ?_
  exact own_ret0 X209 hx hlk hrt (hb hby d15_6) (by decide) (by decide) (⟨rfl, N209, KK, u209, sz_u209, Bq209⟩)
def Qs2 (Z : State) (cs : List Int32) (h0 : Heap) (n0 : Nat) (v : Option Value) (h : Heap) (L : List Loc) : Prop := ∃ a3 : Addr, v = some (.ref a3) ∧ Fr n0 L ∧ Keep h0 h [] ∧ h0.size ≤ a3 ∧ own_S2 Z h h.size a3 cs
def Qst (Z : State) (a3 : Addr) (cs : List Int32) (h0 : Heap) (n0 : Nat) (v : Option Value) (h : Heap) (L : List Loc) : Prop := v = none ∧ Fr n0 L ∧ Keep h0 h [a3] ∧ ∃ (u : Addr) (ku : ClassId) (cd z : Int32), h0.size ≤ u ∧ Fld Z h a3 "java/lang/String" "coder" "B" (.int cd) ∧ Fld Z h a3 "java/lang/String" "value" "[B" (.ref u) ∧ own_Rep Z h u ku cd z cs
abbrev mN_40 : MethodName := ⟨"java/util/Arrays", "copyOfRangeByte", "([BII)[B"⟩
theorem pd_23 : parseMethodDescriptor "(II)I" = some ⟨[.int, .int], some .int⟩ := by decide +kernel
theorem d35_0 : decode c_40 0 = .ok (.iload_n 1, 1) := by decide +kernel
theorem d35_1 : decode c_40 1 = .ok (.iload_n 2, 1) := by decide +kernel
theorem d35_2 : decode c_40 2 = .ok (.invokestatic 343, 3) := by decide +kernel
theorem d35_5 : decode c_40 5 = .ok (.iload_n 2, 1) := by decide +kernel
theorem d35_6 : decode c_40 6 = .ok (.iload_n 1, 1) := by decide +kernel
theorem d35_7 : decode c_40 7 = .ok (.isub, 1) := by decide +kernel
theorem d35_8 : decode c_40 8 = .ok (.istore_n 3, 1) := by decide +kernel
theorem d35_9 : decode c_40 9 = .ok (.iload_n 3, 1) := by decide +kernel
theorem d35_10 : decode c_40 10 = .ok (.newarray .byte, 2) := by decide +kernel
theorem d35_12 : decode c_40 12 = .ok (.astore 4, 2) := by decide +kernel
theorem d35_14 : decode c_40 14 = .ok (.aload_n 0, 1) := by decide +kernel
theorem d35_15 : decode c_40 15 = .ok (.iload_n 1, 1) := by decide +kernel
theorem d35_16 : decode c_40 16 = .ok (.aload 4, 2) := by decide +kernel
theorem d35_18 : decode c_40 18 = .ok (.iconst 0, 1) := by decide +kernel
theorem d35_19 : decode c_40 19 = .ok (.aload_n 0, 1) := by decide +kernel
theorem d35_20 : decode c_40 20 = .ok (.arraylength, 1) := by decide +kernel
theorem d35_21 : decode c_40 21 = .ok (.iload_n 1, 1) := by decide +kernel
theorem d35_22 : decode c_40 22 = .ok (.isub, 1) := by decide +kernel
theorem d35_23 : decode c_40 23 = .ok (.iload_n 3, 1) := by decide +kernel
theorem d35_24 : decode c_40 24 = .ok (.invokestatic 304, 3) := by decide +kernel
theorem d35_27 : decode c_40 27 = .ok (.invokestatic 150, 3) := by decide +kernel
theorem d35_30 : decode c_40 30 = .ok (.aload 4, 2) := by decide +kernel
theorem d35_32 : decode c_40 32 = .ok (.areturn, 1) := by decide +kernel
theorem ef_cr (m : MethodId) (x0 : Addr) (x2 : Int32) : entryFrame m #[(.ref x0), (.int 0), (.int x2)] 5 = mkF m 0 #[.val (.ref x0), .val (.int 0), .val (.int x2), .unset, .unset] [] := by first | (simp [entryFrame, mkF, argsToLocals, Value.category]; done) | rfl
def Qcr (Z : State) (p3 : Int32) (bs : List Int32) (h0 : Heap) (n0 : Nat) (v : Option Value) (h : Heap) (L : List Loc) : Prop := ∃ (u : Addr) (ku : ClassId), v = some (.ref u) ∧ Fr n0 L ∧ Keep h0 h [] ∧ h0.size ≤ u ∧ Arv Z h u ku .byte p3 (List.map Value.int bs) (.int 0)
theorem rmcr (l : Launch) (Z : State) (a0 : Array Value) (hw : ∀ d ∈ tables_1, d.before a0 Z = true) (ws : List Jvm.Cond) (b : Addr) (p3 : Int32) (kb : ClassId) (z : Int32) (bs : List Int32) (t : Nat) (h0 : Heap) (n0 : Nat) (Z0 : n0 ≤ h0.size) (Vb : Arv Z h0 b kb .byte z (List.map Value.int bs) (.int 0)) (ht : p3.toInt = t) (htz : (t : Int) < z.toInt) (htc : t ≤ 22) : own_M l mN_40 jdk_65_method_133_code 5 (some (.array .byte)) ws ({ frames := 1, cells := 1, slots := 22, locals := 18 } : Room) Z h0 #[(.ref b), (.int 0), (.int p3)] (Qcr Z p3 (bs.take t) h0 n0) := by
  refine own_go #[.val (.ref b), .val (.int 0), .val (.int p3), .unset, .unset] (plainFor_of_name pn_3) (fun m => ef_cr m b p3) ?_
  intro p e s m below meth c s₁ hx hby hml hown hnm hlk X0 e0 hZ hrt
  have N0 := Fr.nil n0
  have KK := Keep.refl h0 []
  refine own_iloadN X0 hx hby d35_0 rfl ?_
  refine own_iloadN X0 hx hby d35_1 rfl ?_
  obtain ⟨_, _, ⟨T210, L210, k210, n210⟩, -, X210, ⟨Lc210, hQ210, l210, y210, z210⟩, st210⟩ := Jvm.LawKit.callS X0 hx (y := mN_10) hown (oV hZ hw 171 rfl) (oV hZ hw 172 rfl) (oV hZ hw 166 rfl) (oV hZ hw 173 rfl) (by decide) (backOf (W := 0) (rmck l Z a0 hw [] (0 : Int32) p3 h0 n0 Z0 (own_ge0 (by omega))) hZ (own_w hw 173 rfl) (own_w hw 166 rfl) (by decide) (by decide)) (g := (mkF m 2 #[.val (.ref b), .val (.int 0), .val (.int p3), .unset, .unset] [(.int p3), (.int 0)])) rfl (by rw [hml]; rfl) (argsL := [(.int 0), (.int p3)]) (rest := []) (lenOf pd_5 rfl) rfl (by exact oZ rfl) (hb hby d35_2) (fun _ _ => ⟨rfl, e0, (by decide : 0 + 0 ≤ _), (by decide : 0 + 0 ≤ _)⟩)
  dsimp only [Pt.U, Pt.locs, Pt.cells, Pt.slots] at X210 l210 y210 z210 st210 hQ210
  rw [l210, y210, z210] at X210
  obtain ⟨rfl, Nq210, e210⟩ := hQ210
  have N210 := Fr.app N0 Nq210
  refine own_of (U' := (T210.setTop (mkF m 5 #[.val (.ref b), .val (.int 0), .val (.int p3), .unset, .unset] []))) (st210) ?_
  refine own_iloadN X210 hx hby d35_5 rfl ?_
  refine own_iloadN X210 hx hby d35_6 rfl ?_
  refine own_isub X210 hx hby d35_7 ?_
  refine own_eq (U' := (T210.setTop (mkF m 8 #[.val (.ref b), .val (.int 0), .val (.int p3), .unset, .unset] [(.int p3)]))) (by rw [show (p3 - (0 : Int32)) = p3 from own_sub0 p3]) ?_
  refine own_istoreN X210 hx hby d35_8 (l' := #[.val (.ref b), .val (.int 0), .val (.int p3), .val (.int p3), .unset]) rfl ?_
  refine own_iloadN X210 hx hby d35_9 rfl ?_
  obtain ⟨T211, h211, k211, X211, e211, E211, A211, st211⟩ := newP X210 hx hZ (own_w hw 29 rfl) e210 (g := (mkF m 10 #[.val (.ref b), .val (.int 0), .val (.int p3), .val (.int p3), .unset] [(.int p3)])) rfl (hb hby d35_10) rfl (own_ge0 (by omega)) (cap := 22) (own_Nle (by omega)) (by decide) (by decide) (by decide)
  obtain ⟨b211, gz211⟩ : ∃ z, z = h0.size := ⟨_, rfl⟩
  rw [← gz211] at A211 st211
  have g_b211 : n0 ≤ b211 := nT Z0 (nE gz211.symm)
  have sz_b211 : h0.size ≤ b211 := nT KK.1 (nE gz211.symm)
  have ne_b_b211 : b ≠ b211 := Nat.ne_of_lt (Nat.lt_of_lt_of_le Vb.lt (nE gz211.symm))
  replace Z0 := nT Z0 E211.1
  replace Vb := Vb.ext E211
  replace KK := KK.ext E211
  have V211 : Arv Z h211 b211 k211 .byte p3 (List.map Value.int ([] : List Int32)) (.int 0) := Arv.new A211 (own_ge0 (by omega))
  refine own_of (U' := (T211.setTop (mkF m 12 #[.val (.ref b), .val (.int 0), .val (.int p3), .val (.int p3), .unset] [(.ref b211)]))) (st211) ?_
  refine own_astore X211 hx hby d35_12 rfl (l' := #[.val (.ref b), .val (.int 0), .val (.int p3), .val (.int p3), .val (.ref b211)]) rfl ?_
  refine own_aloadN X211 hx hby d35_14 rfl rfl ?_
  refine own_iloadN X211 hx hby d35_15 rfl ?_
  refine own_aload X211 hx hby d35_16 rfl rfl ?_
  refine own_iconst X211 hx hby 0 d35_18 rfl ?_
  refine own_aloadN X211 hx hby d35_19 rfl rfl ?_
  obtain ⟨cl212, Ar212, qa212, Sa212, Na212, -, -⟩ := id Vb
  have al212 := X211.arraylength hx (by rw [e211]; exact Ar212.1) (State.isArrayOf_alike hZ.alike Ar212.2.1) (g := (mkF m 20 #[.val (.ref b), .val (.int 0), .val (.int p3), .val (.int p3), .val (.ref b211)] [(.ref b), (.int 0), (.ref b211), (.int 0), (.ref b)])) rfl rfl (hb hby d35_20)
  rw [len_of Sa212 Na212] at al212
  refine own_of (U' := (T211.setTop (mkF m 21 #[.val (.ref b), .val (.int 0), .val (.int p3), .val (.int p3), .val (.ref b211)] [(.int z), (.int 0), (.ref b211), (.int 0), (.ref b)]))) (al212) ?_
  refine own_iloadN X211 hx hby d35_21 rfl ?_
  refine own_isub X211 hx hby d35_22 ?_
  refine own_iloadN X211 hx hby d35_23 rfl ?_
  obtain ⟨_, _, ⟨T213, L213, k213, n213⟩, -, X213, ⟨Lc213, hQ213, l213, y213, z213⟩, st213⟩ := Jvm.LawKit.callS X211 hx (y := mN_8) hown (oV hZ hw 174 rfl) (oV hZ hw 175 rfl) (oV hZ hw 176 rfl) (oV hZ hw 177 rfl) (by decide) (backOf (W := 4) (rmmin l Z a0 hw [] (z - (0 : Int32)) p3 h211 n0 Z0 ) hZ (own_w hw 177 rfl) (own_w hw 176 rfl) (by decide) (by decide)) (g := (mkF m 24 #[.val (.ref b), .val (.int 0), .val (.int p3), .val (.int p3), .val (.ref b211)] [(.int p3), (.int (z - (0 : Int32))), (.int 0), (.ref b211), (.int 0), (.ref b)])) rfl (by rw [hml]; rfl) (argsL := [(.int (z - (0 : Int32))), (.int p3)]) (rest := [(.int 0), (.ref b211), (.int 0), (.ref b)]) (lenOf pd_23 rfl) rfl (by exact oZ rfl) (hb hby d35_24) (fun _ _ => ⟨rfl, e211, (by decide : 1 + 0 ≤ _), (by decide : 22 + 0 ≤ _)⟩)
  dsimp only [Pt.U, Pt.locs, Pt.cells, Pt.slots] at X213 l213 y213 z213 st213 hQ213
  rw [l213, y213, z213] at X213
  obtain ⟨rfl, Nq213, e213⟩ := hQ213
  have N213 := Fr.app N210 Nq213
  refine own_of (U' := (T213.setTop (mkF m 27 #[.val (.ref b), .val (.int 0), .val (.int p3), .val (.int p3), .val (.ref b211)] [(.int (own_min (z - (0 : Int32)) p3)), (.int 0), (.ref b211), (.int 0), (.ref b)]))) (st213) ?_
  refine own_eq (U' := (T213.setTop (mkF m 27 #[.val (.ref b), .val (.int 0), .val (.int p3), .val (.int p3), .val (.ref b211)] [(.int p3), (.int 0), (.ref b211), (.int 0), (.ref b)]))) (by rw [show (own_min (z - (0 : Int32)) p3) = p3 from own_minr (by rw [own_sub0]; omega)]) ?_
  have Vp214 := Arv.pad V211 (own_padk ([] : List Int32) (p3).toNatClampNeg)
  obtain ⟨T214, h214, L214, X214, e214, N214, Kp214, Vr214, st214⟩ := cpA X213 hx hZ hown (own_w hw 178 rfl) (own_w hw 122 rfl) (own_w hw 120 rfl) (own_w hw 121 rfl) e213 Vb Vp214 (Or.inl ⟨rfl, rfl⟩) (sp := (0 : Int32)) (dp := (0 : Int32)) (nn := p3) (by decide) (by decide) (own_ge0 (by omega)) (by rw [own_z0, own_clamp ht, Nat.zero_add]; exact own_leN (by omega)) (by rw [own_z0, Nat.zero_add]; exact Nat.le_refl _) (us := _) rfl (own_cpl ([] : List Int32) rfl) N213 g_b211 (g := (mkF m 27 #[.val (.ref b), .val (.int 0), .val (.int p3), .val (.int p3), .val (.ref b211)] [(.int p3), (.int 0), (.ref b211), (.int 0), (.ref b)])) rfl (by rw [hml]; rfl) rfl (hb hby d35_27) (by decide) (W := 0) (by exact oZ rfl) (by decide)
  replace Z0 := nT Z0 Kp214.1
  replace Vb := Vb.keep Kp214 (ninS ne_b_b211 nin0)
  replace KK := KK.trans Kp214 (allS (Or.inr sz_b211) all0)
  have Vn214 : Arv Z h214 b211 k211 .byte p3 (List.map Value.int (bs.take t)) (.int 0) := (by have q := Arv.pad Vr214 (own_cpI ([] : List Int32) bs rfl rfl); rw [own_taket ht] at q; exact q)
  refine own_of (U' := (T214.setTop (mkF m 30 #[.val (.ref b), .val (.int 0), .val (.int p3), .val (.int p3), .val (.ref b211)] []))) (st214) ?_
  refine own_aload X214 hx hby d35_30 rfl rfl ?_
  exact own_retA X214 hx hlk hrt rfl rfl (hb hby d35_32) (by decide) (by decide) (by rw [e214]; exact ⟨b211, k211, rfl, N214, KK, sz_b211, Vn214⟩)
abbrev mN_41 : MethodName := ⟨"java/util/Arrays", "copyOfRange", "([BII)[B"⟩
theorem pd_24 : parseMethodDescriptor "([BII)[B" = some ⟨[(.array .byte), .int, .int], some (.array .byte)⟩ := by decide +kernel
theorem d34_0 : decode c_41 0 = .ok (.iload_n 1, 1) := by decide +kernel
theorem d34_1 : decode c_41 1 = .ok (.ifCond .ne 9, 3) := by decide +kernel
theorem d34_4 : decode c_41 4 = .ok (.iload_n 2, 1) := by decide +kernel
theorem d34_5 : decode c_41 5 = .ok (.aload_n 0, 1) := by decide +kernel
theorem d34_6 : decode c_41 6 = .ok (.arraylength, 1) := by decide +kernel
theorem d34_7 : decode c_41 7 = .ok (.if_icmp .eq 10, 3) := by decide +kernel
theorem d34_10 : decode c_41 10 = .ok (.aload_n 0, 1) := by decide +kernel
theorem d34_11 : decode c_41 11 = .ok (.iload_n 1, 1) := by decide +kernel
theorem d34_12 : decode c_41 12 = .ok (.iload_n 2, 1) := by decide +kernel
theorem d34_13 : decode c_41 13 = .ok (.invokestatic 339, 3) := by decide +kernel
theorem d34_16 : decode c_41 16 = .ok (.areturn, 1) := by decide +kernel
theorem ef_cg (m : MethodId) (x0 : Addr) (x2 : Int32) : entryFrame m #[(.ref x0), (.int 0), (.int x2)] 3 = mkF m 0 #[.val (.ref x0), .val (.int 0), .val (.int x2)] [] := by first | (simp [entryFrame, mkF, argsToLocals, Value.category]; done) | rfl
theorem rmcg (l : Launch) (Z : State) (a0 : Array Value) (hw : ∀ d ∈ tables_1, d.before a0 Z = true) (ws : List Jvm.Cond) (b : Addr) (p3 : Int32) (kb : ClassId) (z : Int32) (bs : List Int32) (t : Nat) (h0 : Heap) (n0 : Nat) (Z0 : n0 ≤ h0.size) (Vb : Arv Z h0 b kb .byte z (List.map Value.int bs) (.int 0)) (ht : p3.toInt = t) (htz : (t : Int) < z.toInt) (htc : t ≤ 22) : own_M l mN_41 jdk_65_method_132_code 3 (some (.array .byte)) ws ({ frames := 2, cells := 1, slots := 22, locals := 34 } : Room) Z h0 #[(.ref b), (.int 0), (.int p3)] (Qcr Z p3 (bs.take t) h0 n0) := by
  refine own_go #[.val (.ref b), .val (.int 0), .val (.int p3)] (plainFor_of_name pn_3) (fun m => ef_cg m b p3) ?_
  intro p e s m below meth c s₁ hx hby hml hown hnm hlk X0 e0 hZ hrt
  have N0 := Fr.nil n0
  have KK := Keep.refl h0 []
  refine own_iloadN X0 hx hby d34_0 rfl ?_
  have hc1_215 : (0 : Int32) = (0 : Int32) := by decide
  refine own_ifNo X0 hx hby d34_1 ((if0 _ _).trans (teq hc1_215).2) ?_
  refine own_iloadN X0 hx hby d34_4 rfl ?_
  refine own_aloadN X0 hx hby d34_5 rfl rfl ?_
  obtain ⟨cl216, Ar216, qa216, Sa216, Na216, -, -⟩ := id Vb
  have al216 := X0.arraylength hx (by rw [e0]; exact Ar216.1) (State.isArrayOf_alike hZ.alike Ar216.2.1) (g := (mkF m 6 #[.val (.ref b), .val (.int 0), .val (.int p3)] [(.ref b), (.int p3)])) rfl rfl (hb hby d34_6)
  rw [len_of Sa216 Na216] at al216
  refine own_of (U' := (s₁.setTop (mkF m 7 #[.val (.ref b), .val (.int 0), .val (.int p3)] [(.int z), (.int p3)]))) (al216) ?_
  have hc7_217 : ¬ (p3 = z) := fun q => by rw [q] at ht; omega
  refine own_icmpNo X0 hx hby d34_7 (feq hc7_217).1 ?_
  refine own_aloadN X0 hx hby d34_10 rfl rfl ?_
  refine own_iloadN X0 hx hby d34_11 rfl ?_
  refine own_iloadN X0 hx hby d34_12 rfl ?_
  obtain ⟨_, _, ⟨T218, L218, k218, n218⟩, -, X218, ⟨Lc218, hQ218, l218, y218, z218⟩, st218⟩ := Jvm.LawKit.callS X0 hx (y := mN_40) hown (oV hZ hw 168 rfl) (oV hZ hw 169 rfl) (oV hZ hw 166 rfl) (oV hZ hw 170 rfl) (by decide) (backOf (W := 0) (rmcr l Z a0 hw [] b p3 kb z bs t h0 n0 Z0 Vb ht htz htc) hZ (own_w hw 170 rfl) (own_w hw 166 rfl) (by decide) (by decide)) (g := (mkF m 13 #[.val (.ref b), .val (.int 0), .val (.int p3)] [(.int p3), (.int 0), (.ref b)])) rfl (by rw [hml]; rfl) (argsL := [(.ref b), (.int 0), (.int p3)]) (rest := []) (lenOf pd_24 rfl) rfl (by exact oZ rfl) (hb hby d34_13) (fun _ _ => ⟨rfl, e0, (by decide : 0 + 1 ≤ _), (by decide : 0 + 22 ≤ _)⟩)
  dsimp only [Pt.U, Pt.locs, Pt.cells, Pt.slots] at X218 l218 y218 z218 st218 hQ218
  rw [l218, y218, z218] at X218
  obtain ⟨u218, ku218, rfl, Nq218, Kp218, gq218, Vq218⟩ := hQ218
  have g_u218 : n0 ≤ u218 := nT Z0 gq218
  have sz_u218 : h0.size ≤ u218 := nT KK.1 gq218
  have ne_b_u218 : b ≠ u218 := nL Vb.lt gq218
  have N218 := Fr.app N0 Nq218
  replace Z0 := nT Z0 Kp218.1
  replace Vb := Vb.keep Kp218 nin0
  replace KK := KK.trans Kp218 all0
  refine own_of (U' := (T218.setTop (mkF m 16 #[.val (.ref b), .val (.int 0), .val (.int p3)] [(.ref u218)]))) (st218) ?_
  exact own_retA X218 hx hlk hrt rfl rfl (hb hby d34_16) (by decide) (by decide) (⟨u218, ku218, rfl, N218, KK, sz_u218, Vq218⟩)
abbrev mN_42 : MethodName := ⟨"java/lang/String", "<init>", "([BB)V"⟩
theorem d13_0 : decode c_42 0 = .ok (.aload_n 0, 1) := by decide +kernel
theorem d13_1 : decode c_42 1 = .ok (.invokespecial 1, 3) := by decide +kernel
theorem d13_4 : decode c_42 4 = .ok (.aload_n 0, 1) := by decide +kernel
theorem d13_5 : decode c_42 5 = .ok (.aload_n 1, 1) := by decide +kernel
theorem d13_6 : decode c_42 6 = .ok (.putfield 9, 3) := by decide +kernel
theorem d13_9 : decode c_42 9 = .ok (.aload_n 0, 1) := by decide +kernel
theorem d13_10 : decode c_42 10 = .ok (.iload_n 2, 1) := by decide +kernel
theorem d13_11 : decode c_42 11 = .ok (.putfield 15, 3) := by decide +kernel
theorem d13_14 : decode c_42 14 = .ok (.return_, 1) := by decide +kernel
theorem ef_bb0 (m : MethodId) (x0 : Addr) (x1 : Addr) : entryFrame m #[(.ref x0), (.ref x1), (.int 0)] 3 = mkF m 0 #[.val (.ref x0), .val (.ref x1), .val (.int 0)] [] := by first | (simp [entryFrame, mkF, argsToLocals, Value.category]; done) | rfl
def Qbb (Z : State) (a1 a2 : Addr) (cd : Int32) (h0 : Heap) (n0 : Nat) (v : Option Value) (h : Heap) (L : List Loc) : Prop := v = none ∧ Fr n0 L ∧ Keep h0 h [a1] ∧ Fld Z h a1 "java/lang/String" "coder" "B" (.int cd) ∧ Fld Z h a1 "java/lang/String" "value" "[B" (.ref a2)
theorem rmbb0 (l : Launch) (Z : State) (a0 : Array Value) (hw : ∀ d ∈ tables_1, d.before a0 Z = true) (ws : List Jvm.Cond) (a1 a2 : Addr) (h0 : Heap) (n0 : Nat) (Z0 : n0 ≤ h0.size) (E1 : Exa Z h0 a1 "java/lang/String") (Fc : Fld Z h0 a1 "java/lang/String" "coder" "B" (.int 0)) (Fv : Fld Z h0 a1 "java/lang/String" "value" "[B" .null) (g_a1 : n0 ≤ a1) : own_M l mN_42 jdk_42_method_151_code 3 none ws ({ frames := 1, cells := 0, slots := 0, locals := 12 } : Room) Z h0 #[(.ref a1), (.ref a2), (.int 0)] (Qbb Z a1 a2 (0 : Int32) h0 n0) := by
  refine own_go #[.val (.ref a1), .val (.ref a2), .val (.int 0)] (plainFor_of_name pn_0) (fun m => ef_bb0 m a1 a2) ?_
  intro p e s m below meth c s₁ hx hby hml hown hnm hlk X0 e0 hZ hrt
  have N0 := Fr.nil n0
  have KK := Keep.refl h0 [a1]
  refine own_aloadN X0 hx hby d13_0 rfl rfl ?_
  obtain ⟨T219, X219, e219, st219⟩ := initO X0 hx hZ hown (own_w hw 21 rfl) (own_w hw 22 rfl) (own_w hw 23 rfl) e0 (g := (mkF m 1 #[.val (.ref a1), .val (.ref a2), .val (.int 0)] [(.ref a1)])) rfl (by rw [hml]; rfl) rfl (hb hby d13_1) (by decide) (W := 0) (by exact oZ rfl) (by decide)
  refine own_of (U' := (T219.setTop (mkF m 4 #[.val (.ref a1), .val (.ref a2), .val (.int 0)] []))) (st219) ?_
  refine own_aloadN X219 hx hby d13_4 rfl rfl ?_
  refine own_aloadN X219 hx hby d13_5 rfl rfl ?_
  obtain ⟨T220, h220, X220, e220, W220, st220⟩ := putF X219 hx hZ hown (host := "") (Or.inl (own_w hw 38 rfl)) Via.refl e219 Fv E1 (Or.inr ⟨(own_w hw 39 rfl), rfl, hnm⟩) (own_w hw 11 rfl) (ty := (.array .byte)) (by decide) rfl rfl (g := (mkF m 6 #[.val (.ref a1), .val (.ref a2), .val (.int 0)] [(.ref a2), (.ref a1)])) rfl rfl (hb hby d13_6)
  replace Z0 := nT Z0 (Keep.of_wr W220).1
  replace E1 := E1.wr W220
  replace Fc := Fc.other W220 (Or.inr (slot_ne (Or.inr (own_w hw 37 rfl)) (Or.inr (own_w hw 39 rfl)) (by decide) (t := .byte) (t' := (.array .byte)) (by decide) (by decide)))
  replace Fv := Fv.same W220
  replace KK := KK.wr W220 (Or.inl (List.mem_of_getElem? (i := 0) rfl))
  have N220 := Fr.snoc X220 N0 g_a1
  refine own_of (U' := (T220.setTop (mkF m 9 #[.val (.ref a1), .val (.ref a2), .val (.int 0)] []))) (st220) ?_
  refine own_aloadN X220 hx hby d13_9 rfl rfl ?_
  refine own_iloadN X220 hx hby d13_10 rfl ?_
  obtain ⟨T221, h221, X221, e221, W221, st221⟩ := putFN X220 hx hZ hown (own_w hw 36 rfl) Via.refl e220 Fc E1 (Or.inr ⟨(own_w hw 37 rfl), rfl, hnm⟩) (own_w hw 11 rfl) (ty := .byte) (v' := (.int 0)) (by decide) rfl (by decide) (g := (mkF m 11 #[.val (.ref a1), .val (.ref a2), .val (.int 0)] [(.int 0), (.ref a1)])) rfl rfl (hb hby d13_11)
  replace Z0 := nT Z0 (Keep.of_wr W221).1
  replace E1 := E1.wr W221
  replace Fc := Fc.same W221
  replace Fv := Fv.other W221 (Or.inr (slot_ne (Or.inr (own_w hw 39 rfl)) (Or.inr (own_w hw 37 rfl)) (by decide) (t := (.array .byte)) (t' := .byte) (by decide) (by decide)))
  replace KK := KK.wr W221 (Or.inl (List.mem_of_getElem? (i := 0) rfl))
  have N221 := Fr.snoc X221 N220 g_a1
  refine own_of (U' := (T221.setTop (mkF m 14 #[.val (.ref a1), .val (.ref a2), .val (.int 0)] []))) (st221) ?_
  exact own_ret0 X221 hx hlk hrt (hb hby d13_14) (by decide) (by decide) (by rw [e221]; exact ⟨rfl, N221, KK, Fc, Fv⟩)
theorem ef_bb1 (m : MethodId) (x0 : Addr) (x1 : Addr) : entryFrame m #[(.ref x0), (.ref x1), (.int 1)] 3 = mkF m 0 #[.val (.ref x0), .val (.ref x1), .val (.int 1)] [] := by first | (simp [entryFrame, mkF, argsToLocals, Value.category]; done) | rfl
theorem rmbb1 (l : Launch) (Z : State) (a0 : Array Value) (hw : ∀ d ∈ tables_1, d.before a0 Z = true) (ws : List Jvm.Cond) (a1 a2 : Addr) (h0 : Heap) (n0 : Nat) (Z0 : n0 ≤ h0.size) (E1 : Exa Z h0 a1 "java/lang/String") (Fc : Fld Z h0 a1 "java/lang/String" "coder" "B" (.int 0)) (Fv : Fld Z h0 a1 "java/lang/String" "value" "[B" .null) (g_a1 : n0 ≤ a1) : own_M l mN_42 jdk_42_method_151_code 3 none ws ({ frames := 1, cells := 0, slots := 0, locals := 12 } : Room) Z h0 #[(.ref a1), (.ref a2), (.int 1)] (Qbb Z a1 a2 (1 : Int32) h0 n0) := by
  refine own_go #[.val (.ref a1), .val (.ref a2), .val (.int 1)] (plainFor_of_name pn_0) (fun m => ef_bb1 m a1 a2) ?_
  intro p e s m below meth c s₁ hx hby hml hown hnm hlk X0 e0 hZ hrt
  have N0 := Fr.nil n0
  have KK := Keep.refl h0 [a1]
  refine own_aloadN X0 hx hby d13_0 rfl rfl ?_
  obtain ⟨T222, X222, e222, st222⟩ := initO X0 hx hZ hown (own_w hw 21 rfl) (own_w hw 22 rfl) (own_w hw 23 rfl) e0 (g := (mkF m 1 #[.val (.ref a1), .val (.ref a2), .val (.int 1)] [(.ref a1)])) rfl (by rw [hml]; rfl) rfl (hb hby d13_1) (by decide) (W := 0) (by exact oZ rfl) (by decide)
  refine own_of (U' := (T222.setTop (mkF m 4 #[.val (.ref a1), .val (.ref a2), .val (.int 1)] []))) (st222) ?_
  refine own_aloadN X222 hx hby d13_4 rfl rfl ?_
  refine own_aloadN X222 hx hby d13_5 rfl rfl ?_
  obtain ⟨T223, h223, X223, e223, W223, st223⟩ := putF X222 hx hZ hown (host := "") (Or.inl (own_w hw 38 rfl)) Via.refl e222 Fv E1 (Or.inr ⟨(own_w hw 39 rfl), rfl, hnm⟩) (own_w hw 11 rfl) (ty := (.array .byte)) (by decide) rfl rfl (g := (mkF m 6 #[.val (.ref a1), .val (.ref a2), .val (.int 1)] [(.ref a2), (.ref a1)])) rfl rfl (hb hby d13_6)
  replace Z0 := nT Z0 (Keep.of_wr W223).1
  replace E1 := E1.wr W223
  replace Fc := Fc.other W223 (Or.inr (slot_ne (Or.inr (own_w hw 37 rfl)) (Or.inr (own_w hw 39 rfl)) (by decide) (t := .byte) (t' := (.array .byte)) (by decide) (by decide)))
  replace Fv := Fv.same W223
  replace KK := KK.wr W223 (Or.inl (List.mem_of_getElem? (i := 0) rfl))
  have N223 := Fr.snoc X223 N0 g_a1
  refine own_of (U' := (T223.setTop (mkF m 9 #[.val (.ref a1), .val (.ref a2), .val (.int 1)] []))) (st223) ?_
  refine own_aloadN X223 hx hby d13_9 rfl rfl ?_
  refine own_iloadN X223 hx hby d13_10 rfl ?_
  obtain ⟨T224, h224, X224, e224, W224, st224⟩ := putFN X223 hx hZ hown (own_w hw 36 rfl) Via.refl e223 Fc E1 (Or.inr ⟨(own_w hw 37 rfl), rfl, hnm⟩) (own_w hw 11 rfl) (ty := .byte) (v' := (.int 1)) (by decide) rfl (by decide) (g := (mkF m 11 #[.val (.ref a1), .val (.ref a2), .val (.int 1)] [(.int 1), (.ref a1)])) rfl rfl (hb hby d13_11)
  replace Z0 := nT Z0 (Keep.of_wr W224).1
  replace E1 := E1.wr W224
  replace Fc := Fc.same W224
  replace Fv := Fv.other W224 (Or.inr (slot_ne (Or.inr (own_w hw 39 rfl)) (Or.inr (own_w hw 37 rfl)) (by decide) (t := (.array .byte)) (t' := .byte) (by decide) (by decide)))
  replace KK := KK.wr W224 (Or.inl (List.mem_of_getElem? (i := 0) rfl))
  have N224 := Fr.snoc X224 N223 g_a1
  refine own_of (U' := (T224.setTop (mkF m 14 #[.val (.ref a1), .val (.ref a2), .val (.int 1)] []))) (st224) ?_
  exact own_ret0 X224 hx hlk hrt (hb hby d13_14) (by decide) (by decide) (by rw [e224]; exact ⟨rfl, N224, KK, Fc, Fv⟩)
abbrev mN_43 : MethodName := ⟨"java/lang/String", "<init>", "(Ljava/lang/AbstractStringBuilder;Ljava/lang/Void;)V"⟩
theorem pd_25 : parseMethodDescriptor "()[B" = some ⟨[], some (.array .byte)⟩ := by decide +kernel
theorem d30_0 : decode c_43 0 = .ok (.aload_n 0, 1) := by decide +kernel
theorem d30_1 : decode c_43 1 = .ok (.invokespecial 1, 3) := by decide +kernel
theorem d30_4 : decode c_43 4 = .ok (.aload_n 1, 1) := by decide +kernel
theorem d30_5 : decode c_43 5 = .ok (.invokevirtual 552, 3) := by decide +kernel
theorem d30_8 : decode c_43 8 = .ok (.astore_n 3, 1) := by decide +kernel
theorem d30_9 : decode c_43 9 = .ok (.aload_n 1, 1) := by decide +kernel
theorem d30_10 : decode c_43 10 = .ok (.invokevirtual 549, 3) := by decide +kernel
theorem d30_13 : decode c_43 13 = .ok (.istore 4, 2) := by decide +kernel
theorem d30_15 : decode c_43 15 = .ok (.aload_n 1, 1) := by decide +kernel
theorem d30_16 : decode c_43 16 = .ok (.invokevirtual 1047, 3) := by decide +kernel
theorem d30_19 : decode c_43 19 = .ok (.ifCond .eq 22, 3) := by decide +kernel
theorem d30_22 : decode c_43 22 = .ok (.aload_n 0, 1) := by decide +kernel
theorem d30_23 : decode c_43 23 = .ok (.iconst 0, 1) := by decide +kernel
theorem d30_24 : decode c_43 24 = .ok (.putfield 15, 3) := by decide +kernel
theorem d30_27 : decode c_43 27 = .ok (.aload_n 0, 1) := by decide +kernel
theorem d30_28 : decode c_43 28 = .ok (.aload_n 3, 1) := by decide +kernel
theorem d30_29 : decode c_43 29 = .ok (.iconst 0, 1) := by decide +kernel
theorem d30_30 : decode c_43 30 = .ok (.iload 4, 2) := by decide +kernel
theorem d30_32 : decode c_43 32 = .ok (.invokestatic 54, 3) := by decide +kernel
theorem d30_35 : decode c_43 35 = .ok (.putfield 9, 3) := by decide +kernel
theorem d30_38 : decode c_43 38 = .ok (.goto 59, 3) := by decide +kernel
theorem d30_97 : decode c_43 97 = .ok (.return_, 1) := by decide +kernel
theorem ef_st0 (m : MethodId) (x0 : Addr) (x1 : Addr) : entryFrame m #[(.ref x0), (.ref x1), .null] 5 = mkF m 0 #[.val (.ref x0), .val (.ref x1), .val .null, .unset, .unset] [] := by first | (simp [entryFrame, mkF, argsToLocals, Value.category]; done) | rfl
theorem rmst0 (l : Launch) (Z : State) (a0 : Array Value) (hw : ∀ d ∈ tables_1, d.before a0 Z = true) (ws : List Jvm.Cond) (a3 : Addr) (g1 : Int32) (a1 b : Addr) (kb : ClassId) (n : Int32) (cs : List Int32) (h0 : Heap) (n0 : Nat) (Z0 : n0 ≤ h0.size) (E3 : Exa Z h0 a3 "java/lang/String") (Hc : Fld Z h0 a3 "java/lang/String" "coder" "B" (.int 0)) (Hv : Fld Z h0 a3 "java/lang/String" "value" "[B" .null) (g_a3 : n0 ≤ a3) (n31 : a3 ≠ a1) (n3b : a3 ≠ b) (E1 : Exa Z h0 a1 "java/lang/StringBuilder") (Fv : Fld Z h0 a1 "java/lang/AbstractStringBuilder" "value" "[B" (.ref b)) (Fn : Fld Z h0 a1 "java/lang/AbstractStringBuilder" "count" "I" (.int n)) (Fm : Fld Z h0 a1 "java/lang/AbstractStringBuilder" "maybeLatin1" "Z" (.int 0)) (Fc : Fld Z h0 a1 "java/lang/AbstractStringBuilder" "coder" "B" (.int 0)) (Vb : Arv Z h0 b kb .byte (16 : Int32) (List.map Value.int (List.map own_b8 cs)) (.int 0)) (hn : n.toInt = cs.length) (hm : cs.length ≤ 11) (lt : own_lat cs) (neab : a1 ≠ b) (SC : Sta Z h0 "java/lang/String" "COMPACT_STRINGS" "Z" (.int g1)) (hg1 : ¬ (g1 = (0 : Int32))) : own_M l mN_43 jdk_42_method_150_code 5 none ws ({ frames := 3, cells := 1, slots := 22, locals := 49 } : Room) Z h0 #[(.ref a3), (.ref a1), .null] (Qst Z a3 cs h0 n0) := by
  refine own_go #[.val (.ref a3), .val (.ref a1), .val .null, .unset, .unset] (plainFor_of_name pn_0) (fun m => ef_st0 m a3 a1) ?_
  intro p e s m below meth c s₁ hx hby hml hown hnm hlk X0 e0 hZ hrt
  have N0 := Fr.nil n0
  have KK := Keep.refl h0 [a3]
  refine own_aloadN X0 hx hby d30_0 rfl rfl ?_
  obtain ⟨T225, X225, e225, st225⟩ := initO X0 hx hZ hown (own_w hw 21 rfl) (own_w hw 22 rfl) (own_w hw 23 rfl) e0 (g := (mkF m 1 #[.val (.ref a3), .val (.ref a1), .val .null, .unset, .unset] [(.ref a3)])) rfl (by rw [hml]; rfl) rfl (hb hby d30_1) (by decide) (W := 0) (by exact oZ rfl) (by decide)
  refine own_of (U' := (T225.setTop (mkF m 4 #[.val (.ref a3), .val (.ref a1), .val .null, .unset, .unset] []))) (st225) ?_
  refine own_aloadN X225 hx hby d30_4 rfl rfl ?_
  obtain ⟨cq226, kq226, q226a, q226b, q226c⟩ := isOf hZ e225 E1
  obtain ⟨_, _, ⟨T226, L226, k226, n226⟩, -, X226, ⟨Lc226, hQ226, l226, y226, z226⟩, st226⟩ := X225.virtualBack hx (y := mN_4) (z := mN_4) hown (oV hZ hw 150 rfl) (oV hZ hw 151 rfl) (notFace_of_selects (args := #[]) (oV hZ hw 153 rfl)) (oV hZ hw 153 rfl) (oV hZ hw 152 rfl) (by decide) (backOf (W := 0) (rmgv l Z a0 hw [] a1 b h0 n0 Z0 Fv) hZ (own_w hw 154 rfl) (own_w hw 68 rfl) (by decide) (by decide)) q226a q226c (g := (mkF m 5 #[.val (.ref a3), .val (.ref a1), .val .null, .unset, .unset] [(.ref a1)])) rfl (by rw [hml]; rfl) (Steps.refl _) (argsL := []) (rest := []) (lenOf pd_25 rfl) rfl (by exact oZ rfl) (hb hby d30_5) (fun _ _ => ⟨rfl, e225, (by decide : 0 + 0 ≤ _), (by decide : 0 + 0 ≤ _)⟩)
  dsimp only [Pt.U, Pt.locs, Pt.cells, Pt.slots] at X226 l226 y226 z226 st226 hQ226
  rw [l226, y226, z226] at X226
  obtain ⟨rfl, Nq226, e226⟩ := hQ226
  have N226 := Fr.app N0 Nq226
  refine own_of (U' := (T226.setTop (mkF m 8 #[.val (.ref a3), .val (.ref a1), .val .null, .unset, .unset] [(.ref b)]))) (fun _ k => st226.trans k) ?_
  refine own_astoreN X226 hx hby d30_8 rfl (l' := #[.val (.ref a3), .val (.ref a1), .val .null, .val (.ref b), .unset]) rfl ?_
  refine own_aloadN X226 hx hby d30_9 rfl rfl ?_
  obtain ⟨cq227, kq227, q227a, q227b, q227c⟩ := isOf hZ e226 E1
  obtain ⟨_, _, ⟨T227, L227, k227, n227⟩, -, X227, ⟨Lc227, hQ227, l227, y227, z227⟩, st227⟩ := X226.virtualBack hx (y := mN_5) (z := mN_6) hown (oV hZ hw 155 rfl) (oV hZ hw 156 rfl) (own_notFace (y := mN_5) (w := mN_7) (args := #[]) (oV hZ hw 101 rfl) rfl) (oV hZ hw 158 rfl) (oV hZ hw 159 rfl) (by decide) (backOf (W := 0) (rmsl l Z a0 hw [] a1 n h0 n0 Z0 E1 Fn) hZ (own_w hw 160 rfl) (own_w hw 60 rfl) (by decide) (by decide)) q227a q227c (g := (mkF m 10 #[.val (.ref a3), .val (.ref a1), .val .null, .val (.ref b), .unset] [(.ref a1)])) rfl (by rw [hml]; rfl) (Steps.refl _) (argsL := []) (rest := []) (lenOf pd_1 rfl) rfl (by exact oZ rfl) (hb hby d30_10) (fun _ _ => ⟨rfl, e226, (by decide : 0 + 0 ≤ _), (by decide : 0 + 0 ≤ _)⟩)
  dsimp only [Pt.U, Pt.locs, Pt.cells, Pt.slots] at X227 l227 y227 z227 st227 hQ227
  rw [l227, y227, z227] at X227
  obtain ⟨rfl, Nq227, e227⟩ := hQ227
  have N227 := Fr.app N226 Nq227
  refine own_of (U' := (T227.setTop (mkF m 13 #[.val (.ref a3), .val (.ref a1), .val .null, .val (.ref b), .unset] [(.int n)]))) (fun _ k => st227.trans k) ?_
  refine own_istore X227 hx hby d30_13 (l' := #[.val (.ref a3), .val (.ref a1), .val .null, .val (.ref b), .val (.int n)]) rfl ?_
  refine own_aloadN X227 hx hby d30_15 rfl rfl ?_
  obtain ⟨cq228, kq228, q228a, q228b, q228c⟩ := isOf hZ e227 E1
  obtain ⟨_, _, ⟨T228, L228, k228, n228⟩, -, X228, ⟨Lc228, hQ228, l228, y228, z228⟩, st228⟩ := X227.virtualBack hx (y := mN_3) (z := mN_3) hown (oV hZ hw 163 rfl) (oV hZ hw 133 rfl) (notFace_of_selects (args := #[]) (oV hZ hw 135 rfl)) (oV hZ hw 135 rfl) (oV hZ hw 134 rfl) (by decide) (backOf (W := 0) (rmab0 l Z a0 hw [] a1 g1 h0 n0 Z0 Fc SC hg1) hZ (own_w hw 136 rfl) (own_w hw 68 rfl) (by decide) (by decide)) q228a q228c (g := (mkF m 16 #[.val (.ref a3), .val (.ref a1), .val .null, .val (.ref b), .val (.int n)] [(.ref a1)])) rfl (by rw [hml]; rfl) (Steps.refl _) (argsL := []) (rest := []) (lenOf pd_13 rfl) rfl (by exact oZ rfl) (hb hby d30_16) (fun _ _ => ⟨rfl, e227, (by decide : 0 + 0 ≤ _), (by decide : 0 + 0 ≤ _)⟩)
  dsimp only [Pt.U, Pt.locs, Pt.cells, Pt.slots] at X228 l228 y228 z228 st228 hQ228
  rw [l228, y228, z228] at X228
  obtain ⟨rfl, Nq228, e228⟩ := hQ228
  have N228 := Fr.app N227 Nq228
  refine own_of (U' := (T228.setTop (mkF m 19 #[.val (.ref a3), .val (.ref a1), .val .null, .val (.ref b), .val (.int n)] [(.int 1)]))) (fun _ k => st228.trans k) ?_
  have hc19_229 : ¬ ((1 : Int32) = (0 : Int32)) := by decide
  refine own_ifNo X228 hx hby d30_19 ((if0 _ _).trans (feq hc19_229).1) ?_
  refine own_aloadN X228 hx hby d30_22 rfl rfl ?_
  refine own_iconst X228 hx hby 0 d30_23 rfl ?_
  obtain ⟨T230, h230, X230, e230, W230, st230⟩ := putFN X228 hx hZ hown (own_w hw 36 rfl) Via.refl e228 Hc E3 (Or.inr ⟨(own_w hw 37 rfl), rfl, hnm⟩) (own_w hw 11 rfl) (ty := .byte) (v' := (.int 0)) (by decide) rfl (by decide) (g := (mkF m 24 #[.val (.ref a3), .val (.ref a1), .val .null, .val (.ref b), .val (.int n)] [(.int 0), (.ref a3)])) rfl rfl (hb hby d30_24)
  replace Z0 := nT Z0 (Keep.of_wr W230).1
  replace E3 := E3.wr W230
  replace Hc := Hc.same W230
  replace Hv := Hv.other W230 (Or.inr (slot_ne (Or.inr (own_w hw 39 rfl)) (Or.inr (own_w hw 37 rfl)) (by decide) (t := (.array .byte)) (t' := .byte) (by decide) (by decide)))
  replace E1 := E1.wr W230
  replace Fv := Fv.other W230 (Or.inl (Ne.symm n31))
  replace Fn := Fn.other W230 (Or.inl (Ne.symm n31))
  replace Fm := Fm.other W230 (Or.inl (Ne.symm n31))
  replace Fc := Fc.other W230 (Or.inl (Ne.symm n31))
  replace Vb := Vb.other W230 (Ne.symm n3b)
  replace SC := SC.wr W230
  replace KK := KK.wr W230 (Or.inl (List.mem_of_getElem? (i := 0) rfl))
  have N230 := Fr.snoc X230 N228 g_a3
  refine own_of (U' := (T230.setTop (mkF m 27 #[.val (.ref a3), .val (.ref a1), .val .null, .val (.ref b), .val (.int n)] []))) (st230) ?_
  refine own_aloadN X230 hx hby d30_27 rfl rfl ?_
  refine own_aloadN X230 hx hby d30_28 rfl rfl ?_
  refine own_iconst X230 hx hby 0 d30_29 rfl ?_
  refine own_iload X230 hx hby d30_30 rfl ?_
  obtain ⟨_, _, ⟨T231, L231, k231, n231⟩, -, X231, ⟨Lc231, hQ231, l231, y231, z231⟩, st231⟩ := Jvm.LawKit.callS X230 hx (y := mN_41) hown (oV hZ hw 164 rfl) (oV hZ hw 165 rfl) (oV hZ hw 166 rfl) (oV hZ hw 167 rfl) (by decide) (backOf (W := 1) (rmcg l Z a0 hw [] b n kb (16 : Int32) (List.map own_b8 cs) cs.length h230 n0 Z0 Vb hn (by rw [own_i16]; omega) (by omega)) hZ (own_w hw 167 rfl) (own_w hw 166 rfl) (by decide) (by decide)) (g := (mkF m 32 #[.val (.ref a3), .val (.ref a1), .val .null, .val (.ref b), .val (.int n)] [(.int n), (.int 0), (.ref b), (.ref a3)])) rfl (by rw [hml]; rfl) (argsL := [(.ref b), (.int 0), (.int n)]) (rest := [(.ref a3)]) (lenOf pd_24 rfl) rfl (by exact oZ rfl) (hb hby d30_32) (fun _ _ => ⟨rfl, e230, (by decide : 0 + 1 ≤ _), (by decide : 0 + 22 ≤ _)⟩)
  dsimp only [Pt.U, Pt.locs, Pt.cells, Pt.slots] at X231 l231 y231 z231 st231 hQ231
  rw [l231, y231, z231] at X231
  obtain ⟨u231, ku231, rfl, Nq231, Kp231, gq231, Vq231⟩ := hQ231
  have g_u231 : n0 ≤ u231 := nT Z0 gq231
  have sz_u231 : h0.size ≤ u231 := nT KK.1 gq231
  have ne_a3_u231 : a3 ≠ u231 := nL E3.lt gq231
  have ne_a1_u231 : a1 ≠ u231 := nL E1.lt gq231
  have ne_b_u231 : b ≠ u231 := nL Vb.lt gq231
  have N231 := Fr.app N230 Nq231
  replace Z0 := nT Z0 Kp231.1
  replace E3 := E3.keep Kp231
  replace Hc := Hc.keep Kp231 nin0
  replace Hv := Hv.keep Kp231 nin0
  replace E1 := E1.keep Kp231
  replace Fv := Fv.keep Kp231 nin0
  replace Fn := Fn.keep Kp231 nin0
  replace Fm := Fm.keep Kp231 nin0
  replace Fc := Fc.keep Kp231 nin0
  replace Vb := Vb.keep Kp231 nin0
  replace SC := own_staKeep SC Kp231 ns0
  replace KK := KK.trans Kp231 all0
  refine own_of (U' := (T231.setTop (mkF m 35 #[.val (.ref a3), .val (.ref a1), .val .null, .val (.ref b), .val (.int n)] [(.ref u231), (.ref a3)]))) (st231) ?_
  obtain ⟨T232, h232, X232, e232, W232, st232⟩ := putF X231 hx hZ hown (host := "") (Or.inl (own_w hw 38 rfl)) Via.refl rfl Hv E3 (Or.inr ⟨(own_w hw 39 rfl), rfl, hnm⟩) (own_w hw 11 rfl) (ty := (.array .byte)) (by decide) rfl rfl (g := (mkF m 35 #[.val (.ref a3), .val (.ref a1), .val .null, .val (.ref b), .val (.int n)] [(.ref u231), (.ref a3)])) rfl rfl (hb hby d30_35)
  replace Z0 := nT Z0 (Keep.of_wr W232).1
  replace E3 := E3.wr W232
  replace Hc := Hc.other W232 (Or.inr (slot_ne (Or.inr (own_w hw 37 rfl)) (Or.inr (own_w hw 39 rfl)) (by decide) (t := .byte) (t' := (.array .byte)) (by decide) (by decide)))
  replace Hv := Hv.same W232
  replace E1 := E1.wr W232
  replace Fv := Fv.other W232 (Or.inl (Ne.symm n31))
  replace Fn := Fn.other W232 (Or.inl (Ne.symm n31))
  replace Fm := Fm.other W232 (Or.inl (Ne.symm n31))
  replace Fc := Fc.other W232 (Or.inl (Ne.symm n31))
  replace Vb := Vb.other W232 (Ne.symm n3b)
  replace SC := SC.wr W232
  replace KK := KK.wr W232 (Or.inl (List.mem_of_getElem? (i := 0) rfl))
  replace Vq231 := Vq231.other W232 (Ne.symm ne_a3_u231)
  have N232 := Fr.snoc X232 N231 g_a3
  refine own_of (U' := (T232.setTop (mkF m 38 #[.val (.ref a3), .val (.ref a1), .val .null, .val (.ref b), .val (.int n)] []))) (st232) ?_
  refine own_goto X232 hx hby 38 97 d30_38 (by decide) (by decide) ?_
  exact own_ret0 X232 hx hlk hrt (hb hby d30_97) (by decide) (by decide) (by rw [e232]; exact ⟨rfl, N232, KK, u231, ku231, (0 : Int32), n, sz_u231, Hc, Hv, Or.inl ⟨rfl, lt, hn, (by have q := Vq231; rw [List.take_of_length_le (by rw [List.length_map]; exact Nat.le_refl _)] at q; exact q)⟩⟩)
theorem d30_41 : decode c_43 41 = .ok (.getstatic 38, 3) := by decide +kernel
theorem d30_44 : decode c_43 44 = .ok (.ifCond .eq 35, 3) := by decide +kernel
theorem d30_47 : decode c_43 47 = .ok (.aload_n 1, 1) := by decide +kernel
theorem d30_48 : decode c_43 48 = .ok (.getfield 1048, 3) := by decide +kernel
theorem d30_51 : decode c_43 51 = .ok (.ifCond .eq 28, 3) := by decide +kernel
theorem d30_79 : decode c_43 79 = .ok (.aload_n 0, 1) := by decide +kernel
theorem d30_80 : decode c_43 80 = .ok (.iconst 1, 1) := by decide +kernel
theorem d30_81 : decode c_43 81 = .ok (.putfield 15, 3) := by decide +kernel
theorem d30_84 : decode c_43 84 = .ok (.aload_n 0, 1) := by decide +kernel
theorem d30_85 : decode c_43 85 = .ok (.aload_n 3, 1) := by decide +kernel
theorem d30_86 : decode c_43 86 = .ok (.iconst 0, 1) := by decide +kernel
theorem d30_87 : decode c_43 87 = .ok (.iload 4, 2) := by decide +kernel
theorem d30_89 : decode c_43 89 = .ok (.iconst 1, 1) := by decide +kernel
theorem d30_90 : decode c_43 90 = .ok (.ishl, 1) := by decide +kernel
theorem d30_91 : decode c_43 91 = .ok (.invokestatic 54, 3) := by decide +kernel
theorem d30_94 : decode c_43 94 = .ok (.putfield 9, 3) := by decide +kernel
theorem ef_st1 (m : MethodId) (x0 : Addr) (x1 : Addr) : entryFrame m #[(.ref x0), (.ref x1), .null] 5 = mkF m 0 #[.val (.ref x0), .val (.ref x1), .val .null, .unset, .unset] [] := by first | (simp [entryFrame, mkF, argsToLocals, Value.category]; done) | rfl
theorem rmst1 (l : Launch) (Z : State) (a0 : Array Value) (hw : ∀ d ∈ tables_1, d.before a0 Z = true) (ws : List Jvm.Cond) (a3 : Addr) (g1 : Int32) (a1 b : Addr) (kb : ClassId) (n : Int32) (cs : List Int32) (h0 : Heap) (n0 : Nat) (Z0 : n0 ≤ h0.size) (E3 : Exa Z h0 a3 "java/lang/String") (Hc : Fld Z h0 a3 "java/lang/String" "coder" "B" (.int 0)) (Hv : Fld Z h0 a3 "java/lang/String" "value" "[B" .null) (g_a3 : n0 ≤ a3) (n31 : a3 ≠ a1) (n3b : a3 ≠ b) (E1 : Exa Z h0 a1 "java/lang/StringBuilder") (Fv : Fld Z h0 a1 "java/lang/AbstractStringBuilder" "value" "[B" (.ref b)) (Fn : Fld Z h0 a1 "java/lang/AbstractStringBuilder" "count" "I" (.int n)) (Fm : Fld Z h0 a1 "java/lang/AbstractStringBuilder" "maybeLatin1" "Z" (.int 0)) (Fc : Fld Z h0 a1 "java/lang/AbstractStringBuilder" "coder" "B" (.int 1)) (Vb : Arv Z h0 b kb .byte (32 : Int32) (List.map Value.int (own_u16 cs)) (.int 0)) (hn : n.toInt = cs.length) (hm : cs.length ≤ 11) (lt : ¬ own_lat cs) (neab : a1 ≠ b) (SC : Sta Z h0 "java/lang/String" "COMPACT_STRINGS" "Z" (.int g1)) (hg1 : ¬ (g1 = (0 : Int32))) : own_M l mN_43 jdk_42_method_150_code 5 none ws ({ frames := 3, cells := 1, slots := 22, locals := 49 } : Room) Z h0 #[(.ref a3), (.ref a1), .null] (Qst Z a3 cs h0 n0) := by
  refine own_go #[.val (.ref a3), .val (.ref a1), .val .null, .unset, .unset] (plainFor_of_name pn_0) (fun m => ef_st1 m a3 a1) ?_
  intro p e s m below meth c s₁ hx hby hml hown hnm hlk X0 e0 hZ hrt
  have N0 := Fr.nil n0
  have KK := Keep.refl h0 [a3]
  refine own_aloadN X0 hx hby d30_0 rfl rfl ?_
  obtain ⟨T233, X233, e233, st233⟩ := initO X0 hx hZ hown (own_w hw 21 rfl) (own_w hw 22 rfl) (own_w hw 23 rfl) e0 (g := (mkF m 1 #[.val (.ref a3), .val (.ref a1), .val .null, .unset, .unset] [(.ref a3)])) rfl (by rw [hml]; rfl) rfl (hb hby d30_1) (by decide) (W := 0) (by exact oZ rfl) (by decide)
  refine own_of (U' := (T233.setTop (mkF m 4 #[.val (.ref a3), .val (.ref a1), .val .null, .unset, .unset] []))) (st233) ?_
  refine own_aloadN X233 hx hby d30_4 rfl rfl ?_
  obtain ⟨cq234, kq234, q234a, q234b, q234c⟩ := isOf hZ e233 E1
  obtain ⟨_, _, ⟨T234, L234, k234, n234⟩, -, X234, ⟨Lc234, hQ234, l234, y234, z234⟩, st234⟩ := X233.virtualBack hx (y := mN_4) (z := mN_4) hown (oV hZ hw 150 rfl) (oV hZ hw 151 rfl) (notFace_of_selects (args := #[]) (oV hZ hw 153 rfl)) (oV hZ hw 153 rfl) (oV hZ hw 152 rfl) (by decide) (backOf (W := 0) (rmgv l Z a0 hw [] a1 b h0 n0 Z0 Fv) hZ (own_w hw 154 rfl) (own_w hw 68 rfl) (by decide) (by decide)) q234a q234c (g := (mkF m 5 #[.val (.ref a3), .val (.ref a1), .val .null, .unset, .unset] [(.ref a1)])) rfl (by rw [hml]; rfl) (Steps.refl _) (argsL := []) (rest := []) (lenOf pd_25 rfl) rfl (by exact oZ rfl) (hb hby d30_5) (fun _ _ => ⟨rfl, e233, (by decide : 0 + 0 ≤ _), (by decide : 0 + 0 ≤ _)⟩)
  dsimp only [Pt.U, Pt.locs, Pt.cells, Pt.slots] at X234 l234 y234 z234 st234 hQ234
  rw [l234, y234, z234] at X234
  obtain ⟨rfl, Nq234, e234⟩ := hQ234
  have N234 := Fr.app N0 Nq234
  refine own_of (U' := (T234.setTop (mkF m 8 #[.val (.ref a3), .val (.ref a1), .val .null, .unset, .unset] [(.ref b)]))) (fun _ k => st234.trans k) ?_
  refine own_astoreN X234 hx hby d30_8 rfl (l' := #[.val (.ref a3), .val (.ref a1), .val .null, .val (.ref b), .unset]) rfl ?_
  refine own_aloadN X234 hx hby d30_9 rfl rfl ?_
  obtain ⟨cq235, kq235, q235a, q235b, q235c⟩ := isOf hZ e234 E1
  obtain ⟨_, _, ⟨T235, L235, k235, n235⟩, -, X235, ⟨Lc235, hQ235, l235, y235, z235⟩, st235⟩ := X234.virtualBack hx (y := mN_5) (z := mN_6) hown (oV hZ hw 155 rfl) (oV hZ hw 156 rfl) (own_notFace (y := mN_5) (w := mN_7) (args := #[]) (oV hZ hw 101 rfl) rfl) (oV hZ hw 158 rfl) (oV hZ hw 159 rfl) (by decide) (backOf (W := 0) (rmsl l Z a0 hw [] a1 n h0 n0 Z0 E1 Fn) hZ (own_w hw 160 rfl) (own_w hw 60 rfl) (by decide) (by decide)) q235a q235c (g := (mkF m 10 #[.val (.ref a3), .val (.ref a1), .val .null, .val (.ref b), .unset] [(.ref a1)])) rfl (by rw [hml]; rfl) (Steps.refl _) (argsL := []) (rest := []) (lenOf pd_1 rfl) rfl (by exact oZ rfl) (hb hby d30_10) (fun _ _ => ⟨rfl, e234, (by decide : 0 + 0 ≤ _), (by decide : 0 + 0 ≤ _)⟩)
  dsimp only [Pt.U, Pt.locs, Pt.cells, Pt.slots] at X235 l235 y235 z235 st235 hQ235
  rw [l235, y235, z235] at X235
  obtain ⟨rfl, Nq235, e235⟩ := hQ235
  have N235 := Fr.app N234 Nq235
  refine own_of (U' := (T235.setTop (mkF m 13 #[.val (.ref a3), .val (.ref a1), .val .null, .val (.ref b), .unset] [(.int n)]))) (fun _ k => st235.trans k) ?_
  refine own_istore X235 hx hby d30_13 (l' := #[.val (.ref a3), .val (.ref a1), .val .null, .val (.ref b), .val (.int n)]) rfl ?_
  refine own_aloadN X235 hx hby d30_15 rfl rfl ?_
  obtain ⟨cq236, kq236, q236a, q236b, q236c⟩ := isOf hZ e235 E1
  obtain ⟨_, _, ⟨T236, L236, k236, n236⟩, -, X236, ⟨Lc236, hQ236, l236, y236, z236⟩, st236⟩ := X235.virtualBack hx (y := mN_3) (z := mN_3) hown (oV hZ hw 163 rfl) (oV hZ hw 133 rfl) (notFace_of_selects (args := #[]) (oV hZ hw 135 rfl)) (oV hZ hw 135 rfl) (oV hZ hw 134 rfl) (by decide) (backOf (W := 0) (rmab1 l Z a0 hw [] a1 g1 h0 n0 Z0 Fc SC hg1) hZ (own_w hw 136 rfl) (own_w hw 68 rfl) (by decide) (by decide)) q236a q236c (g := (mkF m 16 #[.val (.ref a3), .val (.ref a1), .val .null, .val (.ref b), .val (.int n)] [(.ref a1)])) rfl (by rw [hml]; rfl) (Steps.refl _) (argsL := []) (rest := []) (lenOf pd_13 rfl) rfl (by exact oZ rfl) (hb hby d30_16) (fun _ _ => ⟨rfl, e235, (by decide : 0 + 0 ≤ _), (by decide : 0 + 0 ≤ _)⟩)
  dsimp only [Pt.U, Pt.locs, Pt.cells, Pt.slots] at X236 l236 y236 z236 st236 hQ236
  rw [l236, y236, z236] at X236
  obtain ⟨rfl, Nq236, e236⟩ := hQ236
  have N236 := Fr.app N235 Nq236
  refine own_of (U' := (T236.setTop (mkF m 19 #[.val (.ref a3), .val (.ref a1), .val .null, .val (.ref b), .val (.int n)] [(.int 0)]))) (fun _ k => st236.trans k) ?_
  have hc19_237 : (0 : Int32) = (0 : Int32) := by decide
  refine own_ifYes X236 hx hby 19 41 d30_19 ((if0 _ _).trans (teq hc19_237).1) (by decide) (by decide) ?_
  obtain ⟨T238, X238, e238, st238⟩ := getS2 X236 hx hZ hown (host := "") (Or.inl (own_w hw 24 rfl)) Via.refl e236 SC (g := (mkF m 41 #[.val (.ref a3), .val (.ref a1), .val .null, .val (.ref b), .val (.int n)] [])) rfl (hb hby d30_41)
  refine own_of (U' := (T238.setTop (mkF m 44 #[.val (.ref a3), .val (.ref a1), .val .null, .val (.ref b), .val (.int n)] [(.int g1)]))) (st238) ?_
  have hc44_239 : ¬ (g1 = (0 : Int32)) := hg1
  refine own_ifNo X238 hx hby d30_44 ((if0 _ _).trans (feq hc44_239).1) ?_
  refine own_aloadN X238 hx hby d30_47 rfl rfl ?_
  obtain ⟨T240, X240, e240, st240⟩ := getF X238 hx hZ hown (host := "") (Or.inl (own_w hw 295 rfl)) Via.refl e238 Fm (g := (mkF m 48 #[.val (.ref a3), .val (.ref a1), .val .null, .val (.ref b), .val (.int n)] [(.ref a1)])) rfl rfl (hb hby d30_48)
  refine own_of (U' := (T240.setTop (mkF m 51 #[.val (.ref a3), .val (.ref a1), .val .null, .val (.ref b), .val (.int n)] [(.int 0)]))) (st240) ?_
  have hc51_241 : (0 : Int32) = (0 : Int32) := by decide
  refine own_ifYes X240 hx hby 51 79 d30_51 ((if0 _ _).trans (teq hc51_241).1) (by decide) (by decide) ?_
  refine own_aloadN X240 hx hby d30_79 rfl rfl ?_
  refine own_iconst X240 hx hby 1 d30_80 rfl ?_
  obtain ⟨T242, h242, X242, e242, W242, st242⟩ := putFN X240 hx hZ hown (own_w hw 36 rfl) Via.refl e240 Hc E3 (Or.inr ⟨(own_w hw 37 rfl), rfl, hnm⟩) (own_w hw 11 rfl) (ty := .byte) (v' := (.int 1)) (by decide) rfl (by decide) (g := (mkF m 81 #[.val (.ref a3), .val (.ref a1), .val .null, .val (.ref b), .val (.int n)] [(.int 1), (.ref a3)])) rfl rfl (hb hby d30_81)
  replace Z0 := nT Z0 (Keep.of_wr W242).1
  replace E3 := E3.wr W242
  replace Hc := Hc.same W242
  replace Hv := Hv.other W242 (Or.inr (slot_ne (Or.inr (own_w hw 39 rfl)) (Or.inr (own_w hw 37 rfl)) (by decide) (t := (.array .byte)) (t' := .byte) (by decide) (by decide)))
  replace E1 := E1.wr W242
  replace Fv := Fv.other W242 (Or.inl (Ne.symm n31))
  replace Fn := Fn.other W242 (Or.inl (Ne.symm n31))
  replace Fm := Fm.other W242 (Or.inl (Ne.symm n31))
  replace Fc := Fc.other W242 (Or.inl (Ne.symm n31))
  replace Vb := Vb.other W242 (Ne.symm n3b)
  replace SC := SC.wr W242
  replace KK := KK.wr W242 (Or.inl (List.mem_of_getElem? (i := 0) rfl))
  have N242 := Fr.snoc X242 N236 g_a3
  refine own_of (U' := (T242.setTop (mkF m 84 #[.val (.ref a3), .val (.ref a1), .val .null, .val (.ref b), .val (.int n)] []))) (st242) ?_
  refine own_aloadN X242 hx hby d30_84 rfl rfl ?_
  refine own_aloadN X242 hx hby d30_85 rfl rfl ?_
  refine own_iconst X242 hx hby 0 d30_86 rfl ?_
  refine own_iload X242 hx hby d30_87 rfl ?_
  refine own_iconst X242 hx hby 1 d30_89 rfl ?_
  refine own_ishl X242 hx hby d30_90 ?_
  obtain ⟨_, _, ⟨T243, L243, k243, n243⟩, -, X243, ⟨Lc243, hQ243, l243, y243, z243⟩, st243⟩ := Jvm.LawKit.callS X242 hx (y := mN_41) hown (oV hZ hw 164 rfl) (oV hZ hw 165 rfl) (oV hZ hw 166 rfl) (oV hZ hw 167 rfl) (by decide) (backOf (W := 1) (rmcg l Z a0 hw [] b (n <<< ((1 : Int32) &&& 31)) kb (32 : Int32) (own_u16 cs) (2 * cs.length) h242 n0 Z0 Vb (by rw [own_dbl (by omega) (by omega), hn]; omega) (by rw [own_i32]; omega) (by omega)) hZ (own_w hw 167 rfl) (own_w hw 166 rfl) (by decide) (by decide)) (g := (mkF m 91 #[.val (.ref a3), .val (.ref a1), .val .null, .val (.ref b), .val (.int n)] [(.int (n <<< ((1 : Int32) &&& 31))), (.int 0), (.ref b), (.ref a3)])) rfl (by rw [hml]; rfl) (argsL := [(.ref b), (.int 0), (.int (n <<< ((1 : Int32) &&& 31)))]) (rest := [(.ref a3)]) (lenOf pd_24 rfl) rfl (by exact oZ rfl) (hb hby d30_91) (fun _ _ => ⟨rfl, e242, (by decide : 0 + 1 ≤ _), (by decide : 0 + 22 ≤ _)⟩)
  dsimp only [Pt.U, Pt.locs, Pt.cells, Pt.slots] at X243 l243 y243 z243 st243 hQ243
  rw [l243, y243, z243] at X243
  obtain ⟨u243, ku243, rfl, Nq243, Kp243, gq243, Vq243⟩ := hQ243
  have g_u243 : n0 ≤ u243 := nT Z0 gq243
  have sz_u243 : h0.size ≤ u243 := nT KK.1 gq243
  have ne_a3_u243 : a3 ≠ u243 := nL E3.lt gq243
  have ne_a1_u243 : a1 ≠ u243 := nL E1.lt gq243
  have ne_b_u243 : b ≠ u243 := nL Vb.lt gq243
  have N243 := Fr.app N242 Nq243
  replace Z0 := nT Z0 Kp243.1
  replace E3 := E3.keep Kp243
  replace Hc := Hc.keep Kp243 nin0
  replace Hv := Hv.keep Kp243 nin0
  replace E1 := E1.keep Kp243
  replace Fv := Fv.keep Kp243 nin0
  replace Fn := Fn.keep Kp243 nin0
  replace Fm := Fm.keep Kp243 nin0
  replace Fc := Fc.keep Kp243 nin0
  replace Vb := Vb.keep Kp243 nin0
  replace SC := own_staKeep SC Kp243 ns0
  replace KK := KK.trans Kp243 all0
  refine own_of (U' := (T243.setTop (mkF m 94 #[.val (.ref a3), .val (.ref a1), .val .null, .val (.ref b), .val (.int n)] [(.ref u243), (.ref a3)]))) (st243) ?_
  obtain ⟨T244, h244, X244, e244, W244, st244⟩ := putF X243 hx hZ hown (host := "") (Or.inl (own_w hw 38 rfl)) Via.refl rfl Hv E3 (Or.inr ⟨(own_w hw 39 rfl), rfl, hnm⟩) (own_w hw 11 rfl) (ty := (.array .byte)) (by decide) rfl rfl (g := (mkF m 94 #[.val (.ref a3), .val (.ref a1), .val .null, .val (.ref b), .val (.int n)] [(.ref u243), (.ref a3)])) rfl rfl (hb hby d30_94)
  replace Z0 := nT Z0 (Keep.of_wr W244).1
  replace E3 := E3.wr W244
  replace Hc := Hc.other W244 (Or.inr (slot_ne (Or.inr (own_w hw 37 rfl)) (Or.inr (own_w hw 39 rfl)) (by decide) (t := .byte) (t' := (.array .byte)) (by decide) (by decide)))
  replace Hv := Hv.same W244
  replace E1 := E1.wr W244
  replace Fv := Fv.other W244 (Or.inl (Ne.symm n31))
  replace Fn := Fn.other W244 (Or.inl (Ne.symm n31))
  replace Fm := Fm.other W244 (Or.inl (Ne.symm n31))
  replace Fc := Fc.other W244 (Or.inl (Ne.symm n31))
  replace Vb := Vb.other W244 (Ne.symm n3b)
  replace SC := SC.wr W244
  replace KK := KK.wr W244 (Or.inl (List.mem_of_getElem? (i := 0) rfl))
  replace Vq243 := Vq243.other W244 (Ne.symm ne_a3_u243)
  have N244 := Fr.snoc X244 N243 g_a3
  refine own_of (U' := (T244.setTop (mkF m 97 #[.val (.ref a3), .val (.ref a1), .val .null, .val (.ref b), .val (.int n)] []))) (st244) ?_
  exact own_ret0 X244 hx hlk hrt (hb hby d30_97) (by decide) (by decide) (by rw [e244]; exact ⟨rfl, N244, KK, u243, ku243, (1 : Int32), (n <<< ((1 : Int32) &&& 31)), sz_u243, Hc, Hv, Or.inr ⟨rfl, lt, (by rw [own_dbl (by omega) (by omega), hn]), (by have q := Vq243; rw [List.take_of_length_le (by rw [own_u16_len]; exact Nat.le_refl _)] at q; exact q)⟩⟩)
theorem rmst (l : Launch) (Z : State) (a0 : Array Value) (hw : ∀ d ∈ tables_1, d.before a0 Z = true) (ws : List Jvm.Cond) (a3 : Addr) (g1 : Int32) (a1 b : Addr) (cs : List Int32) (h0 : Heap) (n0 : Nat) (Z0 : n0 ≤ h0.size) (E3 : Exa Z h0 a3 "java/lang/String") (Hc : Fld Z h0 a3 "java/lang/String" "coder" "B" (.int 0)) (Hv : Fld Z h0 a3 "java/lang/String" "value" "[B" .null) (g_a3 : n0 ≤ a3) (n31 : a3 ≠ a1) (n3b : a3 ≠ b) (B1 : own_B Z h0 a1 b cs) (hm : cs.length ≤ 11) (neab : a1 ≠ b) (SC : Sta Z h0 "java/lang/String" "COMPACT_STRINGS" "Z" (.int g1)) (hg1 : ¬ (g1 = (0 : Int32))) : own_M l mN_43 jdk_42_method_150_code 5 none ws ({ frames := 3, cells := 1, slots := 22, locals := 49 } : Room) Z h0 #[(.ref a3), (.ref a1), .null] (Qst Z a3 cs h0 n0) := by
  obtain ⟨n, E1, Fv, Fn, Fm, ⟨kb, ⟨lt, Fc, Vb⟩ | ⟨lt, Fc, Vb⟩⟩, hn, hcs⟩ := B1
  · exact rmst0 l Z a0 hw ws a3 g1 a1 b kb n cs h0 n0 Z0 E3 Hc Hv g_a3 n31 n3b E1 Fv Fn Fm Fc Vb hn hm lt neab SC hg1
  · exact rmst1 l Z a0 hw ws a3 g1 a1 b kb n cs h0 n0 Z0 E3 Hc Hv g_a3 n31 n3b E1 Fv Fn Fm Fc Vb hn hm lt neab SC hg1
abbrev mN_44 : MethodName := ⟨"java/lang/String", "<init>", "(Ljava/lang/StringBuilder;)V"⟩
theorem pd_26 : parseMethodDescriptor "(Ljava/lang/AbstractStringBuilder;Ljava/lang/Void;)V" = some ⟨[(.object "java/lang/AbstractStringBuilder"), (.object "java/lang/Void")], none⟩ := by decide +kernel
theorem d29_0 : decode c_44 0 = .ok (.aload_n 0, 1) := by decide +kernel
theorem d29_1 : decode c_44 1 = .ok (.aload_n 1, 1) := by decide +kernel
theorem d29_2 : decode c_44 2 = .ok (.aconst_null, 1) := by decide +kernel
theorem d29_3 : decode c_44 3 = .ok (.invokespecial 489, 3) := by decide +kernel
theorem d29_6 : decode c_44 6 = .ok (.return_, 1) := by decide +kernel
theorem ef_su (m : MethodId) (x0 : Addr) (x1 : Addr) : entryFrame m #[(.ref x0), (.ref x1)] 2 = mkF m 0 #[.val (.ref x0), .val (.ref x1)] [] := by first | (simp [entryFrame, mkF, argsToLocals, Value.category]; done) | rfl
theorem rmsu (l : Launch) (Z : State) (a0 : Array Value) (hw : ∀ d ∈ tables_1, d.before a0 Z = true) (ws : List Jvm.Cond) (a3 : Addr) (g1 : Int32) (a1 b : Addr) (cs : List Int32) (h0 : Heap) (n0 : Nat) (Z0 : n0 ≤ h0.size) (E3 : Exa Z h0 a3 "java/lang/String") (Hc : Fld Z h0 a3 "java/lang/String" "coder" "B" (.int 0)) (Hv : Fld Z h0 a3 "java/lang/String" "value" "[B" .null) (g_a3 : n0 ≤ a3) (n31 : a3 ≠ a1) (n3b : a3 ≠ b) (B1 : own_B Z h0 a1 b cs) (hm : cs.length ≤ 11) (neab : a1 ≠ b) (SC : Sta Z h0 "java/lang/String" "COMPACT_STRINGS" "Z" (.int g1)) (hg1 : ¬ (g1 = (0 : Int32))) : own_M l mN_44 jdk_42_method_53_code 2 none ws ({ frames := 4, cells := 1, slots := 22, locals := 65 } : Room) Z h0 #[(.ref a3), (.ref a1)] (Qst Z a3 cs h0 n0) := by
  refine own_go #[.val (.ref a3), .val (.ref a1)] (plainFor_of_name pn_0) (fun m => ef_su m a3 a1) ?_
  intro p e s m below meth c s₁ hx hby hml hown hnm hlk X0 e0 hZ hrt
  have N0 := Fr.nil n0
  have KK := Keep.refl h0 [a3]
  have E1 := own_Bexa B1
  refine own_aloadN X0 hx hby d29_0 rfl rfl ?_
  refine own_aloadN X0 hx hby d29_1 rfl rfl ?_
  refine own_aconstNull X0 hx hby d29_2 ?_
  obtain ⟨_, _, ⟨T245, L245, k245, n245⟩, -, X245, ⟨Lc245, hQ245, l245, y245, z245⟩, st245⟩ := X0.specialBack hx (y := mN_43) rfl hown (oV hZ hw 147 rfl) (oV hZ hw 148 rfl) (oV hZ hw 149 rfl) (by decide) (backOf (W := 0) (rmst l Z a0 hw [] a3 g1 a1 b cs h0 n0 Z0 E3 Hc Hv g_a3 n31 n3b B1 hm neab SC hg1) hZ (own_w hw 149 rfl) (own_w hw 12 rfl) (by decide) (by decide)) (g := (mkF m 3 #[.val (.ref a3), .val (.ref a1)] [.null, (.ref a1), (.ref a3)])) rfl (by rw [hml]; rfl) (Steps.refl _) (a := a3) (argsL := [(.ref a1), .null]) (rest := []) (lenOf pd_26 rfl) rfl (by exact oZ rfl) (hb hby d29_3) (fun _ _ => ⟨rfl, e0, (by decide : 0 + 1 ≤ _), (by decide : 0 + 22 ≤ _)⟩)
  dsimp only [Pt.U, Pt.locs, Pt.cells, Pt.slots] at X245 l245 y245 z245 st245 hQ245
  rw [l245, y245, z245] at X245
  obtain ⟨rfl, Nq245, Kp245, u245, ku245, cd245, zu245, gq245, Cq245, Fq245, Rq245⟩ := hQ245
  have g_u245 : n0 ≤ u245 := nT Z0 gq245
  have sz_u245 : h0.size ≤ u245 := nT KK.1 gq245
  have ne_a3_u245 : a3 ≠ u245 := nL E3.lt gq245
  have ne_a1_u245 : a1 ≠ u245 := nL E1.lt gq245
  have N245 := Fr.app N0 Nq245
  have nst_a3 := E3.nostat
  replace Z0 := nT Z0 Kp245.1
  replace E3 := E3.keep Kp245
  replace E1 := E1.keep Kp245
  replace SC := own_staKeep SC Kp245 (nsS nst_a3 ns0)
  replace KK := KK.trans Kp245 (allS (Or.inl (List.mem_of_getElem? (i := 0) rfl)) all0)
  refine own_of (U' := (T245.setTop (mkF m 6 #[.val (.ref a3), .val (.ref a1)] []))) (fun _ k => st245.trans k) ?_
  exact own_ret0 X245 hx hlk hrt (hb hby d29_6) (by decide) (by decide) (⟨rfl, N245, KK, u245, ku245, cd245, zu245, sz_u245, Cq245, Fq245, Rq245⟩)
abbrev mN_45 : MethodName := ⟨"java/lang/StringBuilder", "toString", "()Ljava/lang/String;"⟩
theorem pd_27 : parseMethodDescriptor "(Ljava/lang/StringBuilder;)V" = some ⟨[(.object "java/lang/StringBuilder")], none⟩ := by decide +kernel
theorem d28_0 : decode c_45 0 = .ok (.new 18, 3) := by decide +kernel
theorem d28_3 : decode c_45 3 = .ok (.dup, 1) := by decide +kernel
theorem d28_4 : decode c_45 4 = .ok (.aload_n 0, 1) := by decide +kernel
theorem d28_5 : decode c_45 5 = .ok (.invokespecial 137, 3) := by decide +kernel
theorem d28_8 : decode c_45 8 = .ok (.areturn, 1) := by decide +kernel
theorem ef_ts (m : MethodId) (x0 : Addr) : entryFrame m #[(.ref x0)] 1 = mkF m 0 #[.val (.ref x0)] [] := by first | (simp [entryFrame, mkF, argsToLocals, Value.category]; done) | rfl
theorem rmts (l : Launch) (Z : State) (a0 : Array Value) (hw : ∀ d ∈ tables_1, d.before a0 Z = true) (ws : List Jvm.Cond) (g1 : Int32) (a1 b : Addr) (cs : List Int32) (h0 : Heap) (n0 : Nat) (Z0 : n0 ≤ h0.size) (B1 : own_B Z h0 a1 b cs) (hm : cs.length ≤ 11) (neab : a1 ≠ b) (SC : Sta Z h0 "java/lang/String" "COMPACT_STRINGS" "Z" (.int g1)) (hg1 : ¬ (g1 = (0 : Int32))) : own_M l mN_45 jdk_67_method_42_code 1 (some (.object "java/lang/String")) ws ({ frames := 5, cells := 2, slots := 26, locals := 79 } : Room) Z h0 #[(.ref a1)] (Qs2 Z cs h0 n0) := by
  refine own_go #[.val (.ref a1)] (plainFor_of_name pn_2) (fun m => ef_ts m a1) ?_
  intro p e s m below meth c s₁ hx hby hml hown hnm hlk X0 e0 hZ hrt
  have N0 := Fr.nil n0
  have KK := Keep.refl h0 []
  have E1 := own_Bexa B1
  have lb := own_Blt B1
  obtain ⟨T246, h246, X246, e246, E246, A246, D246, -, st246⟩ := newO X0 hx hZ hown (own_w hw 143 rfl) (own_w hw 11 rfl) (own_w hw 12 rfl) e0 (g := (mkF m 0 #[.val (.ref a1)] [])) rfl (hb hby d28_0) (by decide) (by decide)
  obtain ⟨b246, gz246⟩ : ∃ z, z = h0.size := ⟨_, rfl⟩
  rw [← gz246] at A246 D246 st246
  have g_b246 : n0 ≤ b246 := nT Z0 (nE gz246.symm)
  have sz_b246 : h0.size ≤ b246 := nT KK.1 (nE gz246.symm)
  have ne_a1_b246 : a1 ≠ b246 := Nat.ne_of_lt (Nat.lt_of_lt_of_le E1.lt (nE gz246.symm))
  replace Z0 := nT Z0 E246.1
  replace E1 := E1.ext E246
  replace SC := SC.ext E246
  replace KK := KK.ext E246
  have F246_coder : Fld Z h246 b246 "java/lang/String" "coder" "B" (.int 0) := D246 (Or.inr (own_w hw 37 rfl)) (ty := .byte) (by decide)
  have F246_value : Fld Z h246 b246 "java/lang/String" "value" "[B" .null := D246 (Or.inr (own_w hw 39 rfl)) (ty := (.array .byte)) (by decide)
  refine own_of (U' := (T246.setTop (mkF m 3 #[.val (.ref a1)] [(.ref b246)]))) (st246) ?_
  replace B1 := own_Bext B1 E246
  have nb_b246 : b246 ≠ b := Nat.ne_of_gt (Nat.lt_of_lt_of_le lb sz_b246)
  refine own_dup X246 hx hby d28_3 rfl ?_
  refine own_aloadN X246 hx hby d28_4 rfl rfl ?_
  obtain ⟨_, _, ⟨T247, L247, k247, n247⟩, -, X247, ⟨Lc247, hQ247, l247, y247, z247⟩, st247⟩ := X246.specialBack hx (y := mN_44) rfl hown (oV hZ hw 144 rfl) (oV hZ hw 145 rfl) (oV hZ hw 146 rfl) (by decide) (backOf (W := 1) (rmsu l Z a0 hw [] b246 g1 a1 b cs h246 n0 Z0 A246 F246_coder F246_value g_b246 (Ne.symm ne_a1_b246) nb_b246 B1 hm neab SC hg1) hZ (own_w hw 146 rfl) (own_w hw 12 rfl) (by decide) (by decide)) (g := (mkF m 5 #[.val (.ref a1)] [(.ref a1), (.ref b246), (.ref b246)])) rfl (by rw [hml]; rfl) (Steps.refl _) (a := b246) (argsL := [(.ref a1)]) (rest := [(.ref b246)]) (lenOf pd_27 rfl) rfl (by exact oZ rfl) (hb hby d28_5) (fun _ _ => ⟨rfl, e246, (by decide : 1 + 1 ≤ _), (by decide : 4 + 22 ≤ _)⟩)
  dsimp only [Pt.U, Pt.locs, Pt.cells, Pt.slots] at X247 l247 y247 z247 st247 hQ247
  rw [l247, y247, z247] at X247
  obtain ⟨rfl, Nq247, Kp247, u247, ku247, cd247, zu247, gq247, Cq247, Fq247, Rq247⟩ := hQ247
  have g_u247 : n0 ≤ u247 := nT Z0 gq247
  have sz_u247 : h0.size ≤ u247 := nT KK.1 gq247
  have ne_a1_u247 : a1 ≠ u247 := nL E1.lt gq247
  have ne_b246_u247 : b246 ≠ u247 := nL A246.lt gq247
  have N247 := Fr.app N0 Nq247
  have nst_b246 := A246.nostat
  replace Z0 := nT Z0 Kp247.1
  replace E1 := E1.keep Kp247
  replace SC := own_staKeep SC Kp247 (nsS nst_b246 ns0)
  replace KK := KK.trans Kp247 (allS (Or.inr sz_b246) all0)
  replace A246 := A246.keep Kp247
  refine own_of (U' := (T247.setTop (mkF m 8 #[.val (.ref a1)] [(.ref b246)]))) (fun _ k => st247.trans k) ?_
  exact own_retA X247 hx hlk hrt rfl rfl (hb hby d28_8) (by decide) (by decide) (⟨b246, rfl, N247, KK, sz_b246, u247, ku247, cd247, zu247, A246.lt, own_Replt Rq247, A246, Cq247, Fq247, Rq247⟩)
abbrev mN_46 : MethodName := ⟨"java/lang/StringUTF16", "compress", "([CI[BII)I"⟩
theorem d8_0 : decode c_46 0 = .ok (.iconst 0, 1) := by decide +kernel
theorem d8_1 : decode c_46 1 = .ok (.istore 5, 2) := by decide +kernel
theorem d8_3 : decode c_46 3 = .ok (.iload 5, 2) := by decide +kernel
theorem d8_5 : decode c_46 5 = .ok (.iload 4, 2) := by decide +kernel
theorem d8_7 : decode c_46 7 = .ok (.if_icmp .ge 37, 3) := by decide +kernel
theorem d8_10 : decode c_46 10 = .ok (.aload_n 0, 1) := by decide +kernel
theorem d8_11 : decode c_46 11 = .ok (.iload_n 1, 1) := by decide +kernel
theorem d8_12 : decode c_46 12 = .ok (.caload, 1) := by decide +kernel
theorem d8_13 : decode c_46 13 = .ok (.istore 6, 2) := by decide +kernel
theorem d8_15 : decode c_46 15 = .ok (.iload 6, 2) := by decide +kernel
theorem d8_17 : decode c_46 17 = .ok (.sipush 255, 3) := by decide +kernel
theorem d8_20 : decode c_46 20 = .ok (.if_icmp .le 6, 3) := by decide +kernel
theorem d8_26 : decode c_46 26 = .ok (.aload_n 2, 1) := by decide +kernel
theorem d8_27 : decode c_46 27 = .ok (.iload_n 3, 1) := by decide +kernel
theorem d8_28 : decode c_46 28 = .ok (.iload 6, 2) := by decide +kernel
theorem d8_30 : decode c_46 30 = .ok (.i2b, 1) := by decide +kernel
theorem d8_31 : decode c_46 31 = .ok (.bastore, 1) := by decide +kernel
theorem d8_32 : decode c_46 32 = .ok (.iinc 1 1, 3) := by decide +kernel
theorem d8_35 : decode c_46 35 = .ok (.iinc 3 1, 3) := by decide +kernel
theorem d8_38 : decode c_46 38 = .ok (.iinc 5 1, 3) := by decide +kernel
theorem d8_41 : decode c_46 41 = .ok (.goto (-38), 3) := by decide +kernel
theorem d8_44 : decode c_46 44 = .ok (.iload 4, 2) := by decide +kernel
theorem d8_46 : decode c_46 46 = .ok (.ireturn, 1) := by decide +kernel
theorem ef_cl0 (m : MethodId) (x0 : Addr) (x2 : Addr) (x4 : Int32) : entryFrame m #[(.ref x0), (.int 0), (.ref x2), (.int 0), (.int x4)] 7 = mkF m 0 #[.val (.ref x0), .val (.int 0), .val (.ref x2), .val (.int 0), .val (.int x4), .unset, .unset] [] := by first | (simp [entryFrame, mkF, argsToLocals, Value.category]; done) | rfl
def Qc0 (Z : State) (a3 : Addr) (kd : ClassId) (z : Int32) (cs : List Int32) (h0 : Heap) (n0 : Nat) (v : Option Value) (h : Heap) (L : List Loc) : Prop := v = some (.int z) ∧ Fr n0 L ∧ Keep h0 h [a3] ∧ Arv Z h a3 kd .byte z (List.map Value.int (List.map own_b8 cs)) (.int 0)
theorem rmcl0 (l : Launch) (Z : State) (a0 : Array Value) (hw : ∀ d ∈ tables_1, d.before a0 Z = true) (ws : List Jvm.Cond) (a1 a3 : Addr) (kc kd : ClassId) (z : Int32) (cs : List Int32) (h0 : Heap) (n0 : Nat) (Z0 : n0 ≤ h0.size) (Vc : Arv Z h0 a1 kc .char z (List.map Value.int cs) (.int 0)) (Vd : Arv Z h0 a3 kd .byte z (List.map Value.int ([] : List Int32)) (.int 0)) (g_a3 : n0 ≤ a3) (nea : a1 ≠ a3) (hz : z.toInt = cs.length) (h1z : 1 ≤ cs.length) (hl : cs.length ≤ 5) (hcs : own_chs cs) (hlat : own_lat cs) : own_M l mN_46 jdk_52_method_21_code 7 (some .int) ws ({ frames := 0, cells := 0, slots := 0, locals := 0 } : Room) Z h0 #[(.ref a1), (.int 0), (.ref a3), (.int 0), (.int z)] (Qc0 Z a3 kd z cs h0 n0) := by
  refine own_go #[.val (.ref a1), .val (.int 0), .val (.ref a3), .val (.int 0), .val (.int z), .unset, .unset] (plainFor_of_name pn_5) (fun m => ef_cl0 m a1 a3 z) ?_
  intro p e s m below meth c s₁ hx hby hml hown hnm hlk X0 e0 hZ hrt
  have N0 := Fr.nil n0
  have KK := Keep.refl h0 [a3]
  refine own_iconst X0 hx hby 0 d8_0 rfl ?_
  refine own_istore X0 hx hby d8_1 (l' := #[.val (.ref a1), .val (.int 0), .val (.ref a3), .val (.int 0), .val (.int z), .val (.int 0), .unset]) rfl ?_
  suffices key248 : ∀ (f : Nat) (T248 : State) (L248 : List Loc) (hq248 : Heap) (si : Int32) (di : Int32) (i : Int32) (x6 : Slot) (j : Nat) (ds : List Int32), Stand p l e ({ frames := 0, cells := 0, slots := 0, locals := 0 } : Room) s m #[(.ref a1), (.int 0), (.ref a3), (.int 0), (.int z)] below meth c T248 L248 0 0 → T248.heap = hq248 → Fr n0 L248 → (n0 ≤ hq248.size) → (Arv Z hq248 a1 kc .char z (List.map Value.int cs) (.int 0)) → (Arv Z hq248 a3 kd .byte z (List.map Value.int ds) (.int 0)) → (Keep h0 hq248 [a3]) → (si.toInt = j ∧ di.toInt = j ∧ i.toInt = j ∧ ds = List.map own_b8 (cs.take j) ∧ j + f = cs.length ∧ own_lat (cs.take j) ∧ (x6 = Slot.unset ∨ ∃ v : Int32, x6 = Slot.val (Value.int v))) → own_Ends p e below s FrameEnd (Qc0 Z a3 kd z cs h0 n0) 0 0 (T248.setTop (mkF m 3 #[.val (.ref a1), .val (.int si), .val (.ref a3), .val (.int di), .val (.int z), .val (.int i), x6] [])) by
    exact key248 cs.length _ _ _ _ _ _ _ 0 [] X0 e0 N0 Z0 Vc Vd KK ⟨own_i0, own_i0, own_i0, rfl, by omega, own_latnil, Or.inl rfl⟩
  intro f
  induction f using Nat.strongRecOn with
  | _ f ih248 =>
    intro T248 L248 hq248 si di i x6 j ds X248 e248 N248 Z0 Vc Vd KK iv
    obtain ⟨hsi, hdi, hi, hds, hjf, hlt, hs_x6⟩ := iv
    refine own_iload X248 hx hby d8_3 rfl ?_
    refine own_iload X248 hx hby d8_5 rfl ?_
    by_cases hc7_249 : i < z
    · skip
      refine own_icmpNo X248 hx hby d8_7 (tlt hc7_249).2.1 ?_
      have hjl : j < cs.length := by have q := hc7_249; rw [own_ltI, hz, hi] at q; omega
      obtain ⟨g, rfl⟩ : ∃ g, f = g + 1 := ⟨f - 1, by omega⟩
      refine own_aloadN X248 hx hby d8_10 rfl rfl ?_
      refine own_iloadN X248 hx hby d8_11 rfl ?_
      obtain ⟨cl250, Ar250, qa250, Sa250, Na250, Ha250, Ga250⟩ := id Vc
      have hin250 : ¬ (si < 0 ∨ cl250.slots.size ≤ (si).toNatClampNeg) := inb_of Sa250 ⟨own_ge0 (by omega), by rw [own_ltI, hz, hsi]; omega⟩
      have hat250 : cl250.slots[(si).toNatClampNeg]? = some (.int (own_at cs si)) := Has.at Ha250 hin250 (own_at_eq cs _)
      refine own_of (U' := (T248.setTop (mkF m 13 #[.val (.ref a1), .val (.int si), .val (.ref a3), .val (.int di), .val (.int z), .val (.int i), x6] [(.int (own_at cs si))]))) (X248.caload hx (j := si) (v := (.int (own_at cs si))) (by rw [e248]; exact Ar250.1) (State.isArrayOf_alike hZ.alike Ar250.2.1) Ar250.2.2 hin250 hat250 (g := (mkF m 12 #[.val (.ref a1), .val (.int si), .val (.ref a3), .val (.int di), .val (.int z), .val (.int i), x6] [(.int si), (.ref a1)])) rfl rfl (hb hby d8_12)) ?_
      refine own_eq (U' := (T248.setTop (mkF m 13 #[.val (.ref a1), .val (.int si), .val (.ref a3), .val (.int di), .val (.int z), .val (.int i), x6] [(.int (cs.getD j 0))]))) (by rw [show (own_at cs si) = (cs.getD j 0) from own_atN hsi]) ?_
      refine own_istore X248 hx hby d8_13 (l' := #[.val (.ref a1), .val (.int si), .val (.ref a3), .val (.int di), .val (.int z), .val (.int i), .val (.int (cs.getD j 0))]) (by rcases hs_x6 with q | ⟨_, q⟩ <;> (subst q; rfl)) ?_
      refine own_iload X248 hx hby d8_15 rfl ?_
      refine own_sipush X248 hx hby 255 d8_17 rfl ?_
      have hc20_251 : ¬ ((255 : Int32) < (cs.getD j 0)) := hlat _ (own_getmem hjl)
      refine own_icmpYes X248 hx hby 20 26 d8_20 (flt hc20_251).2.2.2 (by decide) (by decide) ?_
      have hdl : ds.length = j := by rw [hds, List.length_map, List.length_take]; omega
      replace Vd := Arv.pad Vd (own_padk ds 1)
      replace Vd : Arv Z hq248 a3 kd .byte z (List.map Value.int (ds ++ (List.replicate (0 + 1) (0 : Int32) ++ []))) (.int 0) := by rw [List.append_nil]; exact Vd
      refine own_aloadN X248 hx hby d8_26 rfl rfl ?_
      refine own_iloadN X248 hx hby d8_27 rfl ?_
      refine own_iload X248 hx hby d8_28 rfl ?_
      refine own_i2b X248 hx hby d8_30 ?_
      obtain ⟨cl252, Ar252, qa252, Sa252, Na252, Ha252, Ga252⟩ := Vd
      have hin252 : ¬ (di < 0 ∨ cl252.slots.size ≤ (di).toNatClampNeg) := inb_of Sa252 ⟨own_ge0 (by omega), by rw [own_ltI, hz, hdi]; omega⟩
      obtain ⟨T252, h252, X252, e252, W252, st252⟩ := stB X248 hx hZ e248 Ar252 (j := di) hin252 (g := (mkF m 31 #[.val (.ref a1), .val (.int si), .val (.ref a3), .val (.int di), .val (.int z), .val (.int i), .val (.int (cs.getD j 0))] [(.int ((cs.getD j 0).toInt8.toInt32)), (.int di), (.ref a3)])) rfl rfl (hb hby d8_31)
      replace Vd : Arv Z h252 a3 kd .byte z (List.map Value.int (ds ++ (List.replicate 0 (0 : Int32) ++ own_b8 (cs.getD j 0) :: []))) (.int 0) := by have q := Arv.set Ar252 qa252 Sa252 Na252 Ha252 Ga252 (fits_nar_byte _) W252 (ds.length + 0) (own_clamp (by rw [hdi, hdl]; rfl)) (by rw [List.length_map, List.length_append, List.length_append, List.length_replicate]; simp); rw [← List.map_set, own_setR] at q; exact q
      replace Z0 := nT Z0 (Keep.of_wr W252).1
      replace Vc := Vc.other W252 nea
      replace KK := KK.wr W252 (Or.inl (List.mem_of_getElem? (i := 0) rfl))
      have N252 := Fr.snoc X252 N248 g_a3
      refine own_of (U' := (T252.setTop (mkF m 32 #[.val (.ref a1), .val (.int si), .val (.ref a3), .val (.int di), .val (.int z), .val (.int i), .val (.int (cs.getD j 0))] []))) (st252) ?_
      refine own_iinc X252 hx hby d8_32 rfl (l' := #[.val (.ref a1), .val (.int (si + (1 : Int32))), .val (.ref a3), .val (.int di), .val (.int z), .val (.int i), .val (.int (cs.getD j 0))]) rfl ?_
      refine own_iinc X252 hx hby d8_35 rfl (l' := #[.val (.ref a1), .val (.int (si + (1 : Int32))), .val (.ref a3), .val (.int (di + (1 : Int32))), .val (.int z), .val (.int i), .val (.int (cs.getD j 0))]) rfl ?_
      refine own_iinc X252 hx hby d8_38 rfl (l' := #[.val (.ref a1), .val (.int (si + (1 : Int32))), .val (.ref a3), .val (.int (di + (1 : Int32))), .val (.int z), .val (.int (i + (1 : Int32))), .val (.int (cs.getD j 0))]) rfl ?_
      refine own_goto X252 hx hby 41 3 d8_41 (by decide) (by decide) ?_
      exact ih248 g (Nat.lt_succ_self g) _ _ _ _ _ _ _ (j + 1) (ds ++ (List.replicate 0 (0 : Int32) ++ own_b8 (cs.getD j 0) :: [])) X252 e252 N252 Z0 Vc Vd KK ⟨own_inc hsi (by omega), own_inc hdi (by omega), own_inc hi (by omega), by rw [hds]; exact own_take1b hjl, by omega, own_lattake hlat _, Or.inr ⟨_, rfl⟩⟩
    · skip
      refine own_icmpYes X248 hx hby 7 44 d8_7 (flt hc7_249).2.1 (by decide) (by decide) ?_
      refine own_iload X248 hx hby d8_44 rfl ?_
      exact own_retI X248 hx hlk hrt (hb hby d8_46) (by decide) (by decide) (by rw [e248]; exact ⟨rfl, N248, KK, (by rw [show List.map own_b8 cs = ds from by rw [hds, List.take_of_length_le (by have q := hc7_249; rw [own_ltI, hz, hi] at q; omega)]]; exact Vd)⟩)
theorem d8_23 : decode c_46 23 = .ok (.iload 5, 2) := by decide +kernel
theorem d8_25 : decode c_46 25 = .ok (.ireturn, 1) := by decide +kernel
theorem ef_cl1 (m : MethodId) (x0 : Addr) (x2 : Addr) (x4 : Int32) : entryFrame m #[(.ref x0), (.int 0), (.ref x2), (.int 0), (.int x4)] 7 = mkF m 0 #[.val (.ref x0), .val (.int 0), .val (.ref x2), .val (.int 0), .val (.int x4), .unset, .unset] [] := by first | (simp [entryFrame, mkF, argsToLocals, Value.category]; done) | rfl
def Qc1 (a3 : Addr) (cs : List Int32) (h0 : Heap) (n0 : Nat) (v : Option Value) (h : Heap) (L : List Loc) : Prop := ∃ (r : Int32) (j : Nat), v = some (.int r) ∧ Fr n0 L ∧ Keep h0 h [a3] ∧ r.toInt = j ∧ j < cs.length ∧ (255 : Int32) < cs.getD j 0
theorem rmcl1 (l : Launch) (Z : State) (a0 : Array Value) (hw : ∀ d ∈ tables_1, d.before a0 Z = true) (ws : List Jvm.Cond) (a1 a3 : Addr) (kc kd : ClassId) (z : Int32) (cs : List Int32) (h0 : Heap) (n0 : Nat) (Z0 : n0 ≤ h0.size) (Vc : Arv Z h0 a1 kc .char z (List.map Value.int cs) (.int 0)) (Vd : Arv Z h0 a3 kd .byte z (List.map Value.int ([] : List Int32)) (.int 0)) (g_a3 : n0 ≤ a3) (nea : a1 ≠ a3) (hz : z.toInt = cs.length) (h1z : 1 ≤ cs.length) (hl : cs.length ≤ 5) (hcs : own_chs cs) (hbig : ¬ own_lat cs) : own_M l mN_46 jdk_52_method_21_code 7 (some .int) ws ({ frames := 0, cells := 0, slots := 0, locals := 0 } : Room) Z h0 #[(.ref a1), (.int 0), (.ref a3), (.int 0), (.int z)] (Qc1 a3 cs h0 n0) := by
  refine own_go #[.val (.ref a1), .val (.int 0), .val (.ref a3), .val (.int 0), .val (.int z), .unset, .unset] (plainFor_of_name pn_5) (fun m => ef_cl1 m a1 a3 z) ?_
  intro p e s m below meth c s₁ hx hby hml hown hnm hlk X0 e0 hZ hrt
  have N0 := Fr.nil n0
  have KK := Keep.refl h0 [a3]
  refine own_iconst X0 hx hby 0 d8_0 rfl ?_
  refine own_istore X0 hx hby d8_1 (l' := #[.val (.ref a1), .val (.int 0), .val (.ref a3), .val (.int 0), .val (.int z), .val (.int 0), .unset]) rfl ?_
  suffices key253 : ∀ (f : Nat) (T253 : State) (L253 : List Loc) (hq253 : Heap) (si : Int32) (di : Int32) (i : Int32) (x6 : Slot) (j : Nat) (ds : List Int32), Stand p l e ({ frames := 0, cells := 0, slots := 0, locals := 0 } : Room) s m #[(.ref a1), (.int 0), (.ref a3), (.int 0), (.int z)] below meth c T253 L253 0 0 → T253.heap = hq253 → Fr n0 L253 → (n0 ≤ hq253.size) → (Arv Z hq253 a1 kc .char z (List.map Value.int cs) (.int 0)) → (Arv Z hq253 a3 kd .byte z (List.map Value.int ds) (.int 0)) → (Keep h0 hq253 [a3]) → (si.toInt = j ∧ di.toInt = j ∧ i.toInt = j ∧ ds = List.map own_b8 (cs.take j) ∧ j + f = cs.length ∧ own_lat (cs.take j) ∧ (x6 = Slot.unset ∨ ∃ v : Int32, x6 = Slot.val (Value.int v))) → own_Ends p e below s FrameEnd (Qc1 a3 cs h0 n0) 0 0 (T253.setTop (mkF m 3 #[.val (.ref a1), .val (.int si), .val (.ref a3), .val (.int di), .val (.int z), .val (.int i), x6] [])) by
    exact key253 cs.length _ _ _ _ _ _ _ 0 [] X0 e0 N0 Z0 Vc Vd KK ⟨own_i0, own_i0, own_i0, rfl, by omega, own_latnil, Or.inl rfl⟩
  intro f
  induction f using Nat.strongRecOn with
  | _ f ih253 =>
    intro T253 L253 hq253 si di i x6 j ds X253 e253 N253 Z0 Vc Vd KK iv
    obtain ⟨hsi, hdi, hi, hds, hjf, hlt, hs_x6⟩ := iv
    refine own_iload X253 hx hby d8_3 rfl ?_
    refine own_iload X253 hx hby d8_5 rfl ?_
    by_cases hc7_254 : i < z
    · skip
      refine own_icmpNo X253 hx hby d8_7 (tlt hc7_254).2.1 ?_
      have hjl : j < cs.length := by have q := hc7_254; rw [own_ltI, hz, hi] at q; omega
      obtain ⟨g, rfl⟩ : ∃ g, f = g + 1 := ⟨f - 1, by omega⟩
      refine own_aloadN X253 hx hby d8_10 rfl rfl ?_
      refine own_iloadN X253 hx hby d8_11 rfl ?_
      obtain ⟨cl255, Ar255, qa255, Sa255, Na255, Ha255, Ga255⟩ := id Vc
      have hin255 : ¬ (si < 0 ∨ cl255.slots.size ≤ (si).toNatClampNeg) := inb_of Sa255 ⟨own_ge0 (by omega), by rw [own_ltI, hz, hsi]; omega⟩
      have hat255 : cl255.slots[(si).toNatClampNeg]? = some (.int (own_at cs si)) := Has.at Ha255 hin255 (own_at_eq cs _)
      refine own_of (U' := (T253.setTop (mkF m 13 #[.val (.ref a1), .val (.int si), .val (.ref a3), .val (.int di), .val (.int z), .val (.int i), x6] [(.int (own_at cs si))]))) (X253.caload hx (j := si) (v := (.int (own_at cs si))) (by rw [e253]; exact Ar255.1) (State.isArrayOf_alike hZ.alike Ar255.2.1) Ar255.2.2 hin255 hat255 (g := (mkF m 12 #[.val (.ref a1), .val (.int si), .val (.ref a3), .val (.int di), .val (.int z), .val (.int i), x6] [(.int si), (.ref a1)])) rfl rfl (hb hby d8_12)) ?_
      refine own_eq (U' := (T253.setTop (mkF m 13 #[.val (.ref a1), .val (.int si), .val (.ref a3), .val (.int di), .val (.int z), .val (.int i), x6] [(.int (cs.getD j 0))]))) (by rw [show (own_at cs si) = (cs.getD j 0) from own_atN hsi]) ?_
      refine own_istore X253 hx hby d8_13 (l' := #[.val (.ref a1), .val (.int si), .val (.ref a3), .val (.int di), .val (.int z), .val (.int i), .val (.int (cs.getD j 0))]) (by rcases hs_x6 with q | ⟨_, q⟩ <;> (subst q; rfl)) ?_
      refine own_iload X253 hx hby d8_15 rfl ?_
      refine own_sipush X253 hx hby 255 d8_17 rfl ?_
      by_cases hc20_256 : (255 : Int32) < (cs.getD j 0)
      · skip
        refine own_icmpNo X253 hx hby d8_20 (tlt hc20_256).2.2.2 ?_
        refine own_iload X253 hx hby d8_23 rfl ?_
        exact own_retI X253 hx hlk hrt (hb hby d8_25) (by decide) (by decide) (by rw [e253]; exact ⟨i, j, rfl, N253, KK, hi, hjl, hc20_256⟩)
      · skip
        refine own_icmpYes X253 hx hby 20 26 d8_20 (flt hc20_256).2.2.2 (by decide) (by decide) ?_
        have hdl : ds.length = j := by rw [hds, List.length_map, List.length_take]; omega
        replace Vd := Arv.pad Vd (own_padk ds 1)
        replace Vd : Arv Z hq253 a3 kd .byte z (List.map Value.int (ds ++ (List.replicate (0 + 1) (0 : Int32) ++ []))) (.int 0) := by rw [List.append_nil]; exact Vd
        refine own_aloadN X253 hx hby d8_26 rfl rfl ?_
        refine own_iloadN X253 hx hby d8_27 rfl ?_
        refine own_iload X253 hx hby d8_28 rfl ?_
        refine own_i2b X253 hx hby d8_30 ?_
        obtain ⟨cl257, Ar257, qa257, Sa257, Na257, Ha257, Ga257⟩ := Vd
        have hin257 : ¬ (di < 0 ∨ cl257.slots.size ≤ (di).toNatClampNeg) := inb_of Sa257 ⟨own_ge0 (by omega), by rw [own_ltI, hz, hdi]; omega⟩
        obtain ⟨T257, h257, X257, e257, W257, st257⟩ := stB X253 hx hZ e253 Ar257 (j := di) hin257 (g := (mkF m 31 #[.val (.ref a1), .val (.int si), .val (.ref a3), .val (.int di), .val (.int z), .val (.int i), .val (.int (cs.getD j 0))] [(.int ((cs.getD j 0).toInt8.toInt32)), (.int di), (.ref a3)])) rfl rfl (hb hby d8_31)
        replace Vd : Arv Z h257 a3 kd .byte z (List.map Value.int (ds ++ (List.replicate 0 (0 : Int32) ++ own_b8 (cs.getD j 0) :: []))) (.int 0) := by have q := Arv.set Ar257 qa257 Sa257 Na257 Ha257 Ga257 (fits_nar_byte _) W257 (ds.length + 0) (own_clamp (by rw [hdi, hdl]; rfl)) (by rw [List.length_map, List.length_append, List.length_append, List.length_replicate]; simp); rw [← List.map_set, own_setR] at q; exact q
        replace Z0 := nT Z0 (Keep.of_wr W257).1
        replace Vc := Vc.other W257 nea
        replace KK := KK.wr W257 (Or.inl (List.mem_of_getElem? (i := 0) rfl))
        have N257 := Fr.snoc X257 N253 g_a3
        refine own_of (U' := (T257.setTop (mkF m 32 #[.val (.ref a1), .val (.int si), .val (.ref a3), .val (.int di), .val (.int z), .val (.int i), .val (.int (cs.getD j 0))] []))) (st257) ?_
        refine own_iinc X257 hx hby d8_32 rfl (l' := #[.val (.ref a1), .val (.int (si + (1 : Int32))), .val (.ref a3), .val (.int di), .val (.int z), .val (.int i), .val (.int (cs.getD j 0))]) rfl ?_
        refine own_iinc X257 hx hby d8_35 rfl (l' := #[.val (.ref a1), .val (.int (si + (1 : Int32))), .val (.ref a3), .val (.int (di + (1 : Int32))), .val (.int z), .val (.int i), .val (.int (cs.getD j 0))]) rfl ?_
        refine own_iinc X257 hx hby d8_38 rfl (l' := #[.val (.ref a1), .val (.int (si + (1 : Int32))), .val (.ref a3), .val (.int (di + (1 : Int32))), .val (.int z), .val (.int (i + (1 : Int32))), .val (.int (cs.getD j 0))]) rfl ?_
        refine own_goto X257 hx hby 41 3 d8_41 (by decide) (by decide) ?_
        exact ih253 g (Nat.lt_succ_self g) _ _ _ _ _ _ _ (j + 1) (ds ++ (List.replicate 0 (0 : Int32) ++ own_b8 (cs.getD j 0) :: [])) X257 e257 N257 Z0 Vc Vd KK ⟨own_inc hsi (by omega), own_inc hdi (by omega), own_inc hi (by omega), by rw [hds]; exact own_take1b hjl, by omega, own_latsnoc hjl hlt hc20_256, Or.inr ⟨_, rfl⟩⟩
    · exact absurd (own_latall (j := j) (by have q := hc7_254; rw [own_ltI, hz, hi] at q; omega) hlt) hbig
abbrev mN_47 : MethodName := ⟨"java/lang/StringUTF16", "toBytes", "([CII)[B"⟩
theorem d52_0 : decode c_47 0 = .ok (.iload_n 2, 1) := by decide +kernel
theorem d52_1 : decode c_47 1 = .ok (.invokestatic 107, 3) := by decide +kernel
theorem d52_4 : decode c_47 4 = .ok (.astore_n 3, 1) := by decide +kernel
theorem d52_5 : decode c_47 5 = .ok (.iconst 0, 1) := by decide +kernel
theorem d52_6 : decode c_47 6 = .ok (.istore 4, 2) := by decide +kernel
theorem d52_8 : decode c_47 8 = .ok (.iload 4, 2) := by decide +kernel
theorem d52_10 : decode c_47 10 = .ok (.iload_n 2, 1) := by decide +kernel
theorem d52_11 : decode c_47 11 = .ok (.if_icmp .ge 21, 3) := by decide +kernel
theorem d52_14 : decode c_47 14 = .ok (.aload_n 3, 1) := by decide +kernel
theorem d52_15 : decode c_47 15 = .ok (.iload 4, 2) := by decide +kernel
theorem d52_17 : decode c_47 17 = .ok (.aload_n 0, 1) := by decide +kernel
theorem d52_18 : decode c_47 18 = .ok (.iload_n 1, 1) := by decide +kernel
theorem d52_19 : decode c_47 19 = .ok (.caload, 1) := by decide +kernel
theorem d52_20 : decode c_47 20 = .ok (.invokestatic 111, 3) := by decide +kernel
theorem d52_23 : decode c_47 23 = .ok (.iinc 1 1, 3) := by decide +kernel
theorem d52_26 : decode c_47 26 = .ok (.iinc 4 1, 3) := by decide +kernel
theorem d52_29 : decode c_47 29 = .ok (.goto (-21), 3) := by decide +kernel
theorem d52_32 : decode c_47 32 = .ok (.aload_n 3, 1) := by decide +kernel
theorem d52_33 : decode c_47 33 = .ok (.areturn, 1) := by decide +kernel
theorem ef_tb (m : MethodId) (x0 : Addr) (x2 : Int32) : entryFrame m #[(.ref x0), (.int 0), (.int x2)] 5 = mkF m 0 #[.val (.ref x0), .val (.int 0), .val (.int x2), .unset, .unset] [] := by first | (simp [entryFrame, mkF, argsToLocals, Value.category]; done) | rfl
def Qtb (Z : State) (cs : List Int32) (h0 : Heap) (n0 : Nat) (v : Option Value) (h : Heap) (L : List Loc) : Prop := ∃ (u : Addr) (ku : ClassId) (zu : Int32), v = some (.ref u) ∧ Fr n0 L ∧ Keep h0 h [] ∧ h0.size ≤ u ∧ zu.toInt = 2 * (cs.length : Int) ∧ Arv Z h u ku .byte zu (List.map Value.int (own_u16 cs)) (.int 0)
theorem rmtb (l : Launch) (Z : State) (a0 : Array Value) (hw : ∀ d ∈ tables_1, d.before a0 Z = true) (ws : List Jvm.Cond) (a1 : Addr) (kc : ClassId) (z : Int32) (cs : List Int32) (h0 : Heap) (n0 : Nat) (Z0 : n0 ≤ h0.size) (Vc : Arv Z h0 a1 kc .char z (List.map Value.int cs) (.int 0)) (hz : z.toInt = cs.length) (h1z : 1 ≤ cs.length) (hl : cs.length ≤ 5) (hcs : own_chs cs) (SA : Sta Z h0 "java/lang/StringUTF16" "$assertionsDisabled" "Z" (.int 1)) (SHI : Sta Z h0 "java/lang/StringUTF16" "HI_BYTE_SHIFT" "I" (.int 0)) (SLO : Sta Z h0 "java/lang/StringUTF16" "LO_BYTE_SHIFT" "I" (.int 8)) : own_M l mN_47 jdk_52_method_14_code 5 (some (.array .byte)) ws ({ frames := 2, cells := 1, slots := 10, locals := 24 } : Room) Z h0 #[(.ref a1), (.int 0), (.int z)] (Qtb Z cs h0 n0) := by
  refine own_go #[.val (.ref a1), .val (.int 0), .val (.int z), .unset, .unset] (plainFor_of_name pn_5) (fun m => ef_tb m a1 z) ?_
  intro p e s m below meth c s₁ hx hby hml hown hnm hlk X0 e0 hZ hrt
  have N0 := Fr.nil n0
  have KK := Keep.refl h0 []
  refine own_iloadN X0 hx hby d52_0 rfl ?_
  obtain ⟨_, _, ⟨T258, L258, k258, n258⟩, -, X258, ⟨Lc258, hQ258, l258, y258, z258⟩, st258⟩ := Jvm.LawKit.callS X0 hx (y := mN_24) hown (oV hZ hw 242 rfl) (oV hZ hw 243 rfl) (oV hZ hw 27 rfl) (oV hZ hw 244 rfl) (by decide) (backOf (W := 0) (rmnb5 l Z a0 hw [] z h0 n0 Z0 (by omega) (by omega)) hZ (own_w hw 244 rfl) (own_w hw 27 rfl) (by decide) (by decide)) (g := (mkF m 1 #[.val (.ref a1), .val (.int 0), .val (.int z), .unset, .unset] [(.int z)])) rfl (by rw [hml]; rfl) (argsL := [(.int z)]) (rest := []) (lenOf pd_14 rfl) rfl (by exact oZ rfl) (hb hby d52_1) (fun _ _ => ⟨rfl, e0, (by decide : 0 + 1 ≤ _), (by decide : 0 + 10 ≤ _)⟩)
  dsimp only [Pt.U, Pt.locs, Pt.cells, Pt.slots] at X258 l258 y258 z258 st258 hQ258
  rw [l258, y258, z258] at X258
  obtain ⟨u258, ku258, zu258, rfl, Nq258, Kp258, gq258, hz258, Vq258⟩ := hQ258
  have g_u258 : n0 ≤ u258 := nT Z0 gq258
  have sz_u258 : h0.size ≤ u258 := nT KK.1 gq258
  have ne_a1_u258 : a1 ≠ u258 := nL Vc.lt gq258
  have N258 := Fr.app N0 Nq258
  replace Z0 := nT Z0 Kp258.1
  replace Vc := Vc.keep Kp258 nin0
  replace SA := own_staKeep SA Kp258 ns0
  replace SHI := own_staKeep SHI Kp258 ns0
  replace SLO := own_staKeep SLO Kp258 ns0
  replace KK := KK.trans Kp258 all0
  refine own_of (U' := (T258.setTop (mkF m 4 #[.val (.ref a1), .val (.int 0), .val (.int z), .unset, .unset] [(.ref u258)]))) (st258) ?_
  refine own_astoreN X258 hx hby d52_4 rfl (l' := #[.val (.ref a1), .val (.int 0), .val (.int z), .val (.ref u258), .unset]) rfl ?_
  refine own_iconst X258 hx hby 0 d52_5 rfl ?_
  refine own_istore X258 hx hby d52_6 (l' := #[.val (.ref a1), .val (.int 0), .val (.int z), .val (.ref u258), .val (.int 0)]) rfl ?_
  replace Vq258 : Arv Z T258.heap u258 ku258 .byte zu258 (List.map Value.int (own_u16 (cs.take 0))) (.int 0) := Vq258
  suffices key259 : ∀ (f : Nat) (T259 : State) (L259 : List Loc) (hq259 : Heap) (si : Int32) (i : Int32) (j : Nat), Stand p l e ({ frames := 2, cells := 1, slots := 10, locals := 24 } : Room) s m #[(.ref a1), (.int 0), (.int z)] below meth c T259 L259 1 10 → T259.heap = hq259 → Fr n0 L259 → (n0 ≤ hq259.size) → (Arv Z hq259 a1 kc .char z (List.map Value.int cs) (.int 0)) → (Sta Z hq259 "java/lang/StringUTF16" "$assertionsDisabled" "Z" (.int 1)) → (Sta Z hq259 "java/lang/StringUTF16" "HI_BYTE_SHIFT" "I" (.int 0)) → (Sta Z hq259 "java/lang/StringUTF16" "LO_BYTE_SHIFT" "I" (.int 8)) → (Keep h0 hq259 []) → (Arv Z hq259 u258 ku258 .byte zu258 (List.map Value.int (own_u16 (cs.take j))) (.int 0)) → (si.toInt = j ∧ i.toInt = j ∧ j + f = cs.length) → own_Ends p e below s FrameEnd (Qtb Z cs h0 n0) 1 10 (T259.setTop (mkF m 8 #[.val (.ref a1), .val (.int si), .val (.int z), .val (.ref u258), .val (.int i)] [])) by
    exact key259 cs.length _ _ _ _ _ 0 X258 rfl N258 Z0 Vc SA SHI SLO KK Vq258 ⟨own_i0, own_i0, by omega⟩
  intro f
  induction f using Nat.strongRecOn with
  | _ f ih259 =>
    intro T259 L259 hq259 si i j X259 e259 N259 Z0 Vc SA SHI SLO KK Vq258 iv
    obtain ⟨hsi, hi, hjf⟩ := iv
    refine own_iload X259 hx hby d52_8 rfl ?_
    refine own_iloadN X259 hx hby d52_10 rfl ?_
    by_cases hc11_260 : i < z
    · skip
      refine own_icmpNo X259 hx hby d52_11 (tlt hc11_260).2.1 ?_
      have hjl : j < cs.length := by have q := hc11_260; rw [own_ltI, hz, hi] at q; omega
      obtain ⟨g, rfl⟩ : ∃ g, f = g + 1 := ⟨f - 1, by omega⟩
      have htl : (cs.take j).length = j := by rw [List.length_take]; omega
      refine own_aloadN X259 hx hby d52_14 rfl rfl ?_
      refine own_iload X259 hx hby d52_15 rfl ?_
      refine own_aloadN X259 hx hby d52_17 rfl rfl ?_
      refine own_iloadN X259 hx hby d52_18 rfl ?_
      obtain ⟨cl261, Ar261, qa261, Sa261, Na261, Ha261, Ga261⟩ := id Vc
      have hin261 : ¬ (si < 0 ∨ cl261.slots.size ≤ (si).toNatClampNeg) := inb_of Sa261 ⟨own_ge0 (by omega), by rw [own_ltI, hz, hsi]; omega⟩
      have hat261 : cl261.slots[(si).toNatClampNeg]? = some (.int (own_at cs si)) := Has.at Ha261 hin261 (own_at_eq cs _)
      refine own_of (U' := (T259.setTop (mkF m 20 #[.val (.ref a1), .val (.int si), .val (.int z), .val (.ref u258), .val (.int i)] [(.int (own_at cs si)), (.int i), (.ref u258)]))) (X259.caload hx (j := si) (v := (.int (own_at cs si))) (by rw [e259]; exact Ar261.1) (State.isArrayOf_alike hZ.alike Ar261.2.1) Ar261.2.2 hin261 hat261 (g := (mkF m 19 #[.val (.ref a1), .val (.int si), .val (.int z), .val (.ref u258), .val (.int i)] [(.int si), (.ref a1), (.int i), (.ref u258)])) rfl rfl (hb hby d52_19)) ?_
      refine own_eq (U' := (T259.setTop (mkF m 20 #[.val (.ref a1), .val (.int si), .val (.int z), .val (.ref u258), .val (.int i)] [(.int (cs.getD j 0)), (.int i), (.ref u258)]))) (by rw [show (own_at cs si) = (cs.getD j 0) from own_atN hsi]) ?_
      obtain ⟨_, _, ⟨T262, L262, k262, n262⟩, -, X262, ⟨Lc262, hQ262, l262, y262, z262⟩, st262⟩ := Jvm.LawKit.callS X259 hx (y := mN_25) hown (oV hZ hw 249 rfl) (oV hZ hw 250 rfl) (oV hZ hw 27 rfl) (oV hZ hw 251 rfl) (by decide) (backOf (W := 0) (rmpc l Z a0 hw [] u258 i (cs.getD j 0) ku258 zu258 (cs.take j) hq259 n0 Z0 Vq258 (by rw [htl]; exact hi) (by rw [htl]; omega) (by rw [htl, hz258, hz]; omega) g_u258 SA SHI SLO) hZ (own_w hw 251 rfl) (own_w hw 27 rfl) (by decide) (by decide)) (g := (mkF m 20 #[.val (.ref a1), .val (.int si), .val (.int z), .val (.ref u258), .val (.int i)] [(.int (cs.getD j 0)), (.int i), (.ref u258)])) rfl (by rw [hml]; rfl) (argsL := [(.ref u258), (.int i), (.int (cs.getD j 0))]) (rest := []) (lenOf pd_10 rfl) rfl (by exact oZ rfl) (hb hby d52_20) (fun _ _ => ⟨rfl, e259, (by decide : 1 + 0 ≤ _), (by decide : 10 + 0 ≤ _)⟩)
      dsimp only [Pt.U, Pt.locs, Pt.cells, Pt.slots] at X262 l262 y262 z262 st262 hQ262
      rw [l262, y262, z262] at X262
      obtain ⟨rfl, Nq262, Kp262, Vq262⟩ := hQ262
      have N262 := Fr.app N259 Nq262
      have nst_u258 := Vq258.nostat
      replace Z0 := nT Z0 Kp262.1
      replace Vc := Vc.keep Kp262 (ninS ne_a1_u258 nin0)
      replace SA := own_staKeep SA Kp262 (nsS nst_u258 ns0)
      replace SHI := own_staKeep SHI Kp262 (nsS nst_u258 ns0)
      replace SLO := own_staKeep SLO Kp262 (nsS nst_u258 ns0)
      replace KK := KK.trans Kp262 (allS (Or.inr sz_u258) all0)
      refine own_of (U' := (T262.setTop (mkF m 23 #[.val (.ref a1), .val (.int si), .val (.int z), .val (.ref u258), .val (.int i)] []))) (st262) ?_
      refine own_iinc X262 hx hby d52_23 rfl (l' := #[.val (.ref a1), .val (.int (si + (1 : Int32))), .val (.int z), .val (.ref u258), .val (.int i)]) rfl ?_
      refine own_iinc X262 hx hby d52_26 rfl (l' := #[.val (.ref a1), .val (.int (si + (1 : Int32))), .val (.int z), .val (.ref u258), .val (.int (i + (1 : Int32)))]) rfl ?_
      refine own_goto X262 hx hby 29 8 d52_29 (by decide) (by decide) ?_
      replace Vq262 : Arv Z T262.heap u258 ku258 .byte zu258 (List.map Value.int (own_u16 (cs.take (j + 1)))) (.int 0) := by rw [← own_take1 hjl]; exact Vq262
      exact ih259 g (Nat.lt_succ_self g) _ _ _ _ _ (j + 1) X262 rfl N262 Z0 Vc SA SHI SLO KK Vq262 ⟨own_inc hsi (by omega), own_inc hi (by omega), by omega⟩
    · skip
      refine own_icmpYes X259 hx hby 11 32 d52_11 (flt hc11_260).2.1 (by decide) (by decide) ?_
      refine own_aloadN X259 hx hby d52_32 rfl rfl ?_
      exact own_retA X259 hx hlk hrt rfl rfl (hb hby d52_33) (by decide) (by decide) (by rw [e259]; exact ⟨u258, ku258, zu258, rfl, N259, KK, sz_u258, (by rw [hz258, hz]), (by rw [show cs = cs.take j from (List.take_of_length_le (by have q := hc11_260; rw [own_ltI, hz, hi] at q; omega)).symm]; exact Vq258)⟩)
abbrev mN_48 : MethodName := ⟨"java/lang/StringUTF16", "compress", "([CII)[B"⟩
theorem pd_28 : parseMethodDescriptor "([CI[BII)I" = some ⟨[(.array .char), .int, (.array .byte), .int, .int], some .int⟩ := by decide +kernel
theorem d7_0 : decode c_48 0 = .ok (.iload_n 2, 1) := by decide +kernel
theorem d7_1 : decode c_48 1 = .ok (.newarray .byte, 2) := by decide +kernel
theorem d7_3 : decode c_48 3 = .ok (.astore_n 3, 1) := by decide +kernel
theorem d7_4 : decode c_48 4 = .ok (.aload_n 0, 1) := by decide +kernel
theorem d7_5 : decode c_48 5 = .ok (.iload_n 1, 1) := by decide +kernel
theorem d7_6 : decode c_48 6 = .ok (.aload_n 3, 1) := by decide +kernel
theorem d7_7 : decode c_48 7 = .ok (.iconst 0, 1) := by decide +kernel
theorem d7_8 : decode c_48 8 = .ok (.iload_n 2, 1) := by decide +kernel
theorem d7_9 : decode c_48 9 = .ok (.invokestatic 115, 3) := by decide +kernel
theorem d7_12 : decode c_48 12 = .ok (.istore 4, 2) := by decide +kernel
theorem d7_14 : decode c_48 14 = .ok (.iload 4, 2) := by decide +kernel
theorem d7_16 : decode c_48 16 = .ok (.iload_n 2, 1) := by decide +kernel
theorem d7_17 : decode c_48 17 = .ok (.if_icmp .eq 40, 3) := by decide +kernel
theorem d7_57 : decode c_48 57 = .ok (.aload_n 3, 1) := by decide +kernel
theorem d7_58 : decode c_48 58 = .ok (.areturn, 1) := by decide +kernel
theorem ef_cp0 (m : MethodId) (x0 : Addr) (x2 : Int32) : entryFrame m #[(.ref x0), (.int 0), (.int x2)] 6 = mkF m 0 #[.val (.ref x0), .val (.int 0), .val (.int x2), .unset, .unset, .unset] [] := by first | (simp [entryFrame, mkF, argsToLocals, Value.category]; done) | rfl
def Qp0 (Z : State) (z : Int32) (cs : List Int32) (h0 : Heap) (n0 : Nat) (v : Option Value) (h : Heap) (L : List Loc) : Prop := ∃ (b : Addr) (kb : ClassId), v = some (.ref b) ∧ Fr n0 L ∧ Keep h0 h [] ∧ h0.size ≤ b ∧ Arv Z h b kb .byte z (List.map Value.int (List.map own_b8 cs)) (.int 0)
theorem rmcp0 (l : Launch) (Z : State) (a0 : Array Value) (hw : ∀ d ∈ tables_1, d.before a0 Z = true) (ws : List Jvm.Cond) (a1 : Addr) (kc : ClassId) (z : Int32) (cs : List Int32) (h0 : Heap) (n0 : Nat) (Z0 : n0 ≤ h0.size) (Vc : Arv Z h0 a1 kc .char z (List.map Value.int cs) (.int 0)) (hz : z.toInt = cs.length) (h1z : 1 ≤ cs.length) (hl : cs.length ≤ 5) (hcs : own_chs cs) (hlat : own_lat cs) : own_M l mN_48 jdk_52_method_16_code 6 (some (.array .byte)) ws ({ frames := 1, cells := 1, slots := 5, locals := 18 } : Room) Z h0 #[(.ref a1), (.int 0), (.int z)] (Qp0 Z z cs h0 n0) := by
  refine own_go #[.val (.ref a1), .val (.int 0), .val (.int z), .unset, .unset, .unset] (plainFor_of_name pn_5) (fun m => ef_cp0 m a1 z) ?_
  intro p e s m below meth c s₁ hx hby hml hown hnm hlk X0 e0 hZ hrt
  have N0 := Fr.nil n0
  have KK := Keep.refl h0 []
  refine own_iloadN X0 hx hby d7_0 rfl ?_
  obtain ⟨T263, h263, k263, X263, e263, E263, A263, st263⟩ := newP X0 hx hZ (own_w hw 29 rfl) e0 (g := (mkF m 1 #[.val (.ref a1), .val (.int 0), .val (.int z), .unset, .unset, .unset] [(.int z)])) rfl (hb hby d7_1) rfl (own_ge0 (by omega)) (cap := 5) (own_Nle (by omega)) (by decide) (by decide) (by decide)
  obtain ⟨b263, gz263⟩ : ∃ z, z = h0.size := ⟨_, rfl⟩
  rw [← gz263] at A263 st263
  have g_b263 : n0 ≤ b263 := nT Z0 (nE gz263.symm)
  have sz_b263 : h0.size ≤ b263 := nT KK.1 (nE gz263.symm)
  have ne_a1_b263 : a1 ≠ b263 := Nat.ne_of_lt (Nat.lt_of_lt_of_le Vc.lt (nE gz263.symm))
  replace Z0 := nT Z0 E263.1
  replace Vc := Vc.ext E263
  replace KK := KK.ext E263
  have V263 : Arv Z h263 b263 k263 .byte z (List.map Value.int ([] : List Int32)) (.int 0) := Arv.new A263 (own_ge0 (by omega))
  refine own_of (U' := (T263.setTop (mkF m 3 #[.val (.ref a1), .val (.int 0), .val (.int z), .unset, .unset, .unset] [(.ref b263)]))) (st263) ?_
  refine own_astoreN X263 hx hby d7_3 rfl (l' := #[.val (.ref a1), .val (.int 0), .val (.int z), .val (.ref b263), .unset, .unset]) rfl ?_
  refine own_aloadN X263 hx hby d7_4 rfl rfl ?_
  refine own_iloadN X263 hx hby d7_5 rfl ?_
  refine own_aloadN X263 hx hby d7_6 rfl rfl ?_
  refine own_iconst X263 hx hby 0 d7_7 rfl ?_
  refine own_iloadN X263 hx hby d7_8 rfl ?_
  obtain ⟨_, _, ⟨T264, L264, k264, n264⟩, -, X264, ⟨Lc264, hQ264, l264, y264, z264⟩, st264⟩ := Jvm.LawKit.callS X263 hx (y := mN_46) hown (oV hZ hw 30 rfl) (oV hZ hw 31 rfl) (oV hZ hw 27 rfl) (oV hZ hw 32 rfl) (by decide) (backOf (W := 0) (rmcl0 l Z a0 hw [] a1 b263 kc k263 z cs h263 n0 Z0 Vc V263 g_b263 ne_a1_b263 hz h1z hl hcs hlat) hZ (own_w hw 32 rfl) (own_w hw 27 rfl) (by decide) (by decide)) (g := (mkF m 9 #[.val (.ref a1), .val (.int 0), .val (.int z), .val (.ref b263), .unset, .unset] [(.int z), (.int 0), (.ref b263), (.int 0), (.ref a1)])) rfl (by rw [hml]; rfl) (argsL := [(.ref a1), (.int 0), (.ref b263), (.int 0), (.int z)]) (rest := []) (lenOf pd_28 rfl) rfl (by exact oZ rfl) (hb hby d7_9) (fun _ _ => ⟨rfl, e263, (by decide : 1 + 0 ≤ _), (by decide : 5 + 0 ≤ _)⟩)
  dsimp only [Pt.U, Pt.locs, Pt.cells, Pt.slots] at X264 l264 y264 z264 st264 hQ264
  rw [l264, y264, z264] at X264
  obtain ⟨rfl, Nq264, Kp264, Vq264⟩ := hQ264
  have N264 := Fr.app N0 Nq264
  replace Z0 := nT Z0 Kp264.1
  replace Vc := Vc.keep Kp264 (ninS ne_a1_b263 nin0)
  replace KK := KK.trans Kp264 (allS (Or.inr sz_b263) all0)
  refine own_of (U' := (T264.setTop (mkF m 12 #[.val (.ref a1), .val (.int 0), .val (.int z), .val (.ref b263), .unset, .unset] [(.int z)]))) (st264) ?_
  refine own_istore X264 hx hby d7_12 (l' := #[.val (.ref a1), .val (.int 0), .val (.int z), .val (.ref b263), .val (.int z), .unset]) rfl ?_
  refine own_iload X264 hx hby d7_14 rfl ?_
  refine own_iloadN X264 hx hby d7_16 rfl ?_
  have hc17_265 : z = z := rfl
  refine own_icmpYes X264 hx hby 17 57 d7_17 (teq hc17_265).1 (by decide) (by decide) ?_
  refine own_aloadN X264 hx hby d7_57 rfl rfl ?_
  exact own_retA X264 hx hlk hrt rfl rfl (hb hby d7_58) (by decide) (by decide) (⟨b263, k263, rfl, N264, KK, sz_b263, Vq264⟩)
theorem pd_29 : parseMethodDescriptor "([CII)[B" = some ⟨[(.array .char), .int, .int], some (.array .byte)⟩ := by decide +kernel
theorem pd_30 : parseMethodDescriptor "([BI)C" = some ⟨[(.array .byte), .int], some .char⟩ := by decide +kernel
theorem d7_20 : decode c_48 20 = .ok (.aload_n 0, 1) := by decide +kernel
theorem d7_21 : decode c_48 21 = .ok (.iload_n 1, 1) := by decide +kernel
theorem d7_22 : decode c_48 22 = .ok (.iload_n 2, 1) := by decide +kernel
theorem d7_23 : decode c_48 23 = .ok (.invokestatic 119, 3) := by decide +kernel
theorem d7_26 : decode c_48 26 = .ok (.astore 5, 2) := by decide +kernel
theorem d7_28 : decode c_48 28 = .ok (.aload 5, 2) := by decide +kernel
theorem d7_30 : decode c_48 30 = .ok (.iload 4, 2) := by decide +kernel
theorem d7_32 : decode c_48 32 = .ok (.invokestatic 71, 3) := by decide +kernel
theorem d7_35 : decode c_48 35 = .ok (.sipush 255, 3) := by decide +kernel
theorem d7_38 : decode c_48 38 = .ok (.if_icmp .gt 16, 3) := by decide +kernel
theorem d7_54 : decode c_48 54 = .ok (.aload 5, 2) := by decide +kernel
theorem d7_56 : decode c_48 56 = .ok (.areturn, 1) := by decide +kernel
theorem ef_cp1 (m : MethodId) (x0 : Addr) (x2 : Int32) : entryFrame m #[(.ref x0), (.int 0), (.int x2)] 6 = mkF m 0 #[.val (.ref x0), .val (.int 0), .val (.int x2), .unset, .unset, .unset] [] := by first | (simp [entryFrame, mkF, argsToLocals, Value.category]; done) | rfl
theorem rmcp1 (l : Launch) (Z : State) (a0 : Array Value) (hw : ∀ d ∈ tables_1, d.before a0 Z = true) (ws : List Jvm.Cond) (a1 : Addr) (kc : ClassId) (z : Int32) (cs : List Int32) (h0 : Heap) (n0 : Nat) (Z0 : n0 ≤ h0.size) (Vc : Arv Z h0 a1 kc .char z (List.map Value.int cs) (.int 0)) (hz : z.toInt = cs.length) (h1z : 1 ≤ cs.length) (hl : cs.length ≤ 5) (hcs : own_chs cs) (hbig : ¬ own_lat cs) (SA : Sta Z h0 "java/lang/StringUTF16" "$assertionsDisabled" "Z" (.int 1)) (SHI : Sta Z h0 "java/lang/StringUTF16" "HI_BYTE_SHIFT" "I" (.int 0)) (SLO : Sta Z h0 "java/lang/StringUTF16" "LO_BYTE_SHIFT" "I" (.int 8)) : own_M l mN_48 jdk_52_method_16_code 6 (some (.array .byte)) ws ({ frames := 3, cells := 2, slots := 15, locals := 40 } : Room) Z h0 #[(.ref a1), (.int 0), (.int z)] (Qtb Z cs h0 n0) := by
  refine own_go #[.val (.ref a1), .val (.int 0), .val (.int z), .unset, .unset, .unset] (plainFor_of_name pn_5) (fun m => ef_cp1 m a1 z) ?_
  intro p e s m below meth c s₁ hx hby hml hown hnm hlk X0 e0 hZ hrt
  have N0 := Fr.nil n0
  have KK := Keep.refl h0 []
  refine own_iloadN X0 hx hby d7_0 rfl ?_
  obtain ⟨T266, h266, k266, X266, e266, E266, A266, st266⟩ := newP X0 hx hZ (own_w hw 29 rfl) e0 (g := (mkF m 1 #[.val (.ref a1), .val (.int 0), .val (.int z), .unset, .unset, .unset] [(.int z)])) rfl (hb hby d7_1) rfl (own_ge0 (by omega)) (cap := 5) (own_Nle (by omega)) (by decide) (by decide) (by decide)
  obtain ⟨b266, gz266⟩ : ∃ z, z = h0.size := ⟨_, rfl⟩
  rw [← gz266] at A266 st266
  have g_b266 : n0 ≤ b266 := nT Z0 (nE gz266.symm)
  have sz_b266 : h0.size ≤ b266 := nT KK.1 (nE gz266.symm)
  have ne_a1_b266 : a1 ≠ b266 := Nat.ne_of_lt (Nat.lt_of_lt_of_le Vc.lt (nE gz266.symm))
  replace Z0 := nT Z0 E266.1
  replace Vc := Vc.ext E266
  replace SA := SA.ext E266
  replace SHI := SHI.ext E266
  replace SLO := SLO.ext E266
  replace KK := KK.ext E266
  have V266 : Arv Z h266 b266 k266 .byte z (List.map Value.int ([] : List Int32)) (.int 0) := Arv.new A266 (own_ge0 (by omega))
  refine own_of (U' := (T266.setTop (mkF m 3 #[.val (.ref a1), .val (.int 0), .val (.int z), .unset, .unset, .unset] [(.ref b266)]))) (st266) ?_
  refine own_astoreN X266 hx hby d7_3 rfl (l' := #[.val (.ref a1), .val (.int 0), .val (.int z), .val (.ref b266), .unset, .unset]) rfl ?_
  refine own_aloadN X266 hx hby d7_4 rfl rfl ?_
  refine own_iloadN X266 hx hby d7_5 rfl ?_
  refine own_aloadN X266 hx hby d7_6 rfl rfl ?_
  refine own_iconst X266 hx hby 0 d7_7 rfl ?_
  refine own_iloadN X266 hx hby d7_8 rfl ?_
  obtain ⟨_, _, ⟨T267, L267, k267, n267⟩, -, X267, ⟨Lc267, hQ267, l267, y267, z267⟩, st267⟩ := Jvm.LawKit.callS X266 hx (y := mN_46) hown (oV hZ hw 30 rfl) (oV hZ hw 31 rfl) (oV hZ hw 27 rfl) (oV hZ hw 32 rfl) (by decide) (backOf (W := 0) (rmcl1 l Z a0 hw [] a1 b266 kc k266 z cs h266 n0 Z0 Vc V266 g_b266 ne_a1_b266 hz h1z hl hcs hbig) hZ (own_w hw 32 rfl) (own_w hw 27 rfl) (by decide) (by decide)) (g := (mkF m 9 #[.val (.ref a1), .val (.int 0), .val (.int z), .val (.ref b266), .unset, .unset] [(.int z), (.int 0), (.ref b266), (.int 0), (.ref a1)])) rfl (by rw [hml]; rfl) (argsL := [(.ref a1), (.int 0), (.ref b266), (.int 0), (.int z)]) (rest := []) (lenOf pd_28 rfl) rfl (by exact oZ rfl) (hb hby d7_9) (fun _ _ => ⟨rfl, e266, (by decide : 1 + 0 ≤ _), (by decide : 5 + 0 ≤ _)⟩)
  dsimp only [Pt.U, Pt.locs, Pt.cells, Pt.slots] at X267 l267 y267 z267 st267 hQ267
  rw [l267, y267, z267] at X267
  obtain ⟨r267, j267, rfl, Nq267, Kp267, hj267, jl267, bg267⟩ := hQ267
  have N267 := Fr.app N0 Nq267
  have nst_b266 := V266.nostat
  replace Z0 := nT Z0 Kp267.1
  replace Vc := Vc.keep Kp267 (ninS ne_a1_b266 nin0)
  replace SA := own_staKeep SA Kp267 (nsS nst_b266 ns0)
  replace SHI := own_staKeep SHI Kp267 (nsS nst_b266 ns0)
  replace SLO := own_staKeep SLO Kp267 (nsS nst_b266 ns0)
  replace KK := KK.trans Kp267 (allS (Or.inr sz_b266) all0)
  refine own_of (U' := (T267.setTop (mkF m 12 #[.val (.ref a1), .val (.int 0), .val (.int z), .val (.ref b266), .unset, .unset] [(.int r267)]))) (st267) ?_
  refine own_istore X267 hx hby d7_12 (l' := #[.val (.ref a1), .val (.int 0), .val (.int z), .val (.ref b266), .val (.int r267), .unset]) rfl ?_
  refine own_iload X267 hx hby d7_14 rfl ?_
  refine own_iloadN X267 hx hby d7_16 rfl ?_
  have hc17_268 : ¬ (r267 = z) := fun q => by rw [q, hz] at hj267; omega
  refine own_icmpNo X267 hx hby d7_17 (feq hc17_268).1 ?_
  refine own_aloadN X267 hx hby d7_20 rfl rfl ?_
  refine own_iloadN X267 hx hby d7_21 rfl ?_
  refine own_iloadN X267 hx hby d7_22 rfl ?_
  obtain ⟨_, _, ⟨T269, L269, k269, n269⟩, -, X269, ⟨Lc269, hQ269, l269, y269, z269⟩, st269⟩ := Jvm.LawKit.callS X267 hx (y := mN_47) hown (oV hZ hw 239 rfl) (oV hZ hw 240 rfl) (oV hZ hw 27 rfl) (oV hZ hw 241 rfl) (by decide) (backOf (W := 0) (rmtb l Z a0 hw [] a1 kc z cs T267.heap n0 Z0 Vc hz h1z hl hcs SA SHI SLO) hZ (own_w hw 241 rfl) (own_w hw 27 rfl) (by decide) (by decide)) (g := (mkF m 23 #[.val (.ref a1), .val (.int 0), .val (.int z), .val (.ref b266), .val (.int r267), .unset] [(.int z), (.int 0), (.ref a1)])) rfl (by rw [hml]; rfl) (argsL := [(.ref a1), (.int 0), (.int z)]) (rest := []) (lenOf pd_29 rfl) rfl (by exact oZ rfl) (hb hby d7_23) (fun _ _ => ⟨rfl, rfl, (by decide : 1 + 1 ≤ _), (by decide : 5 + 10 ≤ _)⟩)
  dsimp only [Pt.U, Pt.locs, Pt.cells, Pt.slots] at X269 l269 y269 z269 st269 hQ269
  rw [l269, y269, z269] at X269
  obtain ⟨u269, ku269, zu269, rfl, Nq269, Kp269, gq269, hz269, Vq269⟩ := hQ269
  have g_u269 : n0 ≤ u269 := nT Z0 gq269
  have sz_u269 : h0.size ≤ u269 := nT KK.1 gq269
  have ne_a1_u269 : a1 ≠ u269 := nL Vc.lt gq269
  have N269 := Fr.app N267 Nq269
  replace Z0 := nT Z0 Kp269.1
  replace Vc := Vc.keep Kp269 nin0
  replace SA := own_staKeep SA Kp269 ns0
  replace SHI := own_staKeep SHI Kp269 ns0
  replace SLO := own_staKeep SLO Kp269 ns0
  replace KK := KK.trans Kp269 all0
  refine own_of (U' := (T269.setTop (mkF m 26 #[.val (.ref a1), .val (.int 0), .val (.int z), .val (.ref b266), .val (.int r267), .unset] [(.ref u269)]))) (st269) ?_
  refine own_astore X269 hx hby d7_26 rfl (l' := #[.val (.ref a1), .val (.int 0), .val (.int z), .val (.ref b266), .val (.int r267), .val (.ref u269)]) rfl ?_
  refine own_aload X269 hx hby d7_28 rfl rfl ?_
  refine own_iload X269 hx hby d7_30 rfl ?_
  obtain ⟨_, _, ⟨T270, L270, k270, n270⟩, -, X270, ⟨Lc270, hQ270, l270, y270, z270⟩, st270⟩ := Jvm.LawKit.callS X269 hx (y := mN_27) hown (oV hZ hw 255 rfl) (oV hZ hw 256 rfl) (oV hZ hw 27 rfl) (oV hZ hw 257 rfl) (by decide) (backOf (W := 0) (rmug l Z a0 hw [] u269 r267 ku269 zu269 cs j267 T269.heap n0 Z0 Vq269 hj267 jl267 hcs (by omega) (by rw [hz269]; exact Int.le_refl _) SA SHI SLO) hZ (own_w hw 257 rfl) (own_w hw 27 rfl) (by decide) (by decide)) (g := (mkF m 32 #[.val (.ref a1), .val (.int 0), .val (.int z), .val (.ref b266), .val (.int r267), .val (.ref u269)] [(.int r267), (.ref u269)])) rfl (by rw [hml]; rfl) (argsL := [(.ref u269), (.int r267)]) (rest := []) (lenOf pd_30 rfl) rfl (by exact oZ rfl) (hb hby d7_32) (fun _ _ => ⟨rfl, rfl, (by decide : 2 + 0 ≤ _), (by decide : 15 + 0 ≤ _)⟩)
  dsimp only [Pt.U, Pt.locs, Pt.cells, Pt.slots] at X270 l270 y270 z270 st270 hQ270
  rw [l270, y270, z270] at X270
  obtain ⟨rfl, Nq270, e270⟩ := hQ270
  have N270 := Fr.app N269 Nq270
  refine own_of (U' := (T270.setTop (mkF m 35 #[.val (.ref a1), .val (.int 0), .val (.int z), .val (.ref b266), .val (.int r267), .val (.ref u269)] [(.int (cs.getD j267 0))]))) (st270) ?_
  refine own_sipush X270 hx hby 255 d7_35 rfl ?_
  have hc38_271 : (255 : Int32) < (cs.getD j267 0) := bg267
  refine own_icmpYes X270 hx hby 38 54 d7_38 (tlt hc38_271).2.2.1 (by decide) (by decide) ?_
  refine own_aload X270 hx hby d7_54 rfl rfl ?_
  exact own_retA X270 hx hlk hrt rfl rfl (hb hby d7_56) (by decide) (by decide) (by rw [e270]; exact ⟨u269, ku269, zu269, rfl, N270, KK, sz_u269, hz269, Vq269⟩)
abbrev mN_49 : MethodName := ⟨"java/lang/StringUTF16", "coderFromArrayLen", "([BI)B"⟩
theorem d9_0 : decode c_49 0 = .ok (.iload_n 1, 1) := by decide +kernel
theorem d9_1 : decode c_49 1 = .ok (.aload_n 0, 1) := by decide +kernel
theorem d9_2 : decode c_49 2 = .ok (.arraylength, 1) := by decide +kernel
theorem d9_3 : decode c_49 3 = .ok (.isub, 1) := by decide +kernel
theorem d9_4 : decode c_49 4 = .ok (.bipush 31, 2) := by decide +kernel
theorem d9_6 : decode c_49 6 = .ok (.iushr, 1) := by decide +kernel
theorem d9_7 : decode c_49 7 = .ok (.i2b, 1) := by decide +kernel
theorem d9_8 : decode c_49 8 = .ok (.ireturn, 1) := by decide +kernel
theorem ef_cf0 (m : MethodId) (x0 : Addr) (x1 : Int32) : entryFrame m #[(.ref x0), (.int x1)] 2 = mkF m 0 #[.val (.ref x0), .val (.int x1)] [] := by first | (simp [entryFrame, mkF, argsToLocals, Value.category]; done) | rfl
theorem rmcf0 (l : Launch) (Z : State) (a0 : Array Value) (hw : ∀ d ∈ tables_1, d.before a0 Z = true) (ws : List Jvm.Cond) (b : Addr) (kb : ClassId) (z : Int32) (bs : List Int32) (h0 : Heap) (n0 : Nat) (Z0 : n0 ≤ h0.size) (Vb : Arv Z h0 b kb .byte z (List.map Value.int bs) (.int 0)) : own_M l mN_49 jdk_52_method_15_code 2 (some .byte) ws ({ frames := 0, cells := 0, slots := 0, locals := 0 } : Room) Z h0 #[(.ref b), (.int z)] (Qv 0 h0 n0) := by
  refine own_go #[.val (.ref b), .val (.int z)] (plainFor_of_name pn_5) (fun m => ef_cf0 m b z) ?_
  intro p e s m below meth c s₁ hx hby hml hown hnm hlk X0 e0 hZ hrt
  have N0 := Fr.nil n0
  refine own_iloadN X0 hx hby d9_0 rfl ?_
  refine own_aloadN X0 hx hby d9_1 rfl rfl ?_
  obtain ⟨cl272, Ar272, qa272, Sa272, Na272, -, -⟩ := id Vb
  have al272 := X0.arraylength hx (by rw [e0]; exact Ar272.1) (State.isArrayOf_alike hZ.alike Ar272.2.1) (g := (mkF m 2 #[.val (.ref b), .val (.int z)] [(.ref b), (.int z)])) rfl rfl (hb hby d9_2)
  rw [len_of Sa272 Na272] at al272
  refine own_of (U' := (s₁.setTop (mkF m 3 #[.val (.ref b), .val (.int z)] [(.int z), (.int z)]))) (al272) ?_
  refine own_isub X0 hx hby d9_3 ?_
  refine own_bipush X0 hx hby 31 d9_4 rfl ?_
  refine own_iushr X0 hx hby d9_6 ?_
  refine own_i2b X0 hx hby d9_7 ?_
  exact own_retN X0 hx hlk (t := .byte) hrt (by simp) (hb hby d9_8) (by decide) (by decide) (⟨congrArg (fun z => some (Value.int z)) (own_cfz z), N0, e0⟩)
theorem ef_cf1 (m : MethodId) (x0 : Addr) (x1 : Int32) : entryFrame m #[(.ref x0), (.int x1)] 2 = mkF m 0 #[.val (.ref x0), .val (.int x1)] [] := by first | (simp [entryFrame, mkF, argsToLocals, Value.category]; done) | rfl
theorem rmcf1 (l : Launch) (Z : State) (a0 : Array Value) (hw : ∀ d ∈ tables_1, d.before a0 Z = true) (ws : List Jvm.Cond) (b : Addr) (n : Int32) (kb : ClassId) (z : Int32) (bs : List Int32) (c : Nat) (h0 : Heap) (n0 : Nat) (Z0 : n0 ≤ h0.size) (Vb : Arv Z h0 b kb .byte z (List.map Value.int bs) (.int 0)) (hz : z.toInt = 2 * (c : Int)) (hn : n.toInt = c) (h1 : 1 ≤ c) (h2 : c ≤ 1000) : own_M l mN_49 jdk_52_method_15_code 2 (some .byte) ws ({ frames := 0, cells := 0, slots := 0, locals := 0 } : Room) Z h0 #[(.ref b), (.int n)] (Qv 1 h0 n0) := by
  refine own_go #[.val (.ref b), .val (.int n)] (plainFor_of_name pn_5) (fun m => ef_cf1 m b n) ?_
  intro p e s m below meth c s₁ hx hby hml hown hnm hlk X0 e0 hZ hrt
  have N0 := Fr.nil n0
  refine own_iloadN X0 hx hby d9_0 rfl ?_
  refine own_aloadN X0 hx hby d9_1 rfl rfl ?_
  obtain ⟨cl273, Ar273, qa273, Sa273, Na273, -, -⟩ := id Vb
  have al273 := X0.arraylength hx (by rw [e0]; exact Ar273.1) (State.isArrayOf_alike hZ.alike Ar273.2.1) (g := (mkF m 2 #[.val (.ref b), .val (.int n)] [(.ref b), (.int n)])) rfl rfl (hb hby d9_2)
  rw [len_of Sa273 Na273] at al273
  refine own_of (U' := (s₁.setTop (mkF m 3 #[.val (.ref b), .val (.int n)] [(.int z), (.int n)]))) (al273) ?_
  refine own_isub X0 hx hby d9_3 ?_
  refine own_bipush X0 hx hby 31 d9_4 rfl ?_
  refine own_iushr X0 hx hby d9_6 ?_
  refine own_i2b X0 hx hby d9_7 ?_
  exact own_retN X0 hx hlk (t := .byte) hrt (by simp) (hb hby d9_8) (by decide) (by decide) (⟨congrArg (fun z => some (Value.int z)) (own_cf1 hz hn h1 h2), N0, e0⟩)
abbrev mN_50 : MethodName := ⟨"java/lang/String", "<init>", "([CIILjava/lang/Void;)V"⟩
theorem pd_31 : parseMethodDescriptor "([BI)B" = some ⟨[(.array .byte), .int], some .byte⟩ := by decide +kernel
theorem d5_0 : decode c_50 0 = .ok (.aload_n 0, 1) := by decide +kernel
theorem d5_1 : decode c_50 1 = .ok (.invokespecial 1, 3) := by decide +kernel
theorem d5_4 : decode c_50 4 = .ok (.iload_n 3, 1) := by decide +kernel
theorem d5_5 : decode c_50 5 = .ok (.ifCond .ne 22, 3) := by decide +kernel
theorem d5_27 : decode c_50 27 = .ok (.getstatic 38, 3) := by decide +kernel
theorem d5_30 : decode c_50 30 = .ok (.ifCond .eq 28, 3) := by decide +kernel
theorem d5_33 : decode c_50 33 = .ok (.aload_n 1, 1) := by decide +kernel
theorem d5_34 : decode c_50 34 = .ok (.iload_n 2, 1) := by decide +kernel
theorem d5_35 : decode c_50 35 = .ok (.iload_n 3, 1) := by decide +kernel
theorem d5_36 : decode c_50 36 = .ok (.invokestatic 177, 3) := by decide +kernel
theorem d5_39 : decode c_50 39 = .ok (.astore 5, 2) := by decide +kernel
theorem d5_41 : decode c_50 41 = .ok (.aload_n 0, 1) := by decide +kernel
theorem d5_42 : decode c_50 42 = .ok (.aload 5, 2) := by decide +kernel
theorem d5_44 : decode c_50 44 = .ok (.iload_n 3, 1) := by decide +kernel
theorem d5_45 : decode c_50 45 = .ok (.invokestatic 47, 3) := by decide +kernel
theorem d5_48 : decode c_50 48 = .ok (.putfield 15, 3) := by decide +kernel
theorem d5_51 : decode c_50 51 = .ok (.aload_n 0, 1) := by decide +kernel
theorem d5_52 : decode c_50 52 = .ok (.aload 5, 2) := by decide +kernel
theorem d5_54 : decode c_50 54 = .ok (.putfield 9, 3) := by decide +kernel
theorem d5_57 : decode c_50 57 = .ok (.return_, 1) := by decide +kernel
theorem ef_sv0 (m : MethodId) (x0 : Addr) (x1 : Addr) (x3 : Int32) : entryFrame m #[(.ref x0), (.ref x1), (.int 0), (.int x3), .null] 6 = mkF m 0 #[.val (.ref x0), .val (.ref x1), .val (.int 0), .val (.int x3), .val .null, .unset] [] := by first | (simp [entryFrame, mkF, argsToLocals, Value.category]; done) | rfl
theorem rmsv0 (l : Launch) (Z : State) (a0 : Array Value) (hw : ∀ d ∈ tables_1, d.before a0 Z = true) (ws : List Jvm.Cond) (a1 a2 : Addr) (kc : ClassId) (z : Int32) (cs : List Int32) (g1 : Int32) (h0 : Heap) (n0 : Nat) (Z0 : n0 ≤ h0.size) (E1 : Exa Z h0 a1 "java/lang/String") (Fc : Fld Z h0 a1 "java/lang/String" "coder" "B" (.int 0)) (Fv : Fld Z h0 a1 "java/lang/String" "value" "[B" .null) (Vc : Arv Z h0 a2 kc .char z (List.map Value.int cs) (.int 0)) (g_a1 : n0 ≤ a1) (hz : z.toInt = cs.length) (h1z : 1 ≤ cs.length) (hl : cs.length ≤ 5) (hcs : own_chs cs) (SC : Sta Z h0 "java/lang/String" "COMPACT_STRINGS" "Z" (.int g1)) (hg1 : ¬ (g1 = (0 : Int32))) (SA : Sta Z h0 "java/lang/StringUTF16" "$assertionsDisabled" "Z" (.int 1)) (SHI : Sta Z h0 "java/lang/StringUTF16" "HI_BYTE_SHIFT" "I" (.int 0)) (SLO : Sta Z h0 "java/lang/StringUTF16" "LO_BYTE_SHIFT" "I" (.int 8)) (hlat : own_lat cs) : own_M l mN_50 jdk_42_method_149_code 6 none ws ({ frames := 4, cells := 2, slots := 15, locals := 57 } : Room) Z h0 #[(.ref a1), (.ref a2), (.int 0), (.int z), .null] (Qst Z a1 cs h0 n0) := by
  refine own_go #[.val (.ref a1), .val (.ref a2), .val (.int 0), .val (.int z), .val .null, .unset] (plainFor_of_name pn_0) (fun m => ef_sv0 m a1 a2 z) ?_
  intro p e s m below meth c s₁ hx hby hml hown hnm hlk X0 e0 hZ hrt
  have N0 := Fr.nil n0
  have KK := Keep.refl h0 [a1]
  refine own_aloadN X0 hx hby d5_0 rfl rfl ?_
  obtain ⟨T274, X274, e274, st274⟩ := initO X0 hx hZ hown (own_w hw 21 rfl) (own_w hw 22 rfl) (own_w hw 23 rfl) e0 (g := (mkF m 1 #[.val (.ref a1), .val (.ref a2), .val (.int 0), .val (.int z), .val .null, .unset] [(.ref a1)])) rfl (by rw [hml]; rfl) rfl (hb hby d5_1) (by decide) (W := 0) (by exact oZ rfl) (by decide)
  refine own_of (U' := (T274.setTop (mkF m 4 #[.val (.ref a1), .val (.ref a2), .val (.int 0), .val (.int z), .val .null, .unset] []))) (st274) ?_
  refine own_iloadN X274 hx hby d5_4 rfl ?_
  have hc5_275 : ¬ (z = (0 : Int32)) := fun q => by rw [q, own_i0] at hz; omega
  refine own_ifYes X274 hx hby 5 27 d5_5 ((if0 _ _).trans (feq hc5_275).2) (by decide) (by decide) ?_
  obtain ⟨T276, X276, e276, st276⟩ := getS2 X274 hx hZ hown (host := "") (Or.inl (own_w hw 24 rfl)) Via.refl e274 SC (g := (mkF m 27 #[.val (.ref a1), .val (.ref a2), .val (.int 0), .val (.int z), .val .null, .unset] [])) rfl (hb hby d5_27)
  refine own_of (U' := (T276.setTop (mkF m 30 #[.val (.ref a1), .val (.ref a2), .val (.int 0), .val (.int z), .val .null, .unset] [(.int g1)]))) (st276) ?_
  have hc30_277 : ¬ (g1 = (0 : Int32)) := hg1
  refine own_ifNo X276 hx hby d5_30 ((if0 _ _).trans (feq hc30_277).1) ?_
  refine own_aloadN X276 hx hby d5_33 rfl rfl ?_
  refine own_iloadN X276 hx hby d5_34 rfl ?_
  refine own_iloadN X276 hx hby d5_35 rfl ?_
  obtain ⟨_, _, ⟨T278, L278, k278, n278⟩, -, X278, ⟨Lc278, hQ278, l278, y278, z278⟩, st278⟩ := Jvm.LawKit.callS X276 hx (y := mN_48) hown (oV hZ hw 25 rfl) (oV hZ hw 26 rfl) (oV hZ hw 27 rfl) (oV hZ hw 28 rfl) (by decide) (backOf (W := 0) (rmcp0 l Z a0 hw [] a2 kc z cs h0 n0 Z0 Vc hz h1z hl hcs hlat) hZ (own_w hw 28 rfl) (own_w hw 27 rfl) (by decide) (by decide)) (g := (mkF m 36 #[.val (.ref a1), .val (.ref a2), .val (.int 0), .val (.int z), .val .null, .unset] [(.int z), (.int 0), (.ref a2)])) rfl (by rw [hml]; rfl) (argsL := [(.ref a2), (.int 0), (.int z)]) (rest := []) (lenOf pd_29 rfl) rfl (by exact oZ rfl) (hb hby d5_36) (fun _ _ => ⟨rfl, e276, (by decide : 0 + 1 ≤ _), (by decide : 0 + 5 ≤ _)⟩)
  dsimp only [Pt.U, Pt.locs, Pt.cells, Pt.slots] at X278 l278 y278 z278 st278 hQ278
  rw [l278, y278, z278] at X278
  obtain ⟨u278, ku278, rfl, Nq278, Kp278, gq278, Vq278⟩ := hQ278
  have g_u278 : n0 ≤ u278 := nT Z0 gq278
  have sz_u278 : h0.size ≤ u278 := nT KK.1 gq278
  have ne_a1_u278 : a1 ≠ u278 := nL E1.lt gq278
  have ne_a2_u278 : a2 ≠ u278 := nL Vc.lt gq278
  have N278 := Fr.app N0 Nq278
  replace Z0 := nT Z0 Kp278.1
  replace E1 := E1.keep Kp278
  replace Fc := Fc.keep Kp278 nin0
  replace Fv := Fv.keep Kp278 nin0
  replace Vc := Vc.keep Kp278 nin0
  replace SC := own_staKeep SC Kp278 ns0
  replace SA := own_staKeep SA Kp278 ns0
  replace SHI := own_staKeep SHI Kp278 ns0
  replace SLO := own_staKeep SLO Kp278 ns0
  replace KK := KK.trans Kp278 all0
  refine own_of (U' := (T278.setTop (mkF m 39 #[.val (.ref a1), .val (.ref a2), .val (.int 0), .val (.int z), .val .null, .unset] [(.ref u278)]))) (st278) ?_
  refine own_astore X278 hx hby d5_39 rfl (l' := #[.val (.ref a1), .val (.ref a2), .val (.int 0), .val (.int z), .val .null, .val (.ref u278)]) rfl ?_
  refine own_aloadN X278 hx hby d5_41 rfl rfl ?_
  refine own_aload X278 hx hby d5_42 rfl rfl ?_
  refine own_iloadN X278 hx hby d5_44 rfl ?_
  obtain ⟨_, _, ⟨T279, L279, k279, n279⟩, -, X279, ⟨Lc279, hQ279, l279, y279, z279⟩, st279⟩ := Jvm.LawKit.callS X278 hx (y := mN_49) hown (oV hZ hw 33 rfl) (oV hZ hw 34 rfl) (oV hZ hw 27 rfl) (oV hZ hw 35 rfl) (by decide) (backOf (W := 1) (rmcf0 l Z a0 hw [] u278 ku278 z (List.map own_b8 cs) T278.heap n0 Z0 Vq278) hZ (own_w hw 35 rfl) (own_w hw 27 rfl) (by decide) (by decide)) (g := (mkF m 45 #[.val (.ref a1), .val (.ref a2), .val (.int 0), .val (.int z), .val .null, .val (.ref u278)] [(.int z), (.ref u278), (.ref a1)])) rfl (by rw [hml]; rfl) (argsL := [(.ref u278), (.int z)]) (rest := [(.ref a1)]) (lenOf pd_31 rfl) rfl (by exact oZ rfl) (hb hby d5_45) (fun _ _ => ⟨rfl, rfl, (by decide : 1 + 0 ≤ _), (by decide : 5 + 0 ≤ _)⟩)
  dsimp only [Pt.U, Pt.locs, Pt.cells, Pt.slots] at X279 l279 y279 z279 st279 hQ279
  rw [l279, y279, z279] at X279
  obtain ⟨rfl, Nq279, e279⟩ := hQ279
  have N279 := Fr.app N278 Nq279
  refine own_of (U' := (T279.setTop (mkF m 48 #[.val (.ref a1), .val (.ref a2), .val (.int 0), .val (.int z), .val .null, .val (.ref u278)] [(.int 0), (.ref a1)]))) (st279) ?_
  obtain ⟨T280, h280, X280, e280, W280, st280⟩ := putFN X279 hx hZ hown (own_w hw 36 rfl) Via.refl e279 Fc E1 (Or.inr ⟨(own_w hw 37 rfl), rfl, hnm⟩) (own_w hw 11 rfl) (ty := .byte) (v' := (.int 0)) (by decide) rfl (by decide) (g := (mkF m 48 #[.val (.ref a1), .val (.ref a2), .val (.int 0), .val (.int z), .val .null, .val (.ref u278)] [(.int 0), (.ref a1)])) rfl rfl (hb hby d5_48)
  replace Z0 := nT Z0 (Keep.of_wr W280).1
  replace E1 := E1.wr W280
  replace Fc := Fc.same W280
  replace Fv := Fv.other W280 (Or.inr (slot_ne (Or.inr (own_w hw 39 rfl)) (Or.inr (own_w hw 37 rfl)) (by decide) (t := (.array .byte)) (t' := .byte) (by decide) (by decide)))
  replace SC := SC.wr W280
  replace SA := SA.wr W280
  replace SHI := SHI.wr W280
  replace SLO := SLO.wr W280
  replace KK := KK.wr W280 (Or.inl (List.mem_of_getElem? (i := 0) rfl))
  replace Vq278 := Vq278.other W280 (Ne.symm ne_a1_u278)
  have N280 := Fr.snoc X280 N279 g_a1
  refine own_of (U' := (T280.setTop (mkF m 51 #[.val (.ref a1), .val (.ref a2), .val (.int 0), .val (.int z), .val .null, .val (.ref u278)] []))) (st280) ?_
  refine own_aloadN X280 hx hby d5_51 rfl rfl ?_
  refine own_aload X280 hx hby d5_52 rfl rfl ?_
  obtain ⟨T281, h281, X281, e281, W281, st281⟩ := putF X280 hx hZ hown (host := "") (Or.inl (own_w hw 38 rfl)) Via.refl e280 Fv E1 (Or.inr ⟨(own_w hw 39 rfl), rfl, hnm⟩) (own_w hw 11 rfl) (ty := (.array .byte)) (by decide) rfl rfl (g := (mkF m 54 #[.val (.ref a1), .val (.ref a2), .val (.int 0), .val (.int z), .val .null, .val (.ref u278)] [(.ref u278), (.ref a1)])) rfl rfl (hb hby d5_54)
  replace Z0 := nT Z0 (Keep.of_wr W281).1
  replace E1 := E1.wr W281
  replace Fc := Fc.other W281 (Or.inr (slot_ne (Or.inr (own_w hw 37 rfl)) (Or.inr (own_w hw 39 rfl)) (by decide) (t := .byte) (t' := (.array .byte)) (by decide) (by decide)))
  replace Fv := Fv.same W281
  replace SC := SC.wr W281
  replace SA := SA.wr W281
  replace SHI := SHI.wr W281
  replace SLO := SLO.wr W281
  replace KK := KK.wr W281 (Or.inl (List.mem_of_getElem? (i := 0) rfl))
  replace Vq278 := Vq278.other W281 (Ne.symm ne_a1_u278)
  have N281 := Fr.snoc X281 N280 g_a1
  refine own_of (U' := (T281.setTop (mkF m 57 #[.val (.ref a1), .val (.ref a2), .val (.int 0), .val (.int z), .val .null, .val (.ref u278)] []))) (st281) ?_
  exact own_ret0 X281 hx hlk hrt (hb hby d5_57) (by decide) (by decide) (by rw [e281]; exact ⟨rfl, N281, KK, u278, ku278, (0 : Int32), z, sz_u278, Fc, Fv, Or.inl ⟨rfl, hlat, hz, Vq278⟩⟩)
theorem ef_sv1 (m : MethodId) (x0 : Addr) (x1 : Addr) (x3 : Int32) : entryFrame m #[(.ref x0), (.ref x1), (.int 0), (.int x3), .null] 6 = mkF m 0 #[.val (.ref x0), .val (.ref x1), .val (.int 0), .val (.int x3), .val .null, .unset] [] := by first | (simp [entryFrame, mkF, argsToLocals, Value.category]; done) | rfl
theorem rmsv1 (l : Launch) (Z : State) (a0 : Array Value) (hw : ∀ d ∈ tables_1, d.before a0 Z = true) (ws : List Jvm.Cond) (a1 a2 : Addr) (kc : ClassId) (z : Int32) (cs : List Int32) (g1 : Int32) (h0 : Heap) (n0 : Nat) (Z0 : n0 ≤ h0.size) (E1 : Exa Z h0 a1 "java/lang/String") (Fc : Fld Z h0 a1 "java/lang/String" "coder" "B" (.int 0)) (Fv : Fld Z h0 a1 "java/lang/String" "value" "[B" .null) (Vc : Arv Z h0 a2 kc .char z (List.map Value.int cs) (.int 0)) (g_a1 : n0 ≤ a1) (hz : z.toInt = cs.length) (h1z : 1 ≤ cs.length) (hl : cs.length ≤ 5) (hcs : own_chs cs) (SC : Sta Z h0 "java/lang/String" "COMPACT_STRINGS" "Z" (.int g1)) (hg1 : ¬ (g1 = (0 : Int32))) (SA : Sta Z h0 "java/lang/StringUTF16" "$assertionsDisabled" "Z" (.int 1)) (SHI : Sta Z h0 "java/lang/StringUTF16" "HI_BYTE_SHIFT" "I" (.int 0)) (SLO : Sta Z h0 "java/lang/StringUTF16" "LO_BYTE_SHIFT" "I" (.int 8)) (hbig : ¬ own_lat cs) : own_M l mN_50 jdk_42_method_149_code 6 none ws ({ frames := 4, cells := 2, slots := 15, locals := 57 } : Room) Z h0 #[(.ref a1), (.ref a2), (.int 0), (.int z), .null] (Qst Z a1 cs h0 n0) := by
  refine own_go #[.val (.ref a1), .val (.ref a2), .val (.int 0), .val (.int z), .val .null, .unset] (plainFor_of_name pn_0) (fun m => ef_sv1 m a1 a2 z) ?_
  intro p e s m below meth c s₁ hx hby hml hown hnm hlk X0 e0 hZ hrt
  have N0 := Fr.nil n0
  have KK := Keep.refl h0 [a1]
  refine own_aloadN X0 hx hby d5_0 rfl rfl ?_
  obtain ⟨T282, X282, e282, st282⟩ := initO X0 hx hZ hown (own_w hw 21 rfl) (own_w hw 22 rfl) (own_w hw 23 rfl) e0 (g := (mkF m 1 #[.val (.ref a1), .val (.ref a2), .val (.int 0), .val (.int z), .val .null, .unset] [(.ref a1)])) rfl (by rw [hml]; rfl) rfl (hb hby d5_1) (by decide) (W := 0) (by exact oZ rfl) (by decide)
  refine own_of (U' := (T282.setTop (mkF m 4 #[.val (.ref a1), .val (.ref a2), .val (.int 0), .val (.int z), .val .null, .unset] []))) (st282) ?_
  refine own_iloadN X282 hx hby d5_4 rfl ?_
  have hc5_283 : ¬ (z = (0 : Int32)) := fun q => by rw [q, own_i0] at hz; omega
  refine own_ifYes X282 hx hby 5 27 d5_5 ((if0 _ _).trans (feq hc5_283).2) (by decide) (by decide) ?_
  obtain ⟨T284, X284, e284, st284⟩ := getS2 X282 hx hZ hown (host := "") (Or.inl (own_w hw 24 rfl)) Via.refl e282 SC (g := (mkF m 27 #[.val (.ref a1), .val (.ref a2), .val (.int 0), .val (.int z), .val .null, .unset] [])) rfl (hb hby d5_27)
  refine own_of (U' := (T284.setTop (mkF m 30 #[.val (.ref a1), .val (.ref a2), .val (.int 0), .val (.int z), .val .null, .unset] [(.int g1)]))) (st284) ?_
  have hc30_285 : ¬ (g1 = (0 : Int32)) := hg1
  refine own_ifNo X284 hx hby d5_30 ((if0 _ _).trans (feq hc30_285).1) ?_
  refine own_aloadN X284 hx hby d5_33 rfl rfl ?_
  refine own_iloadN X284 hx hby d5_34 rfl ?_
  refine own_iloadN X284 hx hby d5_35 rfl ?_
  obtain ⟨_, _, ⟨T286, L286, k286, n286⟩, -, X286, ⟨Lc286, hQ286, l286, y286, z286⟩, st286⟩ := Jvm.LawKit.callS X284 hx (y := mN_48) hown (oV hZ hw 25 rfl) (oV hZ hw 26 rfl) (oV hZ hw 27 rfl) (oV hZ hw 28 rfl) (by decide) (backOf (W := 0) (rmcp1 l Z a0 hw [] a2 kc z cs h0 n0 Z0 Vc hz h1z hl hcs hbig SA SHI SLO) hZ (own_w hw 28 rfl) (own_w hw 27 rfl) (by decide) (by decide)) (g := (mkF m 36 #[.val (.ref a1), .val (.ref a2), .val (.int 0), .val (.int z), .val .null, .unset] [(.int z), (.int 0), (.ref a2)])) rfl (by rw [hml]; rfl) (argsL := [(.ref a2), (.int 0), (.int z)]) (rest := []) (lenOf pd_29 rfl) rfl (by exact oZ rfl) (hb hby d5_36) (fun _ _ => ⟨rfl, e284, (by decide : 0 + 2 ≤ _), (by decide : 0 + 15 ≤ _)⟩)
  dsimp only [Pt.U, Pt.locs, Pt.cells, Pt.slots] at X286 l286 y286 z286 st286 hQ286
  rw [l286, y286, z286] at X286
  obtain ⟨u286, ku286, zu286, rfl, Nq286, Kp286, gq286, hz286, Vq286⟩ := hQ286
  have g_u286 : n0 ≤ u286 := nT Z0 gq286
  have sz_u286 : h0.size ≤ u286 := nT KK.1 gq286
  have ne_a1_u286 : a1 ≠ u286 := nL E1.lt gq286
  have ne_a2_u286 : a2 ≠ u286 := nL Vc.lt gq286
  have N286 := Fr.app N0 Nq286
  replace Z0 := nT Z0 Kp286.1
  replace E1 := E1.keep Kp286
  replace Fc := Fc.keep Kp286 nin0
  replace Fv := Fv.keep Kp286 nin0
  replace Vc := Vc.keep Kp286 nin0
  replace SC := own_staKeep SC Kp286 ns0
  replace SA := own_staKeep SA Kp286 ns0
  replace SHI := own_staKeep SHI Kp286 ns0
  replace SLO := own_staKeep SLO Kp286 ns0
  replace KK := KK.trans Kp286 all0
  refine own_of (U' := (T286.setTop (mkF m 39 #[.val (.ref a1), .val (.ref a2), .val (.int 0), .val (.int z), .val .null, .unset] [(.ref u286)]))) (st286) ?_
  refine own_astore X286 hx hby d5_39 rfl (l' := #[.val (.ref a1), .val (.ref a2), .val (.int 0), .val (.int z), .val .null, .val (.ref u286)]) rfl ?_
  refine own_aloadN X286 hx hby d5_41 rfl rfl ?_
  refine own_aload X286 hx hby d5_42 rfl rfl ?_
  refine own_iloadN X286 hx hby d5_44 rfl ?_
  obtain ⟨_, _, ⟨T287, L287, k287, n287⟩, -, X287, ⟨Lc287, hQ287, l287, y287, z287⟩, st287⟩ := Jvm.LawKit.callS X286 hx (y := mN_49) hown (oV hZ hw 33 rfl) (oV hZ hw 34 rfl) (oV hZ hw 27 rfl) (oV hZ hw 35 rfl) (by decide) (backOf (W := 1) (rmcf1 l Z a0 hw [] u286 z ku286 zu286 (own_u16 cs) cs.length T286.heap n0 Z0 Vq286 hz286 hz h1z (by omega)) hZ (own_w hw 35 rfl) (own_w hw 27 rfl) (by decide) (by decide)) (g := (mkF m 45 #[.val (.ref a1), .val (.ref a2), .val (.int 0), .val (.int z), .val .null, .val (.ref u286)] [(.int z), (.ref u286), (.ref a1)])) rfl (by rw [hml]; rfl) (argsL := [(.ref u286), (.int z)]) (rest := [(.ref a1)]) (lenOf pd_31 rfl) rfl (by exact oZ rfl) (hb hby d5_45) (fun _ _ => ⟨rfl, rfl, (by decide : 2 + 0 ≤ _), (by decide : 15 + 0 ≤ _)⟩)
  dsimp only [Pt.U, Pt.locs, Pt.cells, Pt.slots] at X287 l287 y287 z287 st287 hQ287
  rw [l287, y287, z287] at X287
  obtain ⟨rfl, Nq287, e287⟩ := hQ287
  have N287 := Fr.app N286 Nq287
  refine own_of (U' := (T287.setTop (mkF m 48 #[.val (.ref a1), .val (.ref a2), .val (.int 0), .val (.int z), .val .null, .val (.ref u286)] [(.int 1), (.ref a1)]))) (st287) ?_
  obtain ⟨T288, h288, X288, e288, W288, st288⟩ := putFN X287 hx hZ hown (own_w hw 36 rfl) Via.refl e287 Fc E1 (Or.inr ⟨(own_w hw 37 rfl), rfl, hnm⟩) (own_w hw 11 rfl) (ty := .byte) (v' := (.int 1)) (by decide) rfl (by decide) (g := (mkF m 48 #[.val (.ref a1), .val (.ref a2), .val (.int 0), .val (.int z), .val .null, .val (.ref u286)] [(.int 1), (.ref a1)])) rfl rfl (hb hby d5_48)
  replace Z0 := nT Z0 (Keep.of_wr W288).1
  replace E1 := E1.wr W288
  replace Fc := Fc.same W288
  replace Fv := Fv.other W288 (Or.inr (slot_ne (Or.inr (own_w hw 39 rfl)) (Or.inr (own_w hw 37 rfl)) (by decide) (t := (.array .byte)) (t' := .byte) (by decide) (by decide)))
  replace SC := SC.wr W288
  replace SA := SA.wr W288
  replace SHI := SHI.wr W288
  replace SLO := SLO.wr W288
  replace KK := KK.wr W288 (Or.inl (List.mem_of_getElem? (i := 0) rfl))
  replace Vq286 := Vq286.other W288 (Ne.symm ne_a1_u286)
  have N288 := Fr.snoc X288 N287 g_a1
  refine own_of (U' := (T288.setTop (mkF m 51 #[.val (.ref a1), .val (.ref a2), .val (.int 0), .val (.int z), .val .null, .val (.ref u286)] []))) (st288) ?_
  refine own_aloadN X288 hx hby d5_51 rfl rfl ?_
  refine own_aload X288 hx hby d5_52 rfl rfl ?_
  obtain ⟨T289, h289, X289, e289, W289, st289⟩ := putF X288 hx hZ hown (host := "") (Or.inl (own_w hw 38 rfl)) Via.refl e288 Fv E1 (Or.inr ⟨(own_w hw 39 rfl), rfl, hnm⟩) (own_w hw 11 rfl) (ty := (.array .byte)) (by decide) rfl rfl (g := (mkF m 54 #[.val (.ref a1), .val (.ref a2), .val (.int 0), .val (.int z), .val .null, .val (.ref u286)] [(.ref u286), (.ref a1)])) rfl rfl (hb hby d5_54)
  replace Z0 := nT Z0 (Keep.of_wr W289).1
  replace E1 := E1.wr W289
  replace Fc := Fc.other W289 (Or.inr (slot_ne (Or.inr (own_w hw 37 rfl)) (Or.inr (own_w hw 39 rfl)) (by decide) (t := .byte) (t' := (.array .byte)) (by decide) (by decide)))
  replace Fv := Fv.same W289
  replace SC := SC.wr W289
  replace SA := SA.wr W289
  replace SHI := SHI.wr W289
  replace SLO := SLO.wr W289
  replace KK := KK.wr W289 (Or.inl (List.mem_of_getElem? (i := 0) rfl))
  replace Vq286 := Vq286.other W289 (Ne.symm ne_a1_u286)
  have N289 := Fr.snoc X289 N288 g_a1
  refine own_of (U' := (T289.setTop (mkF m 57 #[.val (.ref a1), .val (.ref a2), .val (.int 0), .val (.int z), .val .null, .val (.ref u286)] []))) (st289) ?_
  exact own_ret0 X289 hx hlk hrt (hb hby d5_57) (by decide) (by decide) (by rw [e289]; exact ⟨rfl, N289, KK, u286, ku286, (1 : Int32), zu286, sz_u286, Fc, Fv, Or.inr ⟨rfl, hbig, hz286, Vq286⟩⟩)
theorem rmsv (l : Launch) (Z : State) (a0 : Array Value) (hw : ∀ d ∈ tables_1, d.before a0 Z = true) (ws : List Jvm.Cond) (a1 a2 : Addr) (kc : ClassId) (z : Int32) (cs : List Int32) (g1 : Int32) (h0 : Heap) (n0 : Nat) (Z0 : n0 ≤ h0.size) (E1 : Exa Z h0 a1 "java/lang/String") (Fc : Fld Z h0 a1 "java/lang/String" "coder" "B" (.int 0)) (Fv : Fld Z h0 a1 "java/lang/String" "value" "[B" .null) (Vc : Arv Z h0 a2 kc .char z (List.map Value.int cs) (.int 0)) (g_a1 : n0 ≤ a1) (hz : z.toInt = cs.length) (h1z : 1 ≤ cs.length) (hl : cs.length ≤ 5) (hcs : own_chs cs) (SC : Sta Z h0 "java/lang/String" "COMPACT_STRINGS" "Z" (.int g1)) (hg1 : ¬ (g1 = (0 : Int32))) (SA : Sta Z h0 "java/lang/StringUTF16" "$assertionsDisabled" "Z" (.int 1)) (SHI : Sta Z h0 "java/lang/StringUTF16" "HI_BYTE_SHIFT" "I" (.int 0)) (SLO : Sta Z h0 "java/lang/StringUTF16" "LO_BYTE_SHIFT" "I" (.int 8)) : own_M l mN_50 jdk_42_method_149_code 6 none ws ({ frames := 4, cells := 2, slots := 15, locals := 57 } : Room) Z h0 #[(.ref a1), (.ref a2), (.int 0), (.int z), .null] (Qst Z a1 cs h0 n0) := by
  by_cases hlat : own_lat cs
  · exact rmsv0 l Z a0 hw ws a1 a2 kc z cs g1 h0 n0 Z0 E1 Fc Fv Vc g_a1 hz h1z hl hcs SC hg1 SA SHI SLO hlat
  · exact rmsv1 l Z a0 hw ws a1 a2 kc z cs g1 h0 n0 Z0 E1 Fc Fv Vc g_a1 hz h1z hl hcs SC hg1 SA SHI SLO hlat
abbrev mN_51 : MethodName := ⟨"java/lang/String", "<init>", "([C)V"⟩
theorem pd_32 : parseMethodDescriptor "([CIILjava/lang/Void;)V" = some ⟨[(.array .char), .int, .int, (.object "java/lang/Void")], none⟩ := by decide +kernel
theorem d4_0 : decode c_51 0 = .ok (.aload_n 0, 1) := by decide +kernel
theorem d4_1 : decode c_51 1 = .ok (.aload_n 1, 1) := by decide +kernel
theorem d4_2 : decode c_51 2 = .ok (.iconst 0, 1) := by decide +kernel
theorem d4_3 : decode c_51 3 = .ok (.aload_n 1, 1) := by decide +kernel
theorem d4_4 : decode c_51 4 = .ok (.arraylength, 1) := by decide +kernel
theorem d4_5 : decode c_51 5 = .ok (.aconst_null, 1) := by decide +kernel
theorem d4_6 : decode c_51 6 = .ok (.invokespecial 27, 3) := by decide +kernel
theorem d4_9 : decode c_51 9 = .ok (.return_, 1) := by decide +kernel
theorem ef_si (m : MethodId) (x0 : Addr) (x1 : Addr) : entryFrame m #[(.ref x0), (.ref x1)] 2 = mkF m 0 #[.val (.ref x0), .val (.ref x1)] [] := by first | (simp [entryFrame, mkF, argsToLocals, Value.category]; done) | rfl
theorem rmsi (l : Launch) (Z : State) (a0 : Array Value) (hw : ∀ d ∈ tables_1, d.before a0 Z = true) (ws : List Jvm.Cond) (a1 a2 : Addr) (kc : ClassId) (z : Int32) (cs : List Int32) (g1 : Int32) (h0 : Heap) (n0 : Nat) (Z0 : n0 ≤ h0.size) (E1 : Exa Z h0 a1 "java/lang/String") (Fc : Fld Z h0 a1 "java/lang/String" "coder" "B" (.int 0)) (Fv : Fld Z h0 a1 "java/lang/String" "value" "[B" .null) (Vc : Arv Z h0 a2 kc .char z (List.map Value.int cs) (.int 0)) (g_a1 : n0 ≤ a1) (hz : z.toInt = cs.length) (h1z : 1 ≤ cs.length) (hl : cs.length ≤ 5) (hcs : own_chs cs) (SC : Sta Z h0 "java/lang/String" "COMPACT_STRINGS" "Z" (.int g1)) (hg1 : ¬ (g1 = (0 : Int32))) (SA : Sta Z h0 "java/lang/StringUTF16" "$assertionsDisabled" "Z" (.int 1)) (SHI : Sta Z h0 "java/lang/StringUTF16" "HI_BYTE_SHIFT" "I" (.int 0)) (SLO : Sta Z h0 "java/lang/StringUTF16" "LO_BYTE_SHIFT" "I" (.int 8)) : own_M l mN_51 jdk_42_method_3_code 2 none ws ({ frames := 5, cells := 2, slots := 15, locals := 74 } : Room) Z h0 #[(.ref a1), (.ref a2)] (Qst Z a1 cs h0 n0) := by
  refine own_go #[.val (.ref a1), .val (.ref a2)] (plainFor_of_name pn_0) (fun m => ef_si m a1 a2) ?_
  intro p e s m below meth c s₁ hx hby hml hown hnm hlk X0 e0 hZ hrt
  have N0 := Fr.nil n0
  have KK := Keep.refl h0 [a1]
  refine own_aloadN X0 hx hby d4_0 rfl rfl ?_
  refine own_aloadN X0 hx hby d4_1 rfl rfl ?_
  refine own_iconst X0 hx hby 0 d4_2 rfl ?_
  refine own_aloadN X0 hx hby d4_3 rfl rfl ?_
  obtain ⟨cl290, Ar290, qa290, Sa290, Na290, -, -⟩ := id Vc
  have al290 := X0.arraylength hx (by rw [e0]; exact Ar290.1) (State.isArrayOf_alike hZ.alike Ar290.2.1) (g := (mkF m 4 #[.val (.ref a1), .val (.ref a2)] [(.ref a2), (.int 0), (.ref a2), (.ref a1)])) rfl rfl (hb hby d4_4)
  rw [len_of Sa290 Na290] at al290
  refine own_of (U' := (s₁.setTop (mkF m 5 #[.val (.ref a1), .val (.ref a2)] [(.int z), (.int 0), (.ref a2), (.ref a1)]))) (al290) ?_
  refine own_aconstNull X0 hx hby d4_5 ?_
  obtain ⟨_, _, ⟨T291, L291, k291, n291⟩, -, X291, ⟨Lc291, hQ291, l291, y291, z291⟩, st291⟩ := X0.specialBack hx (y := mN_50) rfl hown (oV hZ hw 17 rfl) (oV hZ hw 18 rfl) (oV hZ hw 20 rfl) (by decide) (backOf (W := 0) (rmsv l Z a0 hw [] a1 a2 kc z cs g1 h0 n0 Z0 E1 Fc Fv Vc g_a1 hz h1z hl hcs SC hg1 SA SHI SLO) hZ (own_w hw 20 rfl) (own_w hw 12 rfl) (by decide) (by decide)) (g := (mkF m 6 #[.val (.ref a1), .val (.ref a2)] [.null, (.int z), (.int 0), (.ref a2), (.ref a1)])) rfl (by rw [hml]; rfl) (Steps.refl _) (a := a1) (argsL := [(.ref a2), (.int 0), (.int z), .null]) (rest := []) (lenOf pd_32 rfl) rfl (by exact oZ rfl) (hb hby d4_6) (fun _ _ => ⟨rfl, e0, (by decide : 0 + 2 ≤ _), (by decide : 0 + 15 ≤ _)⟩)
  dsimp only [Pt.U, Pt.locs, Pt.cells, Pt.slots] at X291 l291 y291 z291 st291 hQ291
  rw [l291, y291, z291] at X291
  obtain ⟨rfl, Nq291, Kp291, u291, ku291, cd291, zu291, gq291, Cq291, Fq291, Rq291⟩ := hQ291
  have g_u291 : n0 ≤ u291 := nT Z0 gq291
  have sz_u291 : h0.size ≤ u291 := nT KK.1 gq291
  have ne_a1_u291 : a1 ≠ u291 := nL E1.lt gq291
  have ne_a2_u291 : a2 ≠ u291 := nL Vc.lt gq291
  have N291 := Fr.app N0 Nq291
  have nst_a1 := E1.nostat
  replace Z0 := nT Z0 Kp291.1
  replace E1 := E1.keep Kp291
  replace SC := own_staKeep SC Kp291 (nsS nst_a1 ns0)
  replace SA := own_staKeep SA Kp291 (nsS nst_a1 ns0)
  replace SHI := own_staKeep SHI Kp291 (nsS nst_a1 ns0)
  replace SLO := own_staKeep SLO Kp291 (nsS nst_a1 ns0)
  replace KK := KK.trans Kp291 (allS (Or.inl (List.mem_of_getElem? (i := 0) rfl)) all0)
  refine own_of (U' := (T291.setTop (mkF m 9 #[.val (.ref a1), .val (.ref a2)] []))) (fun _ k => st291.trans k) ?_
  exact own_ret0 X291 hx hlk hrt (hb hby d4_9) (by decide) (by decide) (⟨rfl, N291, KK, u291, ku291, cd291, zu291, sz_u291, Cq291, Fq291, Rq291⟩)
abbrev mN_52 : MethodName := ⟨"java/lang/StringLatin1", "toBytes", "(C)[B"⟩
theorem d12_0 : decode c_52 0 = .ok (.iconst 1, 1) := by decide +kernel
theorem d12_1 : decode c_52 1 = .ok (.newarray .byte, 2) := by decide +kernel
theorem d12_3 : decode c_52 3 = .ok (.dup, 1) := by decide +kernel
theorem d12_4 : decode c_52 4 = .ok (.iconst 0, 1) := by decide +kernel
theorem d12_5 : decode c_52 5 = .ok (.iload_n 0, 1) := by decide +kernel
theorem d12_6 : decode c_52 6 = .ok (.i2b, 1) := by decide +kernel
theorem d12_7 : decode c_52 7 = .ok (.bastore, 1) := by decide +kernel
theorem d12_8 : decode c_52 8 = .ok (.areturn, 1) := by decide +kernel
theorem ef_lb (m : MethodId) (x0 : Int32) : entryFrame m #[(.int x0)] 1 = mkF m 0 #[.val (.int x0)] [] := by first | (simp [entryFrame, mkF, argsToLocals, Value.category]; done) | rfl
def Qb1 (Z : State) (z : Int32) (bs : List Int32) (h0 : Heap) (n0 : Nat) (v : Option Value) (h : Heap) (L : List Loc) : Prop := ∃ (b : Addr) (kb : ClassId), v = some (.ref b) ∧ Fr n0 L ∧ Keep h0 h [] ∧ h0.size ≤ b ∧ Arv Z h b kb .byte z (List.map Value.int bs) (.int 0)
theorem rmlb (l : Launch) (Z : State) (a0 : Array Value) (hw : ∀ d ∈ tables_1, d.before a0 Z = true) (ws : List Jvm.Cond) (p1 : Int32) (h0 : Heap) (n0 : Nat) (Z0 : n0 ≤ h0.size)  : own_M l mN_52 jdk_43_method_46_code 1 (some (.array .byte)) ws ({ frames := 0, cells := 1, slots := 1, locals := 0 } : Room) Z h0 #[(.int p1)] (Qb1 Z (1 : Int32) (List.map own_b8 [p1]) h0 n0) := by
  refine own_go #[.val (.int p1)] (plainFor_of_name pn_6) (fun m => ef_lb m p1) ?_
  intro p e s m below meth c s₁ hx hby hml hown hnm hlk X0 e0 hZ hrt
  have N0 := Fr.nil n0
  have KK := Keep.refl h0 []
  refine own_iconst X0 hx hby 1 d12_0 rfl ?_
  obtain ⟨T292, h292, k292, X292, e292, E292, A292, st292⟩ := newP X0 hx hZ (own_w hw 29 rfl) e0 (g := (mkF m 1 #[.val (.int p1)] [(.int 1)])) rfl (hb hby d12_1) rfl (by decide) (cap := 1) (by decide) (by decide) (by decide) (by decide)
  obtain ⟨b292, gz292⟩ : ∃ z, z = h0.size := ⟨_, rfl⟩
  rw [← gz292] at A292 st292
  have g_b292 : n0 ≤ b292 := nT Z0 (nE gz292.symm)
  have sz_b292 : h0.size ≤ b292 := nT KK.1 (nE gz292.symm)
  replace Z0 := nT Z0 E292.1
  replace KK := KK.ext E292
  have V292 : Arv Z h292 b292 k292 .byte (1 : Int32) [(.int 0)] (.int 0) := (Arv.new A292 (by decide)).pad (pad_rep [] (.int 0) 1)
  refine own_of (U' := (T292.setTop (mkF m 3 #[.val (.int p1)] [(.ref b292)]))) (st292) ?_
  refine own_dup X292 hx hby d12_3 rfl ?_
  refine own_iconst X292 hx hby 0 d12_4 rfl ?_
  refine own_iloadN X292 hx hby d12_5 rfl ?_
  refine own_i2b X292 hx hby d12_6 ?_
  obtain ⟨cl293, Ar293, qa293, Sa293, Na293, Ha293, Ga293⟩ := V292
  have hin293 : ¬ ((0 : Int32) < 0 ∨ cl293.slots.size ≤ ((0 : Int32)).toNatClampNeg) := inb_of Sa293 ⟨by decide, by decide⟩
  obtain ⟨T293, h293, X293, e293, W293, st293⟩ := stB X292 hx hZ e292 Ar293 (j := (0 : Int32)) hin293 (g := (mkF m 7 #[.val (.int p1)] [(.int (p1.toInt8.toInt32)), (.int 0), (.ref b292), (.ref b292)])) rfl rfl (hb hby d12_7)
  replace V292 : Arv Z h293 b292 k292 .byte (1 : Int32) [(.int (nar .byte (p1.toInt8.toInt32)))] (.int 0) := Arv.set Ar293 qa293 Sa293 Na293 Ha293 Ga293 (fits_nar_byte _) W293 0 rfl (Nat.le_of_ble_eq_true rfl)
  replace Z0 := nT Z0 (Keep.of_wr W293).1
  replace KK := KK.wr W293 (Or.inr sz_b292)
  have N293 := Fr.snoc X293 N0 g_b292
  refine own_of (U' := (T293.setTop (mkF m 8 #[.val (.int p1)] [(.ref b292)]))) (st293) ?_
  exact own_retA X293 hx hlk hrt rfl rfl (hb hby d12_8) (by decide) (by decide) (by rw [e293]; exact ⟨b292, k292, rfl, N293, KK, sz_b292, V292⟩)
abbrev mN_53 : MethodName := ⟨"java/lang/StringUTF16", "toBytes", "(C)[B"⟩
theorem d75_0 : decode c_53 0 = .ok (.iconst 2, 1) := by decide +kernel
theorem d75_1 : decode c_53 1 = .ok (.newarray .byte, 2) := by decide +kernel
theorem d75_3 : decode c_53 3 = .ok (.astore_n 1, 1) := by decide +kernel
theorem d75_4 : decode c_53 4 = .ok (.aload_n 1, 1) := by decide +kernel
theorem d75_5 : decode c_53 5 = .ok (.iconst 0, 1) := by decide +kernel
theorem d75_6 : decode c_53 6 = .ok (.iload_n 0, 1) := by decide +kernel
theorem d75_7 : decode c_53 7 = .ok (.invokestatic 111, 3) := by decide +kernel
theorem d75_10 : decode c_53 10 = .ok (.aload_n 1, 1) := by decide +kernel
theorem d75_11 : decode c_53 11 = .ok (.areturn, 1) := by decide +kernel
theorem ef_ub1 (m : MethodId) (x0 : Int32) : entryFrame m #[(.int x0)] 2 = mkF m 0 #[.val (.int x0), .unset] [] := by first | (simp [entryFrame, mkF, argsToLocals, Value.category]; done) | rfl
theorem rmub1 (l : Launch) (Z : State) (a0 : Array Value) (hw : ∀ d ∈ tables_1, d.before a0 Z = true) (ws : List Jvm.Cond) (p1 : Int32) (h0 : Heap) (n0 : Nat) (Z0 : n0 ≤ h0.size) (SA : Sta Z h0 "java/lang/StringUTF16" "$assertionsDisabled" "Z" (.int 1)) (SHI : Sta Z h0 "java/lang/StringUTF16" "HI_BYTE_SHIFT" "I" (.int 0)) (SLO : Sta Z h0 "java/lang/StringUTF16" "LO_BYTE_SHIFT" "I" (.int 8)) : own_M l mN_53 jdk_52_method_24_code 2 (some (.array .byte)) ws ({ frames := 1, cells := 1, slots := 2, locals := 14 } : Room) Z h0 #[(.int p1)] (Qb1 Z (2 : Int32) (own_u16 ([] ++ [p1])) h0 n0) := by
  refine own_go #[.val (.int p1), .unset] (plainFor_of_name pn_5) (fun m => ef_ub1 m p1) ?_
  intro p e s m below meth c s₁ hx hby hml hown hnm hlk X0 e0 hZ hrt
  have N0 := Fr.nil n0
  have KK := Keep.refl h0 []
  refine own_iconst X0 hx hby 2 d75_0 rfl ?_
  obtain ⟨T294, h294, k294, X294, e294, E294, A294, st294⟩ := newP X0 hx hZ (own_w hw 29 rfl) e0 (g := (mkF m 1 #[.val (.int p1), .unset] [(.int 2)])) rfl (hb hby d75_1) rfl (by decide) (cap := 2) (by decide) (by decide) (by decide) (by decide)
  obtain ⟨b294, gz294⟩ : ∃ z, z = h0.size := ⟨_, rfl⟩
  rw [← gz294] at A294 st294
  have g_b294 : n0 ≤ b294 := nT Z0 (nE gz294.symm)
  have sz_b294 : h0.size ≤ b294 := nT KK.1 (nE gz294.symm)
  replace Z0 := nT Z0 E294.1
  replace SA := SA.ext E294
  replace SHI := SHI.ext E294
  replace SLO := SLO.ext E294
  replace KK := KK.ext E294
  have V294 : Arv Z h294 b294 k294 .byte (2 : Int32) (List.map Value.int ([] : List Int32)) (.int 0) := Arv.new A294 (by decide)
  refine own_of (U' := (T294.setTop (mkF m 3 #[.val (.int p1), .unset] [(.ref b294)]))) (st294) ?_
  refine own_astoreN X294 hx hby d75_3 rfl (l' := #[.val (.int p1), .val (.ref b294)]) rfl ?_
  refine own_aloadN X294 hx hby d75_4 rfl rfl ?_
  refine own_iconst X294 hx hby 0 d75_5 rfl ?_
  refine own_iloadN X294 hx hby d75_6 rfl ?_
  obtain ⟨_, _, ⟨T295, L295, k295, n295⟩, -, X295, ⟨Lc295, hQ295, l295, y295, z295⟩, st295⟩ := Jvm.LawKit.callS X294 hx (y := mN_25) hown (oV hZ hw 249 rfl) (oV hZ hw 250 rfl) (oV hZ hw 27 rfl) (oV hZ hw 251 rfl) (by decide) (backOf (W := 0) (rmpc l Z a0 hw [] b294 (0 : Int32) p1 k294 (2 : Int32) ([] : List Int32) h294 n0 Z0 V294 own_i0 (by decide) (by decide) g_b294 SA SHI SLO) hZ (own_w hw 251 rfl) (own_w hw 27 rfl) (by decide) (by decide)) (g := (mkF m 7 #[.val (.int p1), .val (.ref b294)] [(.int p1), (.int 0), (.ref b294)])) rfl (by rw [hml]; rfl) (argsL := [(.ref b294), (.int 0), (.int p1)]) (rest := []) (lenOf pd_10 rfl) rfl (by exact oZ rfl) (hb hby d75_7) (fun _ _ => ⟨rfl, e294, (by decide : 1 + 0 ≤ _), (by decide : 2 + 0 ≤ _)⟩)
  dsimp only [Pt.U, Pt.locs, Pt.cells, Pt.slots] at X295 l295 y295 z295 st295 hQ295
  rw [l295, y295, z295] at X295
  obtain ⟨rfl, Nq295, Kp295, Vq295⟩ := hQ295
  have N295 := Fr.app N0 Nq295
  have nst_b294 := V294.nostat
  replace Z0 := nT Z0 Kp295.1
  replace SA := own_staKeep SA Kp295 (nsS nst_b294 ns0)
  replace SHI := own_staKeep SHI Kp295 (nsS nst_b294 ns0)
  replace SLO := own_staKeep SLO Kp295 (nsS nst_b294 ns0)
  replace KK := KK.trans Kp295 (allS (Or.inr sz_b294) all0)
  refine own_of (U' := (T295.setTop (mkF m 10 #[.val (.int p1), .val (.ref b294)] []))) (st295) ?_
  refine own_aloadN X295 hx hby d75_10 rfl rfl ?_
  exact own_retA X295 hx hlk hrt rfl rfl (hb hby d75_11) (by decide) (by decide) (⟨b294, k294, rfl, N295, KK, sz_b294, Vq295⟩)
abbrev mN_54 : MethodName := ⟨"java/lang/String", "valueOf", "(C)Ljava/lang/String;"⟩
theorem pd_33 : parseMethodDescriptor "(C)[B" = some ⟨[.char], some (.array .byte)⟩ := by decide +kernel
theorem pd_34 : parseMethodDescriptor "([BB)V" = some ⟨[(.array .byte), .byte], none⟩ := by decide +kernel
theorem d10_0 : decode c_54 0 = .ok (.getstatic 38, 3) := by decide +kernel
theorem d10_3 : decode c_54 3 = .ok (.ifCond .eq 23, 3) := by decide +kernel
theorem d10_6 : decode c_54 6 = .ok (.iload_n 0, 1) := by decide +kernel
theorem d10_7 : decode c_54 7 = .ok (.invokestatic 1015, 3) := by decide +kernel
theorem d10_10 : decode c_54 10 = .ok (.ifCond .eq 16, 3) := by decide +kernel
theorem d10_13 : decode c_54 13 = .ok (.new 10, 3) := by decide +kernel
theorem d10_16 : decode c_54 16 = .ok (.dup, 1) := by decide +kernel
theorem d10_17 : decode c_54 17 = .ok (.iload_n 0, 1) := by decide +kernel
theorem d10_18 : decode c_54 18 = .ok (.invokestatic 1018, 3) := by decide +kernel
theorem d10_21 : decode c_54 21 = .ok (.iconst 0, 1) := by decide +kernel
theorem d10_22 : decode c_54 22 = .ok (.invokespecial 209, 3) := by decide +kernel
theorem d10_25 : decode c_54 25 = .ok (.areturn, 1) := by decide +kernel
theorem ef_vo0 (m : MethodId) (x0 : Int32) : entryFrame m #[(.int x0)] 1 = mkF m 0 #[.val (.int x0)] [] := by first | (simp [entryFrame, mkF, argsToLocals, Value.category]; done) | rfl
theorem rmvo0 (l : Launch) (Z : State) (a0 : Array Value) (hw : ∀ d ∈ tables_1, d.before a0 Z = true) (ws : List Jvm.Cond) (p1 g1 : Int32) (h0 : Heap) (n0 : Nat) (Z0 : n0 ≤ h0.size) (SC : Sta Z h0 "java/lang/String" "COMPACT_STRINGS" "Z" (.int g1)) (hg1 : ¬ (g1 = (0 : Int32))) (SA : Sta Z h0 "java/lang/StringUTF16" "$assertionsDisabled" "Z" (.int 1)) (SHI : Sta Z h0 "java/lang/StringUTF16" "HI_BYTE_SHIFT" "I" (.int 0)) (SLO : Sta Z h0 "java/lang/StringUTF16" "LO_BYTE_SHIFT" "I" (.int 8)) (h1 : ¬ ((255 : Int32) < p1)) : own_M l mN_54 jdk_42_method_139_code 1 (some (.object "java/lang/String")) ws ({ frames := 2, cells := 2, slots := 6, locals := 29 } : Room) Z h0 #[(.int p1)] (Qs2 Z [p1] h0 n0) := by
  refine own_go #[.val (.int p1)] (plainFor_of_name pn_0) (fun m => ef_vo0 m p1) ?_
  intro p e s m below meth c s₁ hx hby hml hown hnm hlk X0 e0 hZ hrt
  have N0 := Fr.nil n0
  have KK := Keep.refl h0 []
  obtain ⟨T296, X296, e296, st296⟩ := getS2 X0 hx hZ hown (host := "") (Or.inl (own_w hw 24 rfl)) Via.refl e0 SC (g := (mkF m 0 #[.val (.int p1)] [])) rfl (hb hby d10_0)
  refine own_of (U' := (T296.setTop (mkF m 3 #[.val (.int p1)] [(.int g1)]))) (st296) ?_
  have hc3_297 : ¬ (g1 = (0 : Int32)) := hg1
  refine own_ifNo X296 hx hby d10_3 ((if0 _ _).trans (feq hc3_297).1) ?_
  refine own_iloadN X296 hx hby d10_6 rfl ?_
  obtain ⟨_, _, ⟨T298, L298, k298, n298⟩, -, X298, ⟨Lc298, hQ298, l298, y298, z298⟩, st298⟩ := Jvm.LawKit.callS X296 hx (y := mN_21) hown (oV hZ hw 43 rfl) (oV hZ hw 44 rfl) (oV hZ hw 45 rfl) (oV hZ hw 46 rfl) (by decide) (backOf (W := 0) (rmce0 l Z a0 hw [] p1 h0 n0 Z0 h1) hZ (own_w hw 46 rfl) (own_w hw 45 rfl) (by decide) (by decide)) (g := (mkF m 7 #[.val (.int p1)] [(.int p1)])) rfl (by rw [hml]; rfl) (argsL := [(.int p1)]) (rest := []) (lenOf pd_21 rfl) rfl (by exact oZ rfl) (hb hby d10_7) (fun _ _ => ⟨rfl, e296, (by decide : 0 + 0 ≤ _), (by decide : 0 + 0 ≤ _)⟩)
  dsimp only [Pt.U, Pt.locs, Pt.cells, Pt.slots] at X298 l298 y298 z298 st298 hQ298
  rw [l298, y298, z298] at X298
  obtain ⟨rfl, Nq298, e298⟩ := hQ298
  have N298 := Fr.app N0 Nq298
  refine own_of (U' := (T298.setTop (mkF m 10 #[.val (.int p1)] [(.int 1)]))) (st298) ?_
  have hc10_299 : ¬ ((1 : Int32) = (0 : Int32)) := by decide
  refine own_ifNo X298 hx hby d10_10 ((if0 _ _).trans (feq hc10_299).1) ?_
  obtain ⟨T300, h300, X300, e300, E300, A300, D300, -, st300⟩ := newO X298 hx hZ hown (own_w hw 47 rfl) (own_w hw 11 rfl) (own_w hw 12 rfl) e298 (g := (mkF m 13 #[.val (.int p1)] [])) rfl (hb hby d10_13) (by decide) (by decide)
  obtain ⟨b300, gz300⟩ : ∃ z, z = h0.size := ⟨_, rfl⟩
  rw [← gz300] at A300 D300 st300
  have g_b300 : n0 ≤ b300 := nT Z0 (nE gz300.symm)
  have sz_b300 : h0.size ≤ b300 := nT KK.1 (nE gz300.symm)
  replace Z0 := nT Z0 E300.1
  replace SC := SC.ext E300
  replace SA := SA.ext E300
  replace SHI := SHI.ext E300
  replace SLO := SLO.ext E300
  replace KK := KK.ext E300
  have F300_coder : Fld Z h300 b300 "java/lang/String" "coder" "B" (.int 0) := D300 (Or.inr (own_w hw 37 rfl)) (ty := .byte) (by decide)
  have F300_value : Fld Z h300 b300 "java/lang/String" "value" "[B" .null := D300 (Or.inr (own_w hw 39 rfl)) (ty := (.array .byte)) (by decide)
  refine own_of (U' := (T300.setTop (mkF m 16 #[.val (.int p1)] [(.ref b300)]))) (st300) ?_
  refine own_dup X300 hx hby d10_16 rfl ?_
  refine own_iloadN X300 hx hby d10_17 rfl ?_
  obtain ⟨_, _, ⟨T301, L301, k301, n301⟩, -, X301, ⟨Lc301, hQ301, l301, y301, z301⟩, st301⟩ := Jvm.LawKit.callS X300 hx (y := mN_52) hown (oV hZ hw 48 rfl) (oV hZ hw 49 rfl) (oV hZ hw 45 rfl) (oV hZ hw 50 rfl) (by decide) (backOf (W := 2) (rmlb l Z a0 hw [] p1 h300 n0 Z0 ) hZ (own_w hw 50 rfl) (own_w hw 45 rfl) (by decide) (by decide)) (g := (mkF m 18 #[.val (.int p1)] [(.int p1), (.ref b300), (.ref b300)])) rfl (by rw [hml]; rfl) (argsL := [(.int p1)]) (rest := [(.ref b300), (.ref b300)]) (lenOf pd_33 rfl) rfl (by exact oZ rfl) (hb hby d10_18) (fun _ _ => ⟨rfl, e300, (by decide : 1 + 1 ≤ _), (by decide : 4 + 1 ≤ _)⟩)
  dsimp only [Pt.U, Pt.locs, Pt.cells, Pt.slots] at X301 l301 y301 z301 st301 hQ301
  rw [l301, y301, z301] at X301
  obtain ⟨u301, ku301, rfl, Nq301, Kp301, gq301, Vq301⟩ := hQ301
  have g_u301 : n0 ≤ u301 := nT Z0 gq301
  have sz_u301 : h0.size ≤ u301 := nT KK.1 gq301
  have ne_b300_u301 : b300 ≠ u301 := nL A300.lt gq301
  have N301 := Fr.app N298 Nq301
  replace Z0 := nT Z0 Kp301.1
  replace SC := own_staKeep SC Kp301 ns0
  replace SA := own_staKeep SA Kp301 ns0
  replace SHI := own_staKeep SHI Kp301 ns0
  replace SLO := own_staKeep SLO Kp301 ns0
  replace KK := KK.trans Kp301 all0
  replace A300 := A300.keep Kp301
  replace F300_coder := F300_coder.keep Kp301 nin0
  replace F300_value := F300_value.keep Kp301 nin0
  refine own_of (U' := (T301.setTop (mkF m 21 #[.val (.int p1)] [(.ref u301), (.ref b300), (.ref b300)]))) (st301) ?_
  refine own_iconst X301 hx hby 0 d10_21 rfl ?_
  obtain ⟨_, _, ⟨T302, L302, k302, n302⟩, -, X302, ⟨Lc302, hQ302, l302, y302, z302⟩, st302⟩ := X301.specialBack hx (y := mN_42) rfl hown (oV hZ hw 51 rfl) (oV hZ hw 52 rfl) (oV hZ hw 53 rfl) (by decide) (backOf (W := 1) (rmbb0 l Z a0 hw [] b300 u301 T301.heap n0 Z0 A300 F300_coder F300_value g_b300) hZ (own_w hw 53 rfl) (own_w hw 12 rfl) (by decide) (by decide)) (g := (mkF m 22 #[.val (.int p1)] [(.int 0), (.ref u301), (.ref b300), (.ref b300)])) rfl (by rw [hml]; rfl) (Steps.refl _) (a := b300) (argsL := [(.ref u301), (.int 0)]) (rest := [(.ref b300)]) (lenOf pd_34 rfl) rfl (by exact oZ rfl) (hb hby d10_22) (fun _ _ => ⟨rfl, rfl, (by decide : 2 + 0 ≤ _), (by decide : 5 + 0 ≤ _)⟩)
  dsimp only [Pt.U, Pt.locs, Pt.cells, Pt.slots] at X302 l302 y302 z302 st302 hQ302
  rw [l302, y302, z302] at X302
  obtain ⟨rfl, Nq302, Kp302, Cq302, Fq302⟩ := hQ302
  have N302 := Fr.app N301 Nq302
  have nst_b300 := A300.nostat
  replace Z0 := nT Z0 Kp302.1
  replace SC := own_staKeep SC Kp302 (nsS nst_b300 ns0)
  replace SA := own_staKeep SA Kp302 (nsS nst_b300 ns0)
  replace SHI := own_staKeep SHI Kp302 (nsS nst_b300 ns0)
  replace SLO := own_staKeep SLO Kp302 (nsS nst_b300 ns0)
  replace KK := KK.trans Kp302 (allS (Or.inr sz_b300) all0)
  replace A300 := A300.keep Kp302
  replace Vq301 := Vq301.keep Kp302 (ninS (Ne.symm ne_b300_u301) nin0)
  refine own_of (U' := (T302.setTop (mkF m 25 #[.val (.int p1)] [(.ref b300)]))) (fun _ k => st302.trans k) ?_
  exact own_retA X302 hx hlk hrt rfl rfl (hb hby d10_25) (by decide) (by decide) (⟨b300, rfl, N302, KK, sz_b300, u301, ku301, (0 : Int32), (1 : Int32), A300.lt, Vq301.lt, A300, Cq302, Fq302, Or.inl ⟨rfl, own_lat1 h1, rfl, Vq301⟩⟩)
theorem d10_26 : decode c_54 26 = .ok (.new 10, 3) := by decide +kernel
theorem d10_29 : decode c_54 29 = .ok (.dup, 1) := by decide +kernel
theorem d10_30 : decode c_54 30 = .ok (.iload_n 0, 1) := by decide +kernel
theorem d10_31 : decode c_54 31 = .ok (.invokestatic 1021, 3) := by decide +kernel
theorem d10_34 : decode c_54 34 = .ok (.iconst 1, 1) := by decide +kernel
theorem d10_35 : decode c_54 35 = .ok (.invokespecial 209, 3) := by decide +kernel
theorem d10_38 : decode c_54 38 = .ok (.areturn, 1) := by decide +kernel
theorem ef_vo1 (m : MethodId) (x0 : Int32) : entryFrame m #[(.int x0)] 1 = mkF m 0 #[.val (.int x0)] [] := by first | (simp [entryFrame, mkF, argsToLocals, Value.category]; done) | rfl
theorem rmvo1 (l : Launch) (Z : State) (a0 : Array Value) (hw : ∀ d ∈ tables_1, d.before a0 Z = true) (ws : List Jvm.Cond) (p1 g1 : Int32) (h0 : Heap) (n0 : Nat) (Z0 : n0 ≤ h0.size) (SC : Sta Z h0 "java/lang/String" "COMPACT_STRINGS" "Z" (.int g1)) (hg1 : ¬ (g1 = (0 : Int32))) (SA : Sta Z h0 "java/lang/StringUTF16" "$assertionsDisabled" "Z" (.int 1)) (SHI : Sta Z h0 "java/lang/StringUTF16" "HI_BYTE_SHIFT" "I" (.int 0)) (SLO : Sta Z h0 "java/lang/StringUTF16" "LO_BYTE_SHIFT" "I" (.int 8)) (h1 : (255 : Int32) < p1) : own_M l mN_54 jdk_42_method_139_code 1 (some (.object "java/lang/String")) ws ({ frames := 2, cells := 2, slots := 6, locals := 29 } : Room) Z h0 #[(.int p1)] (Qs2 Z [p1] h0 n0) := by
  refine own_go #[.val (.int p1)] (plainFor_of_name pn_0) (fun m => ef_vo1 m p1) ?_
  intro p e s m below meth c s₁ hx hby hml hown hnm hlk X0 e0 hZ hrt
  have N0 := Fr.nil n0
  have KK := Keep.refl h0 []
  obtain ⟨T303, X303, e303, st303⟩ := getS2 X0 hx hZ hown (host := "") (Or.inl (own_w hw 24 rfl)) Via.refl e0 SC (g := (mkF m 0 #[.val (.int p1)] [])) rfl (hb hby d10_0)
  refine own_of (U' := (T303.setTop (mkF m 3 #[.val (.int p1)] [(.int g1)]))) (st303) ?_
  have hc3_304 : ¬ (g1 = (0 : Int32)) := hg1
  refine own_ifNo X303 hx hby d10_3 ((if0 _ _).trans (feq hc3_304).1) ?_
  refine own_iloadN X303 hx hby d10_6 rfl ?_
  obtain ⟨_, _, ⟨T305, L305, k305, n305⟩, -, X305, ⟨Lc305, hQ305, l305, y305, z305⟩, st305⟩ := Jvm.LawKit.callS X303 hx (y := mN_21) hown (oV hZ hw 43 rfl) (oV hZ hw 44 rfl) (oV hZ hw 45 rfl) (oV hZ hw 46 rfl) (by decide) (backOf (W := 0) (rmce1 l Z a0 hw [] p1 h0 n0 Z0 h1) hZ (own_w hw 46 rfl) (own_w hw 45 rfl) (by decide) (by decide)) (g := (mkF m 7 #[.val (.int p1)] [(.int p1)])) rfl (by rw [hml]; rfl) (argsL := [(.int p1)]) (rest := []) (lenOf pd_21 rfl) rfl (by exact oZ rfl) (hb hby d10_7) (fun _ _ => ⟨rfl, e303, (by decide : 0 + 0 ≤ _), (by decide : 0 + 0 ≤ _)⟩)
  dsimp only [Pt.U, Pt.locs, Pt.cells, Pt.slots] at X305 l305 y305 z305 st305 hQ305
  rw [l305, y305, z305] at X305
  obtain ⟨rfl, Nq305, e305⟩ := hQ305
  have N305 := Fr.app N0 Nq305
  refine own_of (U' := (T305.setTop (mkF m 10 #[.val (.int p1)] [(.int 0)]))) (st305) ?_
  have hc10_306 : (0 : Int32) = (0 : Int32) := by decide
  refine own_ifYes X305 hx hby 10 26 d10_10 ((if0 _ _).trans (teq hc10_306).1) (by decide) (by decide) ?_
  obtain ⟨T307, h307, X307, e307, E307, A307, D307, -, st307⟩ := newO X305 hx hZ hown (own_w hw 47 rfl) (own_w hw 11 rfl) (own_w hw 12 rfl) e305 (g := (mkF m 26 #[.val (.int p1)] [])) rfl (hb hby d10_26) (by decide) (by decide)
  obtain ⟨b307, gz307⟩ : ∃ z, z = h0.size := ⟨_, rfl⟩
  rw [← gz307] at A307 D307 st307
  have g_b307 : n0 ≤ b307 := nT Z0 (nE gz307.symm)
  have sz_b307 : h0.size ≤ b307 := nT KK.1 (nE gz307.symm)
  replace Z0 := nT Z0 E307.1
  replace SC := SC.ext E307
  replace SA := SA.ext E307
  replace SHI := SHI.ext E307
  replace SLO := SLO.ext E307
  replace KK := KK.ext E307
  have F307_coder : Fld Z h307 b307 "java/lang/String" "coder" "B" (.int 0) := D307 (Or.inr (own_w hw 37 rfl)) (ty := .byte) (by decide)
  have F307_value : Fld Z h307 b307 "java/lang/String" "value" "[B" .null := D307 (Or.inr (own_w hw 39 rfl)) (ty := (.array .byte)) (by decide)
  refine own_of (U' := (T307.setTop (mkF m 29 #[.val (.int p1)] [(.ref b307)]))) (st307) ?_
  refine own_dup X307 hx hby d10_29 rfl ?_
  refine own_iloadN X307 hx hby d10_30 rfl ?_
  obtain ⟨_, _, ⟨T308, L308, k308, n308⟩, -, X308, ⟨Lc308, hQ308, l308, y308, z308⟩, st308⟩ := Jvm.LawKit.callS X307 hx (y := mN_53) hown (oV hZ hw 327 rfl) (oV hZ hw 328 rfl) (oV hZ hw 27 rfl) (oV hZ hw 329 rfl) (by decide) (backOf (W := 2) (rmub1 l Z a0 hw [] p1 h307 n0 Z0 SA SHI SLO) hZ (own_w hw 329 rfl) (own_w hw 27 rfl) (by decide) (by decide)) (g := (mkF m 31 #[.val (.int p1)] [(.int p1), (.ref b307), (.ref b307)])) rfl (by rw [hml]; rfl) (argsL := [(.int p1)]) (rest := [(.ref b307), (.ref b307)]) (lenOf pd_33 rfl) rfl (by exact oZ rfl) (hb hby d10_31) (fun _ _ => ⟨rfl, e307, (by decide : 1 + 1 ≤ _), (by decide : 4 + 2 ≤ _)⟩)
  dsimp only [Pt.U, Pt.locs, Pt.cells, Pt.slots] at X308 l308 y308 z308 st308 hQ308
  rw [l308, y308, z308] at X308
  obtain ⟨u308, ku308, rfl, Nq308, Kp308, gq308, Vq308⟩ := hQ308
  have g_u308 : n0 ≤ u308 := nT Z0 gq308
  have sz_u308 : h0.size ≤ u308 := nT KK.1 gq308
  have ne_b307_u308 : b307 ≠ u308 := nL A307.lt gq308
  have N308 := Fr.app N305 Nq308
  replace Z0 := nT Z0 Kp308.1
  replace SC := own_staKeep SC Kp308 ns0
  replace SA := own_staKeep SA Kp308 ns0
  replace SHI := own_staKeep SHI Kp308 ns0
  replace SLO := own_staKeep SLO Kp308 ns0
  replace KK := KK.trans Kp308 all0
  replace A307 := A307.keep Kp308
  replace F307_coder := F307_coder.keep Kp308 nin0
  replace F307_value := F307_value.keep Kp308 nin0
  refine own_of (U' := (T308.setTop (mkF m 34 #[.val (.int p1)] [(.ref u308), (.ref b307), (.ref b307)]))) (st308) ?_
  refine own_iconst X308 hx hby 1 d10_34 rfl ?_
  obtain ⟨_, _, ⟨T309, L309, k309, n309⟩, -, X309, ⟨Lc309, hQ309, l309, y309, z309⟩, st309⟩ := X308.specialBack hx (y := mN_42) rfl hown (oV hZ hw 51 rfl) (oV hZ hw 52 rfl) (oV hZ hw 53 rfl) (by decide) (backOf (W := 1) (rmbb1 l Z a0 hw [] b307 u308 T308.heap n0 Z0 A307 F307_coder F307_value g_b307) hZ (own_w hw 53 rfl) (own_w hw 12 rfl) (by decide) (by decide)) (g := (mkF m 35 #[.val (.int p1)] [(.int 1), (.ref u308), (.ref b307), (.ref b307)])) rfl (by rw [hml]; rfl) (Steps.refl _) (a := b307) (argsL := [(.ref u308), (.int 1)]) (rest := [(.ref b307)]) (lenOf pd_34 rfl) rfl (by exact oZ rfl) (hb hby d10_35) (fun _ _ => ⟨rfl, rfl, (by decide : 2 + 0 ≤ _), (by decide : 6 + 0 ≤ _)⟩)
  dsimp only [Pt.U, Pt.locs, Pt.cells, Pt.slots] at X309 l309 y309 z309 st309 hQ309
  rw [l309, y309, z309] at X309
  obtain ⟨rfl, Nq309, Kp309, Cq309, Fq309⟩ := hQ309
  have N309 := Fr.app N308 Nq309
  have nst_b307 := A307.nostat
  replace Z0 := nT Z0 Kp309.1
  replace SC := own_staKeep SC Kp309 (nsS nst_b307 ns0)
  replace SA := own_staKeep SA Kp309 (nsS nst_b307 ns0)
  replace SHI := own_staKeep SHI Kp309 (nsS nst_b307 ns0)
  replace SLO := own_staKeep SLO Kp309 (nsS nst_b307 ns0)
  replace KK := KK.trans Kp309 (allS (Or.inr sz_b307) all0)
  replace A307 := A307.keep Kp309
  replace Vq308 := Vq308.keep Kp309 (ninS (Ne.symm ne_b307_u308) nin0)
  refine own_of (U' := (T309.setTop (mkF m 38 #[.val (.int p1)] [(.ref b307)]))) (fun _ k => st309.trans k) ?_
  exact own_retA X309 hx hlk hrt rfl rfl (hb hby d10_38) (by decide) (by decide) (⟨b307, rfl, N309, KK, sz_b307, u308, ku308, (1 : Int32), (2 : Int32), A307.lt, Vq308.lt, A307, Cq309, Fq309, Or.inr ⟨rfl, own_nlat1 h1, rfl, Vq308⟩⟩)
theorem rmvo (l : Launch) (Z : State) (a0 : Array Value) (hw : ∀ d ∈ tables_1, d.before a0 Z = true) (ws : List Jvm.Cond) (p1 g1 : Int32) (h0 : Heap) (n0 : Nat) (Z0 : n0 ≤ h0.size) (SC : Sta Z h0 "java/lang/String" "COMPACT_STRINGS" "Z" (.int g1)) (hg1 : ¬ (g1 = (0 : Int32))) (SA : Sta Z h0 "java/lang/StringUTF16" "$assertionsDisabled" "Z" (.int 1)) (SHI : Sta Z h0 "java/lang/StringUTF16" "HI_BYTE_SHIFT" "I" (.int 0)) (SLO : Sta Z h0 "java/lang/StringUTF16" "LO_BYTE_SHIFT" "I" (.int 8)) : own_M l mN_54 jdk_42_method_139_code 1 (some (.object "java/lang/String")) ws ({ frames := 2, cells := 2, slots := 6, locals := 29 } : Room) Z h0 #[(.int p1)] (Qs2 Z [p1] h0 n0) := by
  by_cases h1 : (255 : Int32) < p1
  · exact rmvo1 l Z a0 hw ws p1 g1 h0 n0 Z0 SC hg1 SA SHI SLO h1
  · exact rmvo0 l Z a0 hw ws p1 g1 h0 n0 Z0 SC hg1 SA SHI SLO h1
abbrev mN_55 : MethodName := ⟨"java/lang/StringLatin1", "indexOfChar", "([BIII)I"⟩
theorem d45_0 : decode c_55 0 = .ok (.iload_n 1, 1) := by decide +kernel
theorem d45_1 : decode c_55 1 = .ok (.i2b, 1) := by decide +kernel
theorem d45_2 : decode c_55 2 = .ok (.istore 4, 2) := by decide +kernel
theorem d45_4 : decode c_55 4 = .ok (.iload_n 2, 1) := by decide +kernel
theorem d45_5 : decode c_55 5 = .ok (.istore 5, 2) := by decide +kernel
theorem d45_7 : decode c_55 7 = .ok (.iload 5, 2) := by decide +kernel
theorem d45_9 : decode c_55 9 = .ok (.iload_n 3, 1) := by decide +kernel
theorem d45_10 : decode c_55 10 = .ok (.if_icmp .ge 21, 3) := by decide +kernel
theorem d45_13 : decode c_55 13 = .ok (.aload_n 0, 1) := by decide +kernel
theorem d45_14 : decode c_55 14 = .ok (.iload 5, 2) := by decide +kernel
theorem d45_16 : decode c_55 16 = .ok (.baload, 1) := by decide +kernel
theorem d45_17 : decode c_55 17 = .ok (.iload 4, 2) := by decide +kernel
theorem d45_19 : decode c_55 19 = .ok (.if_icmp .ne 6, 3) := by decide +kernel
theorem d45_22 : decode c_55 22 = .ok (.iload 5, 2) := by decide +kernel
theorem d45_24 : decode c_55 24 = .ok (.ireturn, 1) := by decide +kernel
theorem d45_25 : decode c_55 25 = .ok (.iinc 5 1, 3) := by decide +kernel
theorem d45_28 : decode c_55 28 = .ok (.goto (-21), 3) := by decide +kernel
theorem ef_ic0 (m : MethodId) (x0 : Addr) (x2 : Int32) (x3 : Int32) : entryFrame m #[(.ref x0), (.int 58), (.int x2), (.int x3)] 6 = mkF m 0 #[.val (.ref x0), .val (.int 58), .val (.int x2), .val (.int x3), .unset, .unset] [] := by first | (simp [entryFrame, mkF, argsToLocals, Value.category]; done) | rfl
def Qix (j : Nat) (h0 : Heap) (n0 : Nat) (v : Option Value) (h : Heap) (L : List Loc) : Prop := ∃ r : Int32, v = some (.int r) ∧ Fr n0 L ∧ h = h0 ∧ r.toInt = j
theorem rmic0 (l : Launch) (Z : State) (a0 : Array Value) (hw : ∀ d ∈ tables_1, d.before a0 Z = true) (ws : List Jvm.Cond) (b : Addr) (p3 p4 : Int32) (kb : ClassId) (z : Int32) (cs : List Int32) (fr j : Nat) (h0 : Heap) (n0 : Nat) (Z0 : n0 ≤ h0.size) (Vb : Arv Z h0 b kb .byte z (List.map Value.int (List.map own_b8 cs)) (.int 0)) (hz : z.toInt = cs.length) (hfr : p3.toInt = fr) (hfj : fr ≤ j) (hjl : j < cs.length) (hj : cs.getD j 0 = 58) (hno : ∀ i, fr ≤ i → i < j → ¬ (cs.getD i 0 = 58)) (hlen : cs.length ≤ 100) (hcs : own_chs cs) (he : p4.toInt = cs.length) (hlat : own_lat cs) : own_M l mN_55 jdk_43_method_23_code 6 (some .int) ws ({ frames := 0, cells := 0, slots := 0, locals := 0 } : Room) Z h0 #[(.ref b), (.int 58), (.int p3), (.int p4)] (Qix j h0 n0) := by
  refine own_go #[.val (.ref b), .val (.int 58), .val (.int p3), .val (.int p4), .unset, .unset] (plainFor_of_name pn_6) (fun m => ef_ic0 m b p3 p4) ?_
  intro p e s m below meth c s₁ hx hby hml hown hnm hlk X0 e0 hZ hrt
  have N0 := Fr.nil n0
  refine own_iloadN X0 hx hby d45_0 rfl ?_
  refine own_i2b X0 hx hby d45_1 ?_
  refine own_eq (U' := (s₁.setTop (mkF m 2 #[.val (.ref b), .val (.int 58), .val (.int p3), .val (.int p4), .unset, .unset] [(.int 58)]))) (by rw [show ((58 : Int32).toInt8.toInt32) = (58 : Int32) by decide]) ?_
  refine own_istore X0 hx hby d45_2 (l' := #[.val (.ref b), .val (.int 58), .val (.int p3), .val (.int p4), .val (.int 58), .unset]) rfl ?_
  refine own_iloadN X0 hx hby d45_4 rfl ?_
  refine own_istore X0 hx hby d45_5 (l' := #[.val (.ref b), .val (.int 58), .val (.int p3), .val (.int p4), .val (.int 58), .val (.int p3)]) rfl ?_
  suffices key310 : ∀ (f : Nat) (T310 : State) (L310 : List Loc) (i : Int32), Stand p l e ({ frames := 0, cells := 0, slots := 0, locals := 0 } : Room) s m #[(.ref b), (.int 58), (.int p3), (.int p4)] below meth c T310 L310 0 0 → T310.heap = h0 → Fr n0 L310 → ((fr : Int) ≤ i.toInt ∧ i.toInt + (f : Int) = (j : Int)) → own_Ends p e below s FrameEnd (Qix j h0 n0) 0 0 (T310.setTop (mkF m 7 #[.val (.ref b), .val (.int 58), .val (.int p3), .val (.int p4), .val (.int 58), .val (.int i)] [])) by
    exact key310 (j - fr) _ _ _ X0 e0 N0 ⟨by omega, by omega⟩
  intro f
  induction f using Nat.strongRecOn with
  | _ f ih310 =>
    intro T310 L310 i X310 e310 N310 iv
    obtain ⟨i0, hif⟩ := iv
    refine own_iload X310 hx hby d45_7 rfl ?_
    refine own_iloadN X310 hx hby d45_9 rfl ?_
    have hc10_311 : i < p4 := by rw [own_ltI, he]; omega
    refine own_icmpNo X310 hx hby d45_10 (tlt hc10_311).2.1 ?_
    obtain ⟨ii, hii⟩ : ∃ q : Nat, i.toInt = (q : Int) := ⟨i.toInt.toNat, by omega⟩
    by_cases hij : ii = j
    · skip
      subst hij
      refine own_aloadN X310 hx hby d45_13 rfl rfl ?_
      refine own_iload X310 hx hby d45_14 rfl ?_
      obtain ⟨cl312, Ar312, qa312, Sa312, Na312, Ha312, Ga312⟩ := id Vb
      have hin312 : ¬ (i < 0 ∨ cl312.slots.size ≤ (i).toNatClampNeg) := inb_of Sa312 ⟨own_ge0 (by omega), by rw [own_ltI, hz]; omega⟩
      have hat312 : cl312.slots[(i).toNatClampNeg]? = some (.int (own_at (List.map own_b8 cs) i)) := Has.at Ha312 hin312 (own_at_eq (List.map own_b8 cs) _)
      refine own_of (U' := (T310.setTop (mkF m 17 #[.val (.ref b), .val (.int 58), .val (.int p3), .val (.int p4), .val (.int 58), .val (.int i)] [(.int (own_at (List.map own_b8 cs) i))]))) (X310.baloadBytes hx (j := i) (v := (.int (own_at (List.map own_b8 cs) i))) (by rw [e310]; exact Ar312.1) (State.isArrayOf_alike hZ.alike Ar312.2.1) Ar312.2.2 hin312 hat312 (g := (mkF m 16 #[.val (.ref b), .val (.int 58), .val (.int p3), .val (.int p4), .val (.int 58), .val (.int i)] [(.int i), (.ref b)])) rfl rfl (hb hby d45_16)) ?_
      refine own_iload X310 hx hby d45_17 rfl ?_
      have hc19_313 : (own_at (List.map own_b8 cs) i) = (58 : Int32) := by rw [own_atb hii hjl, hj]; exact own_b858
      refine own_icmpNo X310 hx hby d45_19 (teq hc19_313).2 ?_
      refine own_iload X310 hx hby d45_22 rfl ?_
      exact own_retI X310 hx hlk hrt (hb hby d45_24) (by decide) (by decide) (⟨i, rfl, N310, e310, hii⟩)
    · skip
      have hil : ii < j := by omega
      obtain ⟨g, rfl⟩ : ∃ g, f = g + 1 := ⟨f - 1, by omega⟩
      refine own_aloadN X310 hx hby d45_13 rfl rfl ?_
      refine own_iload X310 hx hby d45_14 rfl ?_
      obtain ⟨cl314, Ar314, qa314, Sa314, Na314, Ha314, Ga314⟩ := id Vb
      have hin314 : ¬ (i < 0 ∨ cl314.slots.size ≤ (i).toNatClampNeg) := inb_of Sa314 ⟨own_ge0 (by omega), by rw [own_ltI, hz]; omega⟩
      have hat314 : cl314.slots[(i).toNatClampNeg]? = some (.int (own_at (List.map own_b8 cs) i)) := Has.at Ha314 hin314 (own_at_eq (List.map own_b8 cs) _)
      refine own_of (U' := (T310.setTop (mkF m 17 #[.val (.ref b), .val (.int 58), .val (.int p3), .val (.int p4), .val (.int 58), .val (.int i)] [(.int (own_at (List.map own_b8 cs) i))]))) (X310.baloadBytes hx (j := i) (v := (.int (own_at (List.map own_b8 cs) i))) (by rw [e310]; exact Ar314.1) (State.isArrayOf_alike hZ.alike Ar314.2.1) Ar314.2.2 hin314 hat314 (g := (mkF m 16 #[.val (.ref b), .val (.int 58), .val (.int p3), .val (.int p4), .val (.int 58), .val (.int i)] [(.int i), (.ref b)])) rfl rfl (hb hby d45_16)) ?_
      refine own_iload X310 hx hby d45_17 rfl ?_
      have hc19_315 : ¬ ((own_at (List.map own_b8 cs) i) = (58 : Int32)) := fun q => by rw [own_atb hii (by omega)] at q; exact hno ii (by omega) hil (own_b58 (hcs _ (own_getmem (by omega))) (hlat _ (own_getmem (by omega))) q)
      refine own_icmpYes X310 hx hby 19 25 d45_19 (feq hc19_315).2 (by decide) (by decide) ?_
      refine own_iinc X310 hx hby d45_25 rfl (l' := #[.val (.ref b), .val (.int 58), .val (.int p3), .val (.int p4), .val (.int 58), .val (.int (i + (1 : Int32)))]) rfl ?_
      refine own_goto X310 hx hby 28 7 d45_28 (by decide) (by decide) ?_
      have hi1 : (i + (1 : Int32)).toInt = i.toInt + 1 := by rw [own_addI (by rw [own_i1]; omega) (by rw [own_i1]; omega), own_i1]
      exact ih310 g (Nat.lt_succ_self g) _ _ _ X310 e310 N310 ⟨by omega, by omega⟩
abbrev mN_56 : MethodName := ⟨"java/lang/StringLatin1", "indexOf", "([BIII)I"⟩
theorem pd_35 : parseMethodDescriptor "(I)Z" = some ⟨[.int], some .boolean⟩ := by decide +kernel
theorem pd_36 : parseMethodDescriptor "([BIII)I" = some ⟨[(.array .byte), .int, .int, .int], some .int⟩ := by decide +kernel
theorem d42_0 : decode c_56 0 = .ok (.iload_n 1, 1) := by decide +kernel
theorem d42_1 : decode c_56 1 = .ok (.invokestatic 88, 3) := by decide +kernel
theorem d42_4 : decode c_56 4 = .ok (.ifCond .ne 5, 3) := by decide +kernel
theorem d42_9 : decode c_56 9 = .ok (.iload_n 2, 1) := by decide +kernel
theorem d42_10 : decode c_56 10 = .ok (.iconst 0, 1) := by decide +kernel
theorem d42_11 : decode c_56 11 = .ok (.invokestatic 92, 3) := by decide +kernel
theorem d42_14 : decode c_56 14 = .ok (.istore_n 2, 1) := by decide +kernel
theorem d42_15 : decode c_56 15 = .ok (.iload_n 3, 1) := by decide +kernel
theorem d42_16 : decode c_56 16 = .ok (.aload_n 0, 1) := by decide +kernel
theorem d42_17 : decode c_56 17 = .ok (.arraylength, 1) := by decide +kernel
theorem d42_18 : decode c_56 18 = .ok (.invokestatic 38, 3) := by decide +kernel
theorem d42_21 : decode c_56 21 = .ok (.istore_n 3, 1) := by decide +kernel
theorem d42_22 : decode c_56 22 = .ok (.iload_n 2, 1) := by decide +kernel
theorem d42_23 : decode c_56 23 = .ok (.iload_n 3, 1) := by decide +kernel
theorem d42_24 : decode c_56 24 = .ok (.if_icmp .lt 5, 3) := by decide +kernel
theorem d42_29 : decode c_56 29 = .ok (.aload_n 0, 1) := by decide +kernel
theorem d42_30 : decode c_56 30 = .ok (.iload_n 1, 1) := by decide +kernel
theorem d42_31 : decode c_56 31 = .ok (.iload_n 2, 1) := by decide +kernel
theorem d42_32 : decode c_56 32 = .ok (.iload_n 3, 1) := by decide +kernel
theorem d42_33 : decode c_56 33 = .ok (.invokestatic 95, 3) := by decide +kernel
theorem d42_36 : decode c_56 36 = .ok (.ireturn, 1) := by decide +kernel
theorem ef_io0 (m : MethodId) (x0 : Addr) (x2 : Int32) (x3 : Int32) : entryFrame m #[(.ref x0), (.int 58), (.int x2), (.int x3)] 4 = mkF m 0 #[.val (.ref x0), .val (.int 58), .val (.int x2), .val (.int x3)] [] := by first | (simp [entryFrame, mkF, argsToLocals, Value.category]; done) | rfl
theorem rmio0 (l : Launch) (Z : State) (a0 : Array Value) (hw : ∀ d ∈ tables_1, d.before a0 Z = true) (ws : List Jvm.Cond) (b : Addr) (p3 p4 : Int32) (kb : ClassId) (z : Int32) (cs : List Int32) (fr j : Nat) (h0 : Heap) (n0 : Nat) (Z0 : n0 ≤ h0.size) (Vb : Arv Z h0 b kb .byte z (List.map Value.int (List.map own_b8 cs)) (.int 0)) (hz : z.toInt = cs.length) (hfr : p3.toInt = fr) (hfj : fr ≤ j) (hjl : j < cs.length) (hj : cs.getD j 0 = 58) (hno : ∀ i, fr ≤ i → i < j → ¬ (cs.getD i 0 = 58)) (hlen : cs.length ≤ 100) (hcs : own_chs cs) (he : p4.toInt = cs.length) (hlat : own_lat cs) : own_M l mN_56 jdk_43_method_22_code 4 (some .int) ws ({ frames := 1, cells := 0, slots := 0, locals := 17 } : Room) Z h0 #[(.ref b), (.int 58), (.int p3), (.int p4)] (Qix j h0 n0) := by
  refine own_go #[.val (.ref b), .val (.int 58), .val (.int p3), .val (.int p4)] (plainFor_of_name pn_6) (fun m => ef_io0 m b p3 p4) ?_
  intro p e s m below meth c s₁ hx hby hml hown hnm hlk X0 e0 hZ hrt
  have N0 := Fr.nil n0
  refine own_iloadN X0 hx hby d42_0 rfl ?_
  obtain ⟨_, _, ⟨T316, L316, k316, n316⟩, -, X316, ⟨Lc316, hQ316, l316, y316, z316⟩, st316⟩ := Jvm.LawKit.callS X0 hx (y := mN_22) hown (oV hZ hw 201 rfl) (oV hZ hw 202 rfl) (oV hZ hw 45 rfl) (oV hZ hw 203 rfl) (by decide) (backOf (W := 0) (rmci8 l Z a0 hw []  h0 n0 Z0 ) hZ (own_w hw 203 rfl) (own_w hw 45 rfl) (by decide) (by decide)) (g := (mkF m 1 #[.val (.ref b), .val (.int 58), .val (.int p3), .val (.int p4)] [(.int 58)])) rfl (by rw [hml]; rfl) (argsL := [(.int 58)]) (rest := []) (lenOf pd_35 rfl) rfl (by exact oZ rfl) (hb hby d42_1) (fun _ _ => ⟨rfl, e0, (by decide : 0 + 0 ≤ _), (by decide : 0 + 0 ≤ _)⟩)
  dsimp only [Pt.U, Pt.locs, Pt.cells, Pt.slots] at X316 l316 y316 z316 st316 hQ316
  rw [l316, y316, z316] at X316
  obtain ⟨rfl, Nq316, e316⟩ := hQ316
  have N316 := Fr.app N0 Nq316
  refine own_of (U' := (T316.setTop (mkF m 4 #[.val (.ref b), .val (.int 58), .val (.int p3), .val (.int p4)] [(.int 1)]))) (st316) ?_
  have hc4_317 : ¬ ((1 : Int32) = (0 : Int32)) := by decide
  refine own_ifYes X316 hx hby 4 9 d42_4 ((if0 _ _).trans (feq hc4_317).2) (by decide) (by decide) ?_
  refine own_iloadN X316 hx hby d42_9 rfl ?_
  refine own_iconst X316 hx hby 0 d42_10 rfl ?_
  obtain ⟨_, _, ⟨T318, L318, k318, n318⟩, -, X318, ⟨Lc318, hQ318, l318, y318, z318⟩, st318⟩ := Jvm.LawKit.callS X316 hx (y := mN_9) hown (oV hZ hw 204 rfl) (oV hZ hw 205 rfl) (oV hZ hw 176 rfl) (oV hZ hw 206 rfl) (by decide) (backOf (W := 0) (rmmax l Z a0 hw [] p3 (0 : Int32) h0 n0 Z0 ) hZ (own_w hw 206 rfl) (own_w hw 176 rfl) (by decide) (by decide)) (g := (mkF m 11 #[.val (.ref b), .val (.int 58), .val (.int p3), .val (.int p4)] [(.int 0), (.int p3)])) rfl (by rw [hml]; rfl) (argsL := [(.int p3), (.int 0)]) (rest := []) (lenOf pd_23 rfl) rfl (by exact oZ rfl) (hb hby d42_11) (fun _ _ => ⟨rfl, e316, (by decide : 0 + 0 ≤ _), (by decide : 0 + 0 ≤ _)⟩)
  dsimp only [Pt.U, Pt.locs, Pt.cells, Pt.slots] at X318 l318 y318 z318 st318 hQ318
  rw [l318, y318, z318] at X318
  obtain ⟨rfl, Nq318, e318⟩ := hQ318
  have N318 := Fr.app N316 Nq318
  refine own_of (U' := (T318.setTop (mkF m 14 #[.val (.ref b), .val (.int 58), .val (.int p3), .val (.int p4)] [(.int (own_max p3 (0 : Int32)))]))) (st318) ?_
  refine own_eq (U' := (T318.setTop (mkF m 14 #[.val (.ref b), .val (.int 58), .val (.int p3), .val (.int p4)] [(.int p3)]))) (by rw [show (own_max p3 (0 : Int32)) = p3 from own_max0 (by omega)]) ?_
  refine own_istoreN X318 hx hby d42_14 (l' := #[.val (.ref b), .val (.int 58), .val (.int p3), .val (.int p4)]) rfl ?_
  refine own_iloadN X318 hx hby d42_15 rfl ?_
  refine own_aloadN X318 hx hby d42_16 rfl rfl ?_
  obtain ⟨cl319, Ar319, qa319, Sa319, Na319, -, -⟩ := id Vb
  have al319 := X318.arraylength hx (by rw [e318]; exact Ar319.1) (State.isArrayOf_alike hZ.alike Ar319.2.1) (g := (mkF m 17 #[.val (.ref b), .val (.int 58), .val (.int p3), .val (.int p4)] [(.ref b), (.int p4)])) rfl rfl (hb hby d42_17)
  rw [len_of Sa319 Na319] at al319
  refine own_of (U' := (T318.setTop (mkF m 18 #[.val (.ref b), .val (.int 58), .val (.int p3), .val (.int p4)] [(.int z), (.int p4)]))) (al319) ?_
  obtain ⟨_, _, ⟨T320, L320, k320, n320⟩, -, X320, ⟨Lc320, hQ320, l320, y320, z320⟩, st320⟩ := Jvm.LawKit.callS X318 hx (y := mN_8) hown (oV hZ hw 207 rfl) (oV hZ hw 175 rfl) (oV hZ hw 176 rfl) (oV hZ hw 177 rfl) (by decide) (backOf (W := 0) (rmmin l Z a0 hw [] p4 z h0 n0 Z0 ) hZ (own_w hw 177 rfl) (own_w hw 176 rfl) (by decide) (by decide)) (g := (mkF m 18 #[.val (.ref b), .val (.int 58), .val (.int p3), .val (.int p4)] [(.int z), (.int p4)])) rfl (by rw [hml]; rfl) (argsL := [(.int p4), (.int z)]) (rest := []) (lenOf pd_23 rfl) rfl (by exact oZ rfl) (hb hby d42_18) (fun _ _ => ⟨rfl, e318, (by decide : 0 + 0 ≤ _), (by decide : 0 + 0 ≤ _)⟩)
  dsimp only [Pt.U, Pt.locs, Pt.cells, Pt.slots] at X320 l320 y320 z320 st320 hQ320
  rw [l320, y320, z320] at X320
  obtain ⟨rfl, Nq320, e320⟩ := hQ320
  have N320 := Fr.app N318 Nq320
  refine own_of (U' := (T320.setTop (mkF m 21 #[.val (.ref b), .val (.int 58), .val (.int p3), .val (.int p4)] [(.int (own_min p4 z))]))) (st320) ?_
  refine own_eq (U' := (T320.setTop (mkF m 21 #[.val (.ref b), .val (.int 58), .val (.int p3), .val (.int p4)] [(.int p4)]))) (by rw [show (own_min p4 z) = p4 from own_minl (by omega)]) ?_
  refine own_istoreN X320 hx hby d42_21 (l' := #[.val (.ref b), .val (.int 58), .val (.int p3), .val (.int p4)]) rfl ?_
  refine own_iloadN X320 hx hby d42_22 rfl ?_
  refine own_iloadN X320 hx hby d42_23 rfl ?_
  have hc24_321 : p3 < p4 := by rw [own_ltI, he]; omega
  refine own_icmpYes X320 hx hby 24 29 d42_24 (tlt hc24_321).1 (by decide) (by decide) ?_
  refine own_aloadN X320 hx hby d42_29 rfl rfl ?_
  refine own_iloadN X320 hx hby d42_30 rfl ?_
  refine own_iloadN X320 hx hby d42_31 rfl ?_
  refine own_iloadN X320 hx hby d42_32 rfl ?_
  obtain ⟨_, _, ⟨T322, L322, k322, n322⟩, -, X322, ⟨Lc322, hQ322, l322, y322, z322⟩, st322⟩ := Jvm.LawKit.callS X320 hx (y := mN_55) hown (oV hZ hw 208 rfl) (oV hZ hw 209 rfl) (oV hZ hw 45 rfl) (oV hZ hw 210 rfl) (by decide) (backOf (W := 0) (rmic0 l Z a0 hw [] b p3 p4 kb z cs fr j h0 n0 Z0 Vb hz hfr hfj hjl hj hno hlen hcs he hlat) hZ (own_w hw 210 rfl) (own_w hw 45 rfl) (by decide) (by decide)) (g := (mkF m 33 #[.val (.ref b), .val (.int 58), .val (.int p3), .val (.int p4)] [(.int p4), (.int p3), (.int 58), (.ref b)])) rfl (by rw [hml]; rfl) (argsL := [(.ref b), (.int 58), (.int p3), (.int p4)]) (rest := []) (lenOf pd_36 rfl) rfl (by exact oZ rfl) (hb hby d42_33) (fun _ _ => ⟨rfl, e320, (by decide : 0 + 0 ≤ _), (by decide : 0 + 0 ≤ _)⟩)
  dsimp only [Pt.U, Pt.locs, Pt.cells, Pt.slots] at X322 l322 y322 z322 st322 hQ322
  rw [l322, y322, z322] at X322
  obtain ⟨r322, rfl, Nq322, e322, hr322⟩ := hQ322
  have N322 := Fr.app N320 Nq322
  refine own_of (U' := (T322.setTop (mkF m 36 #[.val (.ref b), .val (.int 58), .val (.int p3), .val (.int p4)] [(.int r322)]))) (st322) ?_
  exact own_retI X322 hx hlk hrt (hb hby d42_36) (by decide) (by decide) (⟨r322, rfl, N322, e322, hr322⟩)
abbrev mN_57 : MethodName := ⟨"java/lang/StringUTF16", "indexOfCharUnsafe", "([BIII)I"⟩
theorem d71_0 : decode c_57 0 = .ok (.iload_n 2, 1) := by decide +kernel
theorem d71_1 : decode c_57 1 = .ok (.istore 4, 2) := by decide +kernel
theorem d71_3 : decode c_57 3 = .ok (.iload 4, 2) := by decide +kernel
theorem d71_5 : decode c_57 5 = .ok (.iload_n 3, 1) := by decide +kernel
theorem d71_6 : decode c_57 6 = .ok (.if_icmp .ge 22, 3) := by decide +kernel
theorem d71_9 : decode c_57 9 = .ok (.aload_n 0, 1) := by decide +kernel
theorem d71_10 : decode c_57 10 = .ok (.iload 4, 2) := by decide +kernel
theorem d71_12 : decode c_57 12 = .ok (.invokestatic 71, 3) := by decide +kernel
theorem d71_15 : decode c_57 15 = .ok (.iload_n 1, 1) := by decide +kernel
theorem d71_16 : decode c_57 16 = .ok (.if_icmp .ne 6, 3) := by decide +kernel
theorem d71_19 : decode c_57 19 = .ok (.iload 4, 2) := by decide +kernel
theorem d71_21 : decode c_57 21 = .ok (.ireturn, 1) := by decide +kernel
theorem d71_22 : decode c_57 22 = .ok (.iinc 4 1, 3) := by decide +kernel
theorem d71_25 : decode c_57 25 = .ok (.goto (-22), 3) := by decide +kernel
theorem ef_iu (m : MethodId) (x0 : Addr) (x2 : Int32) (x3 : Int32) : entryFrame m #[(.ref x0), (.int 58), (.int x2), (.int x3)] 5 = mkF m 0 #[.val (.ref x0), .val (.int 58), .val (.int x2), .val (.int x3), .unset] [] := by first | (simp [entryFrame, mkF, argsToLocals, Value.category]; done) | rfl
theorem rmiu (l : Launch) (Z : State) (a0 : Array Value) (hw : ∀ d ∈ tables_1, d.before a0 Z = true) (ws : List Jvm.Cond) (b : Addr) (p3 p4 : Int32) (kb : ClassId) (z : Int32) (cs : List Int32) (fr j : Nat) (h0 : Heap) (n0 : Nat) (Z0 : n0 ≤ h0.size) (Vb : Arv Z h0 b kb .byte z (List.map Value.int (own_u16 cs)) (.int 0)) (hz : z.toInt = 2 * (cs.length : Int)) (hfr : p3.toInt = fr) (hfj : fr ≤ j) (hjl : j < cs.length) (hj : cs.getD j 0 = 58) (hno : ∀ i, fr ≤ i → i < j → ¬ (cs.getD i 0 = 58)) (hlen : cs.length ≤ 100) (hcs : own_chs cs) (he : p4.toInt = cs.length) (SA : Sta Z h0 "java/lang/StringUTF16" "$assertionsDisabled" "Z" (.int 1)) (SHI : Sta Z h0 "java/lang/StringUTF16" "HI_BYTE_SHIFT" "I" (.int 0)) (SLO : Sta Z h0 "java/lang/StringUTF16" "LO_BYTE_SHIFT" "I" (.int 8)) : own_M l mN_57 jdk_52_method_48_code 5 (some .int) ws ({ frames := 1, cells := 0, slots := 0, locals := 13 } : Room) Z h0 #[(.ref b), (.int 58), (.int p3), (.int p4)] (Qix j h0 n0) := by
  refine own_go #[.val (.ref b), .val (.int 58), .val (.int p3), .val (.int p4), .unset] (plainFor_of_name pn_5) (fun m => ef_iu m b p3 p4) ?_
  intro p e s m below meth c s₁ hx hby hml hown hnm hlk X0 e0 hZ hrt
  have N0 := Fr.nil n0
  refine own_iloadN X0 hx hby d71_0 rfl ?_
  refine own_istore X0 hx hby d71_1 (l' := #[.val (.ref b), .val (.int 58), .val (.int p3), .val (.int p4), .val (.int p3)]) rfl ?_
  suffices key323 : ∀ (f : Nat) (T323 : State) (L323 : List Loc) (i : Int32), Stand p l e ({ frames := 1, cells := 0, slots := 0, locals := 13 } : Room) s m #[(.ref b), (.int 58), (.int p3), (.int p4)] below meth c T323 L323 0 0 → T323.heap = h0 → Fr n0 L323 → ((fr : Int) ≤ i.toInt ∧ i.toInt + (f : Int) = (j : Int)) → own_Ends p e below s FrameEnd (Qix j h0 n0) 0 0 (T323.setTop (mkF m 3 #[.val (.ref b), .val (.int 58), .val (.int p3), .val (.int p4), .val (.int i)] [])) by
    exact key323 (j - fr) _ _ _ X0 e0 N0 ⟨by omega, by omega⟩
  intro f
  induction f using Nat.strongRecOn with
  | _ f ih323 =>
    intro T323 L323 i X323 e323 N323 iv
    obtain ⟨i0, hif⟩ := iv
    refine own_iload X323 hx hby d71_3 rfl ?_
    refine own_iloadN X323 hx hby d71_5 rfl ?_
    have hc6_324 : i < p4 := by rw [own_ltI, he]; omega
    refine own_icmpNo X323 hx hby d71_6 (tlt hc6_324).2.1 ?_
    obtain ⟨ii, hii⟩ : ∃ q : Nat, i.toInt = (q : Int) := ⟨i.toInt.toNat, by omega⟩
    by_cases hij : ii = j
    · skip
      subst hij
      refine own_aloadN X323 hx hby d71_9 rfl rfl ?_
      refine own_iload X323 hx hby d71_10 rfl ?_
      obtain ⟨_, _, ⟨T325, L325, k325, n325⟩, -, X325, ⟨Lc325, hQ325, l325, y325, z325⟩, st325⟩ := Jvm.LawKit.callS X323 hx (y := mN_27) hown (oV hZ hw 255 rfl) (oV hZ hw 256 rfl) (oV hZ hw 27 rfl) (oV hZ hw 257 rfl) (by decide) (backOf (W := 0) (rmug l Z a0 hw [] b i kb z cs ii h0 n0 Z0 Vb hii (by omega) hcs (by omega) (by omega) SA SHI SLO) hZ (own_w hw 257 rfl) (own_w hw 27 rfl) (by decide) (by decide)) (g := (mkF m 12 #[.val (.ref b), .val (.int 58), .val (.int p3), .val (.int p4), .val (.int i)] [(.int i), (.ref b)])) rfl (by rw [hml]; rfl) (argsL := [(.ref b), (.int i)]) (rest := []) (lenOf pd_30 rfl) rfl (by exact oZ rfl) (hb hby d71_12) (fun _ _ => ⟨rfl, e323, (by decide : 0 + 0 ≤ _), (by decide : 0 + 0 ≤ _)⟩)
      dsimp only [Pt.U, Pt.locs, Pt.cells, Pt.slots] at X325 l325 y325 z325 st325 hQ325
      rw [l325, y325, z325] at X325
      obtain ⟨rfl, Nq325, e325⟩ := hQ325
      have N325 := Fr.app N323 Nq325
      refine own_of (U' := (T325.setTop (mkF m 15 #[.val (.ref b), .val (.int 58), .val (.int p3), .val (.int p4), .val (.int i)] [(.int (cs.getD ii 0))]))) (st325) ?_
      refine own_iloadN X325 hx hby d71_15 rfl ?_
      have hc16_326 : (cs.getD ii 0) = (58 : Int32) := hj
      refine own_icmpNo X325 hx hby d71_16 (teq hc16_326).2 ?_
      refine own_iload X325 hx hby d71_19 rfl ?_
      exact own_retI X325 hx hlk hrt (hb hby d71_21) (by decide) (by decide) (⟨i, rfl, N325, e325, hii⟩)
    · skip
      have hil : ii < j := by omega
      obtain ⟨g, rfl⟩ : ∃ g, f = g + 1 := ⟨f - 1, by omega⟩
      refine own_aloadN X323 hx hby d71_9 rfl rfl ?_
      refine own_iload X323 hx hby d71_10 rfl ?_
      obtain ⟨_, _, ⟨T327, L327, k327, n327⟩, -, X327, ⟨Lc327, hQ327, l327, y327, z327⟩, st327⟩ := Jvm.LawKit.callS X323 hx (y := mN_27) hown (oV hZ hw 255 rfl) (oV hZ hw 256 rfl) (oV hZ hw 27 rfl) (oV hZ hw 257 rfl) (by decide) (backOf (W := 0) (rmug l Z a0 hw [] b i kb z cs ii h0 n0 Z0 Vb hii (by omega) hcs (by omega) (by omega) SA SHI SLO) hZ (own_w hw 257 rfl) (own_w hw 27 rfl) (by decide) (by decide)) (g := (mkF m 12 #[.val (.ref b), .val (.int 58), .val (.int p3), .val (.int p4), .val (.int i)] [(.int i), (.ref b)])) rfl (by rw [hml]; rfl) (argsL := [(.ref b), (.int i)]) (rest := []) (lenOf pd_30 rfl) rfl (by exact oZ rfl) (hb hby d71_12) (fun _ _ => ⟨rfl, e323, (by decide : 0 + 0 ≤ _), (by decide : 0 + 0 ≤ _)⟩)
      dsimp only [Pt.U, Pt.locs, Pt.cells, Pt.slots] at X327 l327 y327 z327 st327 hQ327
      rw [l327, y327, z327] at X327
      obtain ⟨rfl, Nq327, e327⟩ := hQ327
      have N327 := Fr.app N323 Nq327
      refine own_of (U' := (T327.setTop (mkF m 15 #[.val (.ref b), .val (.int 58), .val (.int p3), .val (.int p4), .val (.int i)] [(.int (cs.getD ii 0))]))) (st327) ?_
      refine own_iloadN X327 hx hby d71_15 rfl ?_
      have hc16_328 : ¬ ((cs.getD ii 0) = (58 : Int32)) := hno ii (by omega) hil
      refine own_icmpYes X327 hx hby 16 22 d71_16 (feq hc16_328).2 (by decide) (by decide) ?_
      refine own_iinc X327 hx hby d71_22 rfl (l' := #[.val (.ref b), .val (.int 58), .val (.int p3), .val (.int p4), .val (.int (i + (1 : Int32)))]) rfl ?_
      refine own_goto X327 hx hby 25 3 d71_25 (by decide) (by decide) ?_
      have hi1 : (i + (1 : Int32)).toInt = i.toInt + 1 := by rw [own_addI (by rw [own_i1]; omega) (by rw [own_i1]; omega), own_i1]
      exact ih323 g (Nat.lt_succ_self g) _ _ _ X327 e327 N327 ⟨by omega, by omega⟩
abbrev mN_58 : MethodName := ⟨"java/lang/StringUTF16", "indexOfChar", "([BIII)I"⟩
theorem d69_0 : decode c_58 0 = .ok (.iload_n 2, 1) := by decide +kernel
theorem d69_1 : decode c_58 1 = .ok (.iload_n 3, 1) := by decide +kernel
theorem d69_2 : decode c_58 2 = .ok (.aload_n 0, 1) := by decide +kernel
theorem d69_3 : decode c_58 3 = .ok (.invokestatic 96, 3) := by decide +kernel
theorem d69_6 : decode c_58 6 = .ok (.aload_n 0, 1) := by decide +kernel
theorem d69_7 : decode c_58 7 = .ok (.iload_n 1, 1) := by decide +kernel
theorem d69_8 : decode c_58 8 = .ok (.iload_n 2, 1) := by decide +kernel
theorem d69_9 : decode c_58 9 = .ok (.iload_n 3, 1) := by decide +kernel
theorem d69_10 : decode c_58 10 = .ok (.invokestatic 244, 3) := by decide +kernel
theorem d69_13 : decode c_58 13 = .ok (.ireturn, 1) := by decide +kernel
theorem ef_ic1 (m : MethodId) (x0 : Addr) (x2 : Int32) (x3 : Int32) : entryFrame m #[(.ref x0), (.int 58), (.int x2), (.int x3)] 4 = mkF m 0 #[.val (.ref x0), .val (.int 58), .val (.int x2), .val (.int x3)] [] := by first | (simp [entryFrame, mkF, argsToLocals, Value.category]; done) | rfl
theorem rmic1 (l : Launch) (Z : State) (a0 : Array Value) (hw : ∀ d ∈ tables_1, d.before a0 Z = true) (ws : List Jvm.Cond) (b : Addr) (p3 p4 : Int32) (kb : ClassId) (z : Int32) (cs : List Int32) (fr j : Nat) (rS : Value) (h0 : Heap) (n0 : Nat) (Z0 : n0 ≤ h0.size) (Vb : Arv Z h0 b kb .byte z (List.map Value.int (own_u16 cs)) (.int 0)) (hz : z.toInt = 2 * (cs.length : Int)) (hfr : p3.toInt = fr) (hfj : fr ≤ j) (hjl : j < cs.length) (hj : cs.getD j 0 = 58) (hno : ∀ i, fr ≤ i → i < j → ¬ (cs.getD i 0 = 58)) (hlen : cs.length ≤ 100) (hcs : own_chs cs) (he : p4.toInt = cs.length) (SA : Sta Z h0 "java/lang/StringUTF16" "$assertionsDisabled" "Z" (.int 1)) (SHI : Sta Z h0 "java/lang/StringUTF16" "HI_BYTE_SHIFT" "I" (.int 0)) (SLO : Sta Z h0 "java/lang/StringUTF16" "LO_BYTE_SHIFT" "I" (.int 8)) (SF : Sta Z h0 "jdk/internal/util/Preconditions" "SIOOBE_FORMATTER" "Ljava/util/function/BiFunction;" rS) (hrS : rS.isRef = true) : own_M l mN_58 jdk_52_method_47_code 4 (some .int) ws ({ frames := 3, cells := 0, slots := 0, locals := 43 } : Room) Z h0 #[(.ref b), (.int 58), (.int p3), (.int p4)] (Qix j h0 n0) := by
  refine own_go #[.val (.ref b), .val (.int 58), .val (.int p3), .val (.int p4)] (plainFor_of_name pn_5) (fun m => ef_ic1 m b p3 p4) ?_
  intro p e s m below meth c s₁ hx hby hml hown hnm hlk X0 e0 hZ hrt
  have N0 := Fr.nil n0
  refine own_iloadN X0 hx hby d69_0 rfl ?_
  refine own_iloadN X0 hx hby d69_1 rfl ?_
  refine own_aloadN X0 hx hby d69_2 rfl rfl ?_
  obtain ⟨_, _, ⟨T329, L329, k329, n329⟩, -, X329, ⟨Lc329, hQ329, l329, y329, z329⟩, st329⟩ := Jvm.LawKit.callS X0 hx (y := mN_20) hown (oV hZ hw 306 rfl) (oV hZ hw 307 rfl) (oV hZ hw 27 rfl) (oV hZ hw 308 rfl) (by decide) (backOf (W := 0) (rmub l Z a0 hw [] p3 p4 b kb z (own_u16 cs) rS h0 n0 Z0 Vb (own_ge0 (by omega)) (by rw [own_ltI]; omega) (by rw [own_ltI, own_half]; omega) SF hrS) hZ (own_w hw 308 rfl) (own_w hw 27 rfl) (by decide) (by decide)) (g := (mkF m 3 #[.val (.ref b), .val (.int 58), .val (.int p3), .val (.int p4)] [(.ref b), (.int p4), (.int p3)])) rfl (by rw [hml]; rfl) (argsL := [(.int p3), (.int p4), (.ref b)]) (rest := []) (lenOf pd_11 rfl) rfl (by exact oZ rfl) (hb hby d69_3) (fun _ _ => ⟨rfl, e0, (by decide : 0 + 0 ≤ _), (by decide : 0 + 0 ≤ _)⟩)
  dsimp only [Pt.U, Pt.locs, Pt.cells, Pt.slots] at X329 l329 y329 z329 st329 hQ329
  rw [l329, y329, z329] at X329
  obtain ⟨rfl, Nq329, e329⟩ := hQ329
  have N329 := Fr.app N0 Nq329
  refine own_of (U' := (T329.setTop (mkF m 6 #[.val (.ref b), .val (.int 58), .val (.int p3), .val (.int p4)] []))) (st329) ?_
  refine own_aloadN X329 hx hby d69_6 rfl rfl ?_
  refine own_iloadN X329 hx hby d69_7 rfl ?_
  refine own_iloadN X329 hx hby d69_8 rfl ?_
  refine own_iloadN X329 hx hby d69_9 rfl ?_
  obtain ⟨_, _, ⟨T330, L330, k330, n330⟩, -, X330, ⟨Lc330, hQ330, l330, y330, z330⟩, st330⟩ := Jvm.LawKit.callS X329 hx (y := mN_57) hown (oV hZ hw 310 rfl) (oV hZ hw 311 rfl) (oV hZ hw 27 rfl) (oV hZ hw 312 rfl) (by decide) (backOf (W := 0) (rmiu l Z a0 hw [] b p3 p4 kb z cs fr j h0 n0 Z0 Vb hz hfr hfj hjl hj hno hlen hcs he SA SHI SLO) hZ (own_w hw 312 rfl) (own_w hw 27 rfl) (by decide) (by decide)) (g := (mkF m 10 #[.val (.ref b), .val (.int 58), .val (.int p3), .val (.int p4)] [(.int p4), (.int p3), (.int 58), (.ref b)])) rfl (by rw [hml]; rfl) (argsL := [(.ref b), (.int 58), (.int p3), (.int p4)]) (rest := []) (lenOf pd_36 rfl) rfl (by exact oZ rfl) (hb hby d69_10) (fun _ _ => ⟨rfl, e329, (by decide : 0 + 0 ≤ _), (by decide : 0 + 0 ≤ _)⟩)
  dsimp only [Pt.U, Pt.locs, Pt.cells, Pt.slots] at X330 l330 y330 z330 st330 hQ330
  rw [l330, y330, z330] at X330
  obtain ⟨r330, rfl, Nq330, e330, hr330⟩ := hQ330
  have N330 := Fr.app N329 Nq330
  refine own_of (U' := (T330.setTop (mkF m 13 #[.val (.ref b), .val (.int 58), .val (.int p3), .val (.int p4)] [(.int r330)]))) (st330) ?_
  exact own_retI X330 hx hlk hrt (hb hby d69_13) (by decide) (by decide) (⟨r330, rfl, N330, e330, hr330⟩)
abbrev mN_59 : MethodName := ⟨"java/lang/StringUTF16", "indexOf", "([BIII)I"⟩
theorem d68_0 : decode c_59 0 = .ok (.iload_n 2, 1) := by decide +kernel
theorem d68_1 : decode c_59 1 = .ok (.iconst 0, 1) := by decide +kernel
theorem d68_2 : decode c_59 2 = .ok (.invokestatic 224, 3) := by decide +kernel
theorem d68_5 : decode c_59 5 = .ok (.istore_n 2, 1) := by decide +kernel
theorem d68_6 : decode c_59 6 = .ok (.iload_n 3, 1) := by decide +kernel
theorem d68_7 : decode c_59 7 = .ok (.aload_n 0, 1) := by decide +kernel
theorem d68_8 : decode c_59 8 = .ok (.arraylength, 1) := by decide +kernel
theorem d68_9 : decode c_59 9 = .ok (.iconst 1, 1) := by decide +kernel
theorem d68_10 : decode c_59 10 = .ok (.ishr, 1) := by decide +kernel
theorem d68_11 : decode c_59 11 = .ok (.invokestatic 183, 3) := by decide +kernel
theorem d68_14 : decode c_59 14 = .ok (.istore_n 3, 1) := by decide +kernel
theorem d68_15 : decode c_59 15 = .ok (.iload_n 2, 1) := by decide +kernel
theorem d68_16 : decode c_59 16 = .ok (.iload_n 3, 1) := by decide +kernel
theorem d68_17 : decode c_59 17 = .ok (.if_icmp .lt 5, 3) := by decide +kernel
theorem d68_22 : decode c_59 22 = .ok (.iload_n 1, 1) := by decide +kernel
theorem d68_23 : decode c_59 23 = .ok (.ldc 227, 2) := by decide +kernel
theorem d68_25 : decode c_59 25 = .ok (.if_icmp .ge 11, 3) := by decide +kernel
theorem d68_28 : decode c_59 28 = .ok (.aload_n 0, 1) := by decide +kernel
theorem d68_29 : decode c_59 29 = .ok (.iload_n 1, 1) := by decide +kernel
theorem d68_30 : decode c_59 30 = .ok (.iload_n 2, 1) := by decide +kernel
theorem d68_31 : decode c_59 31 = .ok (.iload_n 3, 1) := by decide +kernel
theorem d68_32 : decode c_59 32 = .ok (.invokestatic 228, 3) := by decide +kernel
theorem d68_35 : decode c_59 35 = .ok (.ireturn, 1) := by decide +kernel
theorem ef_io1 (m : MethodId) (x0 : Addr) (x2 : Int32) (x3 : Int32) : entryFrame m #[(.ref x0), (.int 58), (.int x2), (.int x3)] 4 = mkF m 0 #[.val (.ref x0), .val (.int 58), .val (.int x2), .val (.int x3)] [] := by first | (simp [entryFrame, mkF, argsToLocals, Value.category]; done) | rfl
theorem rmio1 (l : Launch) (Z : State) (a0 : Array Value) (hw : ∀ d ∈ tables_1, d.before a0 Z = true) (ws : List Jvm.Cond) (b : Addr) (p3 p4 : Int32) (kb : ClassId) (z : Int32) (cs : List Int32) (fr j : Nat) (rS : Value) (h0 : Heap) (n0 : Nat) (Z0 : n0 ≤ h0.size) (Vb : Arv Z h0 b kb .byte z (List.map Value.int (own_u16 cs)) (.int 0)) (hz : z.toInt = 2 * (cs.length : Int)) (hfr : p3.toInt = fr) (hfj : fr ≤ j) (hjl : j < cs.length) (hj : cs.getD j 0 = 58) (hno : ∀ i, fr ≤ i → i < j → ¬ (cs.getD i 0 = 58)) (hlen : cs.length ≤ 100) (hcs : own_chs cs) (he : p4.toInt = cs.length) (SA : Sta Z h0 "java/lang/StringUTF16" "$assertionsDisabled" "Z" (.int 1)) (SHI : Sta Z h0 "java/lang/StringUTF16" "HI_BYTE_SHIFT" "I" (.int 0)) (SLO : Sta Z h0 "java/lang/StringUTF16" "LO_BYTE_SHIFT" "I" (.int 8)) (SF : Sta Z h0 "jdk/internal/util/Preconditions" "SIOOBE_FORMATTER" "Ljava/util/function/BiFunction;" rS) (hrS : rS.isRef = true) : own_M l mN_59 jdk_52_method_40_code 4 (some .int) ws ({ frames := 4, cells := 0, slots := 0, locals := 58 } : Room) Z h0 #[(.ref b), (.int 58), (.int p3), (.int p4)] (Qix j h0 n0) := by
  refine own_go #[.val (.ref b), .val (.int 58), .val (.int p3), .val (.int p4)] (plainFor_of_name pn_5) (fun m => ef_io1 m b p3 p4) ?_
  intro p e s m below meth c s₁ hx hby hml hown hnm hlk X0 e0 hZ hrt
  have N0 := Fr.nil n0
  refine own_iloadN X0 hx hby d68_0 rfl ?_
  refine own_iconst X0 hx hby 0 d68_1 rfl ?_
  obtain ⟨_, _, ⟨T331, L331, k331, n331⟩, -, X331, ⟨Lc331, hQ331, l331, y331, z331⟩, st331⟩ := Jvm.LawKit.callS X0 hx (y := mN_9) hown (oV hZ hw 300 rfl) (oV hZ hw 205 rfl) (oV hZ hw 176 rfl) (oV hZ hw 206 rfl) (by decide) (backOf (W := 0) (rmmax l Z a0 hw [] p3 (0 : Int32) h0 n0 Z0 ) hZ (own_w hw 206 rfl) (own_w hw 176 rfl) (by decide) (by decide)) (g := (mkF m 2 #[.val (.ref b), .val (.int 58), .val (.int p3), .val (.int p4)] [(.int 0), (.int p3)])) rfl (by rw [hml]; rfl) (argsL := [(.int p3), (.int 0)]) (rest := []) (lenOf pd_23 rfl) rfl (by exact oZ rfl) (hb hby d68_2) (fun _ _ => ⟨rfl, e0, (by decide : 0 + 0 ≤ _), (by decide : 0 + 0 ≤ _)⟩)
  dsimp only [Pt.U, Pt.locs, Pt.cells, Pt.slots] at X331 l331 y331 z331 st331 hQ331
  rw [l331, y331, z331] at X331
  obtain ⟨rfl, Nq331, e331⟩ := hQ331
  have N331 := Fr.app N0 Nq331
  refine own_of (U' := (T331.setTop (mkF m 5 #[.val (.ref b), .val (.int 58), .val (.int p3), .val (.int p4)] [(.int (own_max p3 (0 : Int32)))]))) (st331) ?_
  refine own_eq (U' := (T331.setTop (mkF m 5 #[.val (.ref b), .val (.int 58), .val (.int p3), .val (.int p4)] [(.int p3)]))) (by rw [show (own_max p3 (0 : Int32)) = p3 from own_max0 (by omega)]) ?_
  refine own_istoreN X331 hx hby d68_5 (l' := #[.val (.ref b), .val (.int 58), .val (.int p3), .val (.int p4)]) rfl ?_
  refine own_iloadN X331 hx hby d68_6 rfl ?_
  refine own_aloadN X331 hx hby d68_7 rfl rfl ?_
  obtain ⟨cl332, Ar332, qa332, Sa332, Na332, -, -⟩ := id Vb
  have al332 := X331.arraylength hx (by rw [e331]; exact Ar332.1) (State.isArrayOf_alike hZ.alike Ar332.2.1) (g := (mkF m 8 #[.val (.ref b), .val (.int 58), .val (.int p3), .val (.int p4)] [(.ref b), (.int p4)])) rfl rfl (hb hby d68_8)
  rw [len_of Sa332 Na332] at al332
  refine own_of (U' := (T331.setTop (mkF m 9 #[.val (.ref b), .val (.int 58), .val (.int p3), .val (.int p4)] [(.int z), (.int p4)]))) (al332) ?_
  refine own_iconst X331 hx hby 1 d68_9 rfl ?_
  refine own_ishr X331 hx hby d68_10 ?_
  obtain ⟨_, _, ⟨T333, L333, k333, n333⟩, -, X333, ⟨Lc333, hQ333, l333, y333, z333⟩, st333⟩ := Jvm.LawKit.callS X331 hx (y := mN_8) hown (oV hZ hw 301 rfl) (oV hZ hw 175 rfl) (oV hZ hw 176 rfl) (oV hZ hw 177 rfl) (by decide) (backOf (W := 0) (rmmin l Z a0 hw [] p4 (z >>> ((1 : Int32) &&& 31)) h0 n0 Z0 ) hZ (own_w hw 177 rfl) (own_w hw 176 rfl) (by decide) (by decide)) (g := (mkF m 11 #[.val (.ref b), .val (.int 58), .val (.int p3), .val (.int p4)] [(.int (z >>> ((1 : Int32) &&& 31))), (.int p4)])) rfl (by rw [hml]; rfl) (argsL := [(.int p4), (.int (z >>> ((1 : Int32) &&& 31)))]) (rest := []) (lenOf pd_23 rfl) rfl (by exact oZ rfl) (hb hby d68_11) (fun _ _ => ⟨rfl, e331, (by decide : 0 + 0 ≤ _), (by decide : 0 + 0 ≤ _)⟩)
  dsimp only [Pt.U, Pt.locs, Pt.cells, Pt.slots] at X333 l333 y333 z333 st333 hQ333
  rw [l333, y333, z333] at X333
  obtain ⟨rfl, Nq333, e333⟩ := hQ333
  have N333 := Fr.app N331 Nq333
  refine own_of (U' := (T333.setTop (mkF m 14 #[.val (.ref b), .val (.int 58), .val (.int p3), .val (.int p4)] [(.int (own_min p4 (z >>> ((1 : Int32) &&& 31))))]))) (st333) ?_
  refine own_eq (U' := (T333.setTop (mkF m 14 #[.val (.ref b), .val (.int 58), .val (.int p3), .val (.int p4)] [(.int p4)]))) (by rw [show (own_min p4 (z >>> ((1 : Int32) &&& 31))) = p4 from own_minl (by rw [own_half]; omega)]) ?_
  refine own_istoreN X333 hx hby d68_14 (l' := #[.val (.ref b), .val (.int 58), .val (.int p3), .val (.int p4)]) rfl ?_
  refine own_iloadN X333 hx hby d68_15 rfl ?_
  refine own_iloadN X333 hx hby d68_16 rfl ?_
  have hc17_334 : p3 < p4 := by rw [own_ltI, he]; omega
  refine own_icmpYes X333 hx hby 17 22 d68_17 (tlt hc17_334).1 (by decide) (by decide) ?_
  refine own_iloadN X333 hx hby d68_22 rfl ?_
  refine own_of (U' := (T333.setTop (mkF m 25 #[.val (.ref b), .val (.int 58), .val (.int p3), .val (.int p4)] [(.int 65536), (.int 58)]))) (X333.ldcInt hx hown (oV hZ hw 302 rfl) (g := (mkF m 23 #[.val (.ref b), .val (.int 58), .val (.int p3), .val (.int p4)] [(.int 58)])) rfl (hb hby d68_23)) ?_
  have hc25_335 : (58 : Int32) < (65536 : Int32) := by decide
  refine own_icmpNo X333 hx hby d68_25 (tlt hc25_335).2.1 ?_
  refine own_aloadN X333 hx hby d68_28 rfl rfl ?_
  refine own_iloadN X333 hx hby d68_29 rfl ?_
  refine own_iloadN X333 hx hby d68_30 rfl ?_
  refine own_iloadN X333 hx hby d68_31 rfl ?_
  obtain ⟨_, _, ⟨T336, L336, k336, n336⟩, -, X336, ⟨Lc336, hQ336, l336, y336, z336⟩, st336⟩ := Jvm.LawKit.callS X333 hx (y := mN_58) hown (oV hZ hw 303 rfl) (oV hZ hw 304 rfl) (oV hZ hw 27 rfl) (oV hZ hw 305 rfl) (by decide) (backOf (W := 0) (rmic1 l Z a0 hw [] b p3 p4 kb z cs fr j rS h0 n0 Z0 Vb hz hfr hfj hjl hj hno hlen hcs he SA SHI SLO SF hrS) hZ (own_w hw 305 rfl) (own_w hw 27 rfl) (by decide) (by decide)) (g := (mkF m 32 #[.val (.ref b), .val (.int 58), .val (.int p3), .val (.int p4)] [(.int p4), (.int p3), (.int 58), (.ref b)])) rfl (by rw [hml]; rfl) (argsL := [(.ref b), (.int 58), (.int p3), (.int p4)]) (rest := []) (lenOf pd_36 rfl) rfl (by exact oZ rfl) (hb hby d68_32) (fun _ _ => ⟨rfl, e333, (by decide : 0 + 0 ≤ _), (by decide : 0 + 0 ≤ _)⟩)
  dsimp only [Pt.U, Pt.locs, Pt.cells, Pt.slots] at X336 l336 y336 z336 st336 hQ336
  rw [l336, y336, z336] at X336
  obtain ⟨r336, rfl, Nq336, e336, hr336⟩ := hQ336
  have N336 := Fr.app N333 Nq336
  refine own_of (U' := (T336.setTop (mkF m 35 #[.val (.ref b), .val (.int 58), .val (.int p3), .val (.int p4)] [(.int r336)]))) (st336) ?_
  exact own_retI X336 hx hlk hrt (hb hby d68_35) (by decide) (by decide) (⟨r336, rfl, N336, e336, hr336⟩)
abbrev mN_60 : MethodName := ⟨"java/lang/String", "indexOf", "(II)I"⟩
theorem d40_0 : decode c_60 0 = .ok (.aload_n 0, 1) := by decide +kernel
theorem d40_1 : decode c_60 1 = .ok (.invokevirtual 492, 3) := by decide +kernel
theorem d40_4 : decode c_60 4 = .ok (.ifCond .eq 19, 3) := by decide +kernel
theorem d40_7 : decode c_60 7 = .ok (.aload_n 0, 1) := by decide +kernel
theorem d40_8 : decode c_60 8 = .ok (.getfield 9, 3) := by decide +kernel
theorem d40_11 : decode c_60 11 = .ok (.iload_n 1, 1) := by decide +kernel
theorem d40_12 : decode c_60 12 = .ok (.iload_n 2, 1) := by decide +kernel
theorem d40_13 : decode c_60 13 = .ok (.aload_n 0, 1) := by decide +kernel
theorem d40_14 : decode c_60 14 = .ok (.invokevirtual 505, 3) := by decide +kernel
theorem d40_17 : decode c_60 17 = .ok (.invokestatic 637, 3) := by decide +kernel
theorem d40_20 : decode c_60 20 = .ok (.goto 16, 3) := by decide +kernel
theorem d40_36 : decode c_60 36 = .ok (.ireturn, 1) := by decide +kernel
theorem ef_ix0 (m : MethodId) (x0 : Addr) (x2 : Int32) : entryFrame m #[(.ref x0), (.int 58), (.int x2)] 3 = mkF m 0 #[.val (.ref x0), .val (.int 58), .val (.int x2)] [] := by first | (simp [entryFrame, mkF, argsToLocals, Value.category]; done) | rfl
theorem rmix0 (l : Launch) (Z : State) (a0 : Array Value) (hw : ∀ d ∈ tables_1, d.before a0 Z = true) (ws : List Jvm.Cond) (a1 : Addr) (g1 : Int32) (b : Addr) (kb : ClassId) (z : Int32) (cs : List Int32) (p3 : Int32) (fr j : Nat) (rS : Value) (h0 : Heap) (n0 : Nat) (Z0 : n0 ≤ h0.size) (E1 : Exa Z h0 a1 "java/lang/String") (Fc : Fld Z h0 a1 "java/lang/String" "coder" "B" (.int 0)) (Fv : Fld Z h0 a1 "java/lang/String" "value" "[B" (.ref b)) (Vb : Arv Z h0 b kb .byte z (List.map Value.int (List.map own_b8 cs)) (.int 0)) (hz : z.toInt = cs.length)  (hfr : p3.toInt = fr) (hfj : fr ≤ j) (hjl : j < cs.length) (hj : cs.getD j 0 = 58) (hno : ∀ i, fr ≤ i → i < j → ¬ (cs.getD i 0 = 58)) (hlen : cs.length ≤ 100) (hcs : own_chs cs) (lt : own_lat cs) (SC : Sta Z h0 "java/lang/String" "COMPACT_STRINGS" "Z" (.int g1)) (hg1 : ¬ (g1 = (0 : Int32))) (SA : Sta Z h0 "java/lang/StringUTF16" "$assertionsDisabled" "Z" (.int 1)) (SHI : Sta Z h0 "java/lang/StringUTF16" "HI_BYTE_SHIFT" "I" (.int 0)) (SLO : Sta Z h0 "java/lang/StringUTF16" "LO_BYTE_SHIFT" "I" (.int 8)) (SF : Sta Z h0 "jdk/internal/util/Preconditions" "SIOOBE_FORMATTER" "Ljava/util/function/BiFunction;" rS) (hrS : rS.isRef = true) : own_M l mN_60 jdk_42_method_80_code 3 (some .int) ws ({ frames := 5, cells := 0, slots := 0, locals := 73 } : Room) Z h0 #[(.ref a1), (.int 58), (.int p3)] (Qix j h0 n0) := by
  refine own_go #[.val (.ref a1), .val (.int 58), .val (.int p3)] (plainFor_of_name pn_0) (fun m => ef_ix0 m a1 p3) ?_
  intro p e s m below meth c s₁ hx hby hml hown hnm hlk X0 e0 hZ hrt
  have N0 := Fr.nil n0
  refine own_aloadN X0 hx hby d40_0 rfl rfl ?_
  obtain ⟨cq337, kq337, q337a, q337b, q337c⟩ := isOf hZ e0 E1
  obtain ⟨_, _, ⟨T337, L337, k337, n337⟩, -, X337, ⟨Lc337, hQ337, l337, y337, z337⟩, st337⟩ := X0.virtualBack hx (y := mN_1) (z := mN_1) hown (oV hZ hw 192 rfl) (oV hZ hw 193 rfl) (notFace_of_selects (args := #[]) (oV hZ hw 195 rfl)) (oV hZ hw 195 rfl) (oV hZ hw 194 rfl) (by decide) (backOf (W := 0) (rmilL l Z a0 hw [] a1 g1 h0 n0 Z0 Fc SC hg1) hZ (own_w hw 196 rfl) (own_w hw 12 rfl) (by decide) (by decide)) q337a q337c (g := (mkF m 1 #[.val (.ref a1), .val (.int 58), .val (.int p3)] [(.ref a1)])) rfl (by rw [hml]; rfl) (Steps.refl _) (argsL := []) (rest := []) (lenOf pd_13 rfl) rfl (by exact oZ rfl) (hb hby d40_1) (fun _ _ => ⟨rfl, e0, (by decide : 0 + 0 ≤ _), (by decide : 0 + 0 ≤ _)⟩)
  dsimp only [Pt.U, Pt.locs, Pt.cells, Pt.slots] at X337 l337 y337 z337 st337 hQ337
  rw [l337, y337, z337] at X337
  obtain ⟨rfl, Nq337, e337⟩ := hQ337
  have N337 := Fr.app N0 Nq337
  refine own_of (U' := (T337.setTop (mkF m 4 #[.val (.ref a1), .val (.int 58), .val (.int p3)] [(.int 1)]))) (fun _ k => st337.trans k) ?_
  have hc4_338 : ¬ ((1 : Int32) = (0 : Int32)) := by decide
  refine own_ifNo X337 hx hby d40_4 ((if0 _ _).trans (feq hc4_338).1) ?_
  refine own_aloadN X337 hx hby d40_7 rfl rfl ?_
  obtain ⟨T339, X339, e339, st339⟩ := getF X337 hx hZ hown (host := "") (Or.inl (own_w hw 38 rfl)) Via.refl e337 Fv (g := (mkF m 8 #[.val (.ref a1), .val (.int 58), .val (.int p3)] [(.ref a1)])) rfl rfl (hb hby d40_8)
  refine own_of (U' := (T339.setTop (mkF m 11 #[.val (.ref a1), .val (.int 58), .val (.int p3)] [(.ref b)]))) (st339) ?_
  refine own_iloadN X339 hx hby d40_11 rfl ?_
  refine own_iloadN X339 hx hby d40_12 rfl ?_
  refine own_aloadN X339 hx hby d40_13 rfl rfl ?_
  obtain ⟨cq340, kq340, q340a, q340b, q340c⟩ := isOf hZ e339 E1
  obtain ⟨_, _, ⟨T340, L340, k340, n340⟩, -, X340, ⟨Lc340, hQ340, l340, y340, z340⟩, st340⟩ := X339.virtualBack hx (y := mN_2) (z := mN_2) hown (oV hZ hw 197 rfl) (oV hZ hw 87 rfl) (notFace_of_selects (args := #[]) (oV hZ hw 89 rfl)) (oV hZ hw 89 rfl) (oV hZ hw 88 rfl) (by decide) (backOf (W := 3) (rmln0 l Z a0 hw [] a1 g1 b kb z cs h0 n0 Z0 E1 Fc Fv Vb hz SC hg1) hZ (own_w hw 90 rfl) (own_w hw 12 rfl) (by decide) (by decide)) q340a q340c (g := (mkF m 14 #[.val (.ref a1), .val (.int 58), .val (.int p3)] [(.ref a1), (.int p3), (.int 58), (.ref b)])) rfl (by rw [hml]; rfl) (Steps.refl _) (argsL := []) (rest := [(.int p3), (.int 58), (.ref b)]) (lenOf pd_1 rfl) rfl (by exact oZ rfl) (hb hby d40_14) (fun _ _ => ⟨rfl, e339, (by decide : 0 + 0 ≤ _), (by decide : 0 + 0 ≤ _)⟩)
  dsimp only [Pt.U, Pt.locs, Pt.cells, Pt.slots] at X340 l340 y340 z340 st340 hQ340
  rw [l340, y340, z340] at X340
  obtain ⟨r340, rfl, Nq340, e340, hr340⟩ := hQ340
  have N340 := Fr.app N337 Nq340
  refine own_of (U' := (T340.setTop (mkF m 17 #[.val (.ref a1), .val (.int 58), .val (.int p3)] [(.int r340), (.int p3), (.int 58), (.ref b)]))) (fun _ k => st340.trans k) ?_
  obtain ⟨_, _, ⟨T341, L341, k341, n341⟩, -, X341, ⟨Lc341, hQ341, l341, y341, z341⟩, st341⟩ := Jvm.LawKit.callS X340 hx (y := mN_56) hown (oV hZ hw 198 rfl) (oV hZ hw 199 rfl) (oV hZ hw 45 rfl) (oV hZ hw 200 rfl) (by decide) (backOf (W := 0) (rmio0 l Z a0 hw [] b p3 r340 kb z cs fr j h0 n0 Z0 Vb hz hfr hfj hjl hj hno hlen hcs hr340 lt) hZ (own_w hw 200 rfl) (own_w hw 45 rfl) (by decide) (by decide)) (g := (mkF m 17 #[.val (.ref a1), .val (.int 58), .val (.int p3)] [(.int r340), (.int p3), (.int 58), (.ref b)])) rfl (by rw [hml]; rfl) (argsL := [(.ref b), (.int 58), (.int p3), (.int r340)]) (rest := []) (lenOf pd_36 rfl) rfl (by exact oZ rfl) (hb hby d40_17) (fun _ _ => ⟨rfl, e340, (by decide : 0 + 0 ≤ _), (by decide : 0 + 0 ≤ _)⟩)
  dsimp only [Pt.U, Pt.locs, Pt.cells, Pt.slots] at X341 l341 y341 z341 st341 hQ341
  rw [l341, y341, z341] at X341
  obtain ⟨r341, rfl, Nq341, e341, hr341⟩ := hQ341
  have N341 := Fr.app N340 Nq341
  refine own_of (U' := (T341.setTop (mkF m 20 #[.val (.ref a1), .val (.int 58), .val (.int p3)] [(.int r341)]))) (st341) ?_
  refine own_goto X341 hx hby 20 36 d40_20 (by decide) (by decide) ?_
  exact own_retI X341 hx hlk hrt (hb hby d40_36) (by decide) (by decide) (⟨r341, rfl, N341, e341, hr341⟩)
theorem d40_23 : decode c_60 23 = .ok (.aload_n 0, 1) := by decide +kernel
theorem d40_24 : decode c_60 24 = .ok (.getfield 9, 3) := by decide +kernel
theorem d40_27 : decode c_60 27 = .ok (.iload_n 1, 1) := by decide +kernel
theorem d40_28 : decode c_60 28 = .ok (.iload_n 2, 1) := by decide +kernel
theorem d40_29 : decode c_60 29 = .ok (.aload_n 0, 1) := by decide +kernel
theorem d40_30 : decode c_60 30 = .ok (.invokevirtual 505, 3) := by decide +kernel
theorem d40_33 : decode c_60 33 = .ok (.invokestatic 640, 3) := by decide +kernel
theorem ef_ix1 (m : MethodId) (x0 : Addr) (x2 : Int32) : entryFrame m #[(.ref x0), (.int 58), (.int x2)] 3 = mkF m 0 #[.val (.ref x0), .val (.int 58), .val (.int x2)] [] := by first | (simp [entryFrame, mkF, argsToLocals, Value.category]; done) | rfl
theorem rmix1 (l : Launch) (Z : State) (a0 : Array Value) (hw : ∀ d ∈ tables_1, d.before a0 Z = true) (ws : List Jvm.Cond) (a1 : Addr) (g1 : Int32) (b : Addr) (kb : ClassId) (z : Int32) (cs : List Int32) (p3 : Int32) (fr j : Nat) (rS : Value) (h0 : Heap) (n0 : Nat) (Z0 : n0 ≤ h0.size) (E1 : Exa Z h0 a1 "java/lang/String") (Fc : Fld Z h0 a1 "java/lang/String" "coder" "B" (.int 1)) (Fv : Fld Z h0 a1 "java/lang/String" "value" "[B" (.ref b)) (Vb : Arv Z h0 b kb .byte z (List.map Value.int (own_u16 cs)) (.int 0)) (hz : z.toInt = 2 * (cs.length : Int))  (hfr : p3.toInt = fr) (hfj : fr ≤ j) (hjl : j < cs.length) (hj : cs.getD j 0 = 58) (hno : ∀ i, fr ≤ i → i < j → ¬ (cs.getD i 0 = 58)) (hlen : cs.length ≤ 100) (hcs : own_chs cs) (lt : ¬ own_lat cs) (SC : Sta Z h0 "java/lang/String" "COMPACT_STRINGS" "Z" (.int g1)) (hg1 : ¬ (g1 = (0 : Int32))) (SA : Sta Z h0 "java/lang/StringUTF16" "$assertionsDisabled" "Z" (.int 1)) (SHI : Sta Z h0 "java/lang/StringUTF16" "HI_BYTE_SHIFT" "I" (.int 0)) (SLO : Sta Z h0 "java/lang/StringUTF16" "LO_BYTE_SHIFT" "I" (.int 8)) (SF : Sta Z h0 "jdk/internal/util/Preconditions" "SIOOBE_FORMATTER" "Ljava/util/function/BiFunction;" rS) (hrS : rS.isRef = true) : own_M l mN_60 jdk_42_method_80_code 3 (some .int) ws ({ frames := 5, cells := 0, slots := 0, locals := 73 } : Room) Z h0 #[(.ref a1), (.int 58), (.int p3)] (Qix j h0 n0) := by
  refine own_go #[.val (.ref a1), .val (.int 58), .val (.int p3)] (plainFor_of_name pn_0) (fun m => ef_ix1 m a1 p3) ?_
  intro p e s m below meth c s₁ hx hby hml hown hnm hlk X0 e0 hZ hrt
  have N0 := Fr.nil n0
  refine own_aloadN X0 hx hby d40_0 rfl rfl ?_
  obtain ⟨cq342, kq342, q342a, q342b, q342c⟩ := isOf hZ e0 E1
  obtain ⟨_, _, ⟨T342, L342, k342, n342⟩, -, X342, ⟨Lc342, hQ342, l342, y342, z342⟩, st342⟩ := X0.virtualBack hx (y := mN_1) (z := mN_1) hown (oV hZ hw 192 rfl) (oV hZ hw 193 rfl) (notFace_of_selects (args := #[]) (oV hZ hw 195 rfl)) (oV hZ hw 195 rfl) (oV hZ hw 194 rfl) (by decide) (backOf (W := 0) (rmilU l Z a0 hw [] a1 g1 h0 n0 Z0 Fc SC hg1) hZ (own_w hw 196 rfl) (own_w hw 12 rfl) (by decide) (by decide)) q342a q342c (g := (mkF m 1 #[.val (.ref a1), .val (.int 58), .val (.int p3)] [(.ref a1)])) rfl (by rw [hml]; rfl) (Steps.refl _) (argsL := []) (rest := []) (lenOf pd_13 rfl) rfl (by exact oZ rfl) (hb hby d40_1) (fun _ _ => ⟨rfl, e0, (by decide : 0 + 0 ≤ _), (by decide : 0 + 0 ≤ _)⟩)
  dsimp only [Pt.U, Pt.locs, Pt.cells, Pt.slots] at X342 l342 y342 z342 st342 hQ342
  rw [l342, y342, z342] at X342
  obtain ⟨rfl, Nq342, e342⟩ := hQ342
  have N342 := Fr.app N0 Nq342
  refine own_of (U' := (T342.setTop (mkF m 4 #[.val (.ref a1), .val (.int 58), .val (.int p3)] [(.int 0)]))) (fun _ k => st342.trans k) ?_
  have hc4_343 : (0 : Int32) = (0 : Int32) := by decide
  refine own_ifYes X342 hx hby 4 23 d40_4 ((if0 _ _).trans (teq hc4_343).1) (by decide) (by decide) ?_
  refine own_aloadN X342 hx hby d40_23 rfl rfl ?_
  obtain ⟨T344, X344, e344, st344⟩ := getF X342 hx hZ hown (host := "") (Or.inl (own_w hw 38 rfl)) Via.refl e342 Fv (g := (mkF m 24 #[.val (.ref a1), .val (.int 58), .val (.int p3)] [(.ref a1)])) rfl rfl (hb hby d40_24)
  refine own_of (U' := (T344.setTop (mkF m 27 #[.val (.ref a1), .val (.int 58), .val (.int p3)] [(.ref b)]))) (st344) ?_
  refine own_iloadN X344 hx hby d40_27 rfl ?_
  refine own_iloadN X344 hx hby d40_28 rfl ?_
  refine own_aloadN X344 hx hby d40_29 rfl rfl ?_
  obtain ⟨cq345, kq345, q345a, q345b, q345c⟩ := isOf hZ e344 E1
  obtain ⟨_, _, ⟨T345, L345, k345, n345⟩, -, X345, ⟨Lc345, hQ345, l345, y345, z345⟩, st345⟩ := X344.virtualBack hx (y := mN_2) (z := mN_2) hown (oV hZ hw 197 rfl) (oV hZ hw 87 rfl) (notFace_of_selects (args := #[]) (oV hZ hw 89 rfl)) (oV hZ hw 89 rfl) (oV hZ hw 88 rfl) (by decide) (backOf (W := 3) (rmln1 l Z a0 hw [] a1 g1 b kb z cs h0 n0 Z0 E1 Fc Fv Vb hz SC hg1) hZ (own_w hw 90 rfl) (own_w hw 12 rfl) (by decide) (by decide)) q345a q345c (g := (mkF m 30 #[.val (.ref a1), .val (.int 58), .val (.int p3)] [(.ref a1), (.int p3), (.int 58), (.ref b)])) rfl (by rw [hml]; rfl) (Steps.refl _) (argsL := []) (rest := [(.int p3), (.int 58), (.ref b)]) (lenOf pd_1 rfl) rfl (by exact oZ rfl) (hb hby d40_30) (fun _ _ => ⟨rfl, e344, (by decide : 0 + 0 ≤ _), (by decide : 0 + 0 ≤ _)⟩)
  dsimp only [Pt.U, Pt.locs, Pt.cells, Pt.slots] at X345 l345 y345 z345 st345 hQ345
  rw [l345, y345, z345] at X345
  obtain ⟨r345, rfl, Nq345, e345, hr345⟩ := hQ345
  have N345 := Fr.app N342 Nq345
  refine own_of (U' := (T345.setTop (mkF m 33 #[.val (.ref a1), .val (.int 58), .val (.int p3)] [(.int r345), (.int p3), (.int 58), (.ref b)]))) (fun _ k => st345.trans k) ?_
  obtain ⟨_, _, ⟨T346, L346, k346, n346⟩, -, X346, ⟨Lc346, hQ346, l346, y346, z346⟩, st346⟩ := Jvm.LawKit.callS X345 hx (y := mN_59) hown (oV hZ hw 297 rfl) (oV hZ hw 298 rfl) (oV hZ hw 27 rfl) (oV hZ hw 299 rfl) (by decide) (backOf (W := 0) (rmio1 l Z a0 hw [] b p3 r345 kb z cs fr j rS h0 n0 Z0 Vb hz hfr hfj hjl hj hno hlen hcs hr345 SA SHI SLO SF hrS) hZ (own_w hw 299 rfl) (own_w hw 27 rfl) (by decide) (by decide)) (g := (mkF m 33 #[.val (.ref a1), .val (.int 58), .val (.int p3)] [(.int r345), (.int p3), (.int 58), (.ref b)])) rfl (by rw [hml]; rfl) (argsL := [(.ref b), (.int 58), (.int p3), (.int r345)]) (rest := []) (lenOf pd_36 rfl) rfl (by exact oZ rfl) (hb hby d40_33) (fun _ _ => ⟨rfl, e345, (by decide : 0 + 0 ≤ _), (by decide : 0 + 0 ≤ _)⟩)
  dsimp only [Pt.U, Pt.locs, Pt.cells, Pt.slots] at X346 l346 y346 z346 st346 hQ346
  rw [l346, y346, z346] at X346
  obtain ⟨r346, rfl, Nq346, e346, hr346⟩ := hQ346
  have N346 := Fr.app N345 Nq346
  refine own_of (U' := (T346.setTop (mkF m 36 #[.val (.ref a1), .val (.int 58), .val (.int p3)] [(.int r346)]))) (st346) ?_
  exact own_retI X346 hx hlk hrt (hb hby d40_36) (by decide) (by decide) (⟨r346, rfl, N346, e346, hr346⟩)
theorem rmix (l : Launch) (Z : State) (a0 : Array Value) (hw : ∀ d ∈ tables_1, d.before a0 Z = true) (ws : List Jvm.Cond) (a1 : Addr) (p3 : Int32) (cs : List Int32) (n1 : Nat) (fr j : Nat) (g1 : Int32) (rS : Value) (h0 : Heap) (n0 : Nat) (Z0 : n0 ≤ h0.size) (O1 : own_S2 Z h0 n1 a1 cs) (hfr : p3.toInt = fr) (hfj : fr ≤ j) (hjl : j < cs.length) (hj : cs.getD j 0 = 58) (hno : ∀ i, fr ≤ i → i < j → ¬ (cs.getD i 0 = 58)) (hlen : cs.length ≤ 100) (hcs : own_chs cs) (SC : Sta Z h0 "java/lang/String" "COMPACT_STRINGS" "Z" (.int g1)) (hg1 : ¬ (g1 = (0 : Int32))) (SA : Sta Z h0 "java/lang/StringUTF16" "$assertionsDisabled" "Z" (.int 1)) (SHI : Sta Z h0 "java/lang/StringUTF16" "HI_BYTE_SHIFT" "I" (.int 0)) (SLO : Sta Z h0 "java/lang/StringUTF16" "LO_BYTE_SHIFT" "I" (.int 8)) (SF : Sta Z h0 "jdk/internal/util/Preconditions" "SIOOBE_FORMATTER" "Ljava/util/function/BiFunction;" rS) (hrS : rS.isRef = true) : own_M l mN_60 jdk_42_method_80_code 3 (some .int) ws ({ frames := 5, cells := 0, slots := 0, locals := 73 } : Room) Z h0 #[(.ref a1), (.int 58), (.int p3)] (Qix j h0 n0) := by
  obtain ⟨b, kb, cd, z, la, lb, E1, Fc, Fv, ⟨rfl, lt, hz, Vb⟩ | ⟨rfl, lt, hz, Vb⟩⟩ := O1
  · exact rmix0 l Z a0 hw ws a1 g1 b kb z cs p3 fr j rS h0 n0 Z0 E1 Fc Fv Vb hz hfr hfj hjl hj hno hlen hcs lt SC hg1 SA SHI SLO SF hrS
  · exact rmix1 l Z a0 hw ws a1 g1 b kb z cs p3 fr j rS h0 n0 Z0 E1 Fc Fv Vb hz hfr hfj hjl hj hno hlen hcs lt SC hg1 SA SHI SLO SF hrS
abbrev mN_61 : MethodName := ⟨"java/lang/String", "indexOf", "(I)I"⟩
theorem d39_0 : decode c_61 0 = .ok (.aload_n 0, 1) := by decide +kernel
theorem d39_1 : decode c_61 1 = .ok (.iload_n 1, 1) := by decide +kernel
theorem d39_2 : decode c_61 2 = .ok (.iconst 0, 1) := by decide +kernel
theorem d39_3 : decode c_61 3 = .ok (.invokevirtual 633, 3) := by decide +kernel
theorem d39_6 : decode c_61 6 = .ok (.ireturn, 1) := by decide +kernel
theorem ef_iz (m : MethodId) (x0 : Addr) : entryFrame m #[(.ref x0), (.int 58)] 2 = mkF m 0 #[.val (.ref x0), .val (.int 58)] [] := by first | (simp [entryFrame, mkF, argsToLocals, Value.category]; done) | rfl
theorem rmiz (l : Launch) (Z : State) (a0 : Array Value) (hw : ∀ d ∈ tables_1, d.before a0 Z = true) (ws : List Jvm.Cond) (a1 : Addr) (cs : List Int32) (n1 : Nat) (j : Nat) (g1 : Int32) (rS : Value) (h0 : Heap) (n0 : Nat) (Z0 : n0 ≤ h0.size) (O1 : own_S2 Z h0 n1 a1 cs) (hjl : j < cs.length) (hj : cs.getD j 0 = 58) (hno : ∀ i, 0 ≤ i → i < j → ¬ (cs.getD i 0 = 58)) (hlen : cs.length ≤ 100) (hcs : own_chs cs) (SC : Sta Z h0 "java/lang/String" "COMPACT_STRINGS" "Z" (.int g1)) (hg1 : ¬ (g1 = (0 : Int32))) (SA : Sta Z h0 "java/lang/StringUTF16" "$assertionsDisabled" "Z" (.int 1)) (SHI : Sta Z h0 "java/lang/StringUTF16" "HI_BYTE_SHIFT" "I" (.int 0)) (SLO : Sta Z h0 "java/lang/StringUTF16" "LO_BYTE_SHIFT" "I" (.int 8)) (SF : Sta Z h0 "jdk/internal/util/Preconditions" "SIOOBE_FORMATTER" "Ljava/util/function/BiFunction;" rS) (hrS : rS.isRef = true) : own_M l mN_61 jdk_42_method_79_code 2 (some .int) ws ({ frames := 6, cells := 0, slots := 0, locals := 87 } : Room) Z h0 #[(.ref a1), (.int 58)] (Qix j h0 n0) := by
  refine own_go #[.val (.ref a1), .val (.int 58)] (plainFor_of_name pn_0) (fun m => ef_iz m a1) ?_
  intro p e s m below meth c s₁ hx hby hml hown hnm hlk X0 e0 hZ hrt
  have N0 := Fr.nil n0
  have E1 := own_S2exa O1
  refine own_aloadN X0 hx hby d39_0 rfl rfl ?_
  refine own_iloadN X0 hx hby d39_1 rfl ?_
  refine own_iconst X0 hx hby 0 d39_2 rfl ?_
  obtain ⟨cq347, kq347, q347a, q347b, q347c⟩ := isOf hZ e0 E1
  obtain ⟨_, _, ⟨T347, L347, k347, n347⟩, -, X347, ⟨Lc347, hQ347, l347, y347, z347⟩, st347⟩ := X0.virtualBack hx (y := mN_60) (z := mN_60) hown (oV hZ hw 187 rfl) (oV hZ hw 188 rfl) (notFace_of_selects (args := #[]) (oV hZ hw 190 rfl)) (oV hZ hw 190 rfl) (oV hZ hw 189 rfl) (by decide) (backOf (W := 0) (rmix l Z a0 hw [] a1 (0 : Int32) cs n1 0 j g1 rS h0 n0 Z0 O1 own_i0 (by omega) hjl hj hno hlen hcs SC hg1 SA SHI SLO SF hrS) hZ (own_w hw 191 rfl) (own_w hw 12 rfl) (by decide) (by decide)) q347a q347c (g := (mkF m 3 #[.val (.ref a1), .val (.int 58)] [(.int 0), (.int 58), (.ref a1)])) rfl (by rw [hml]; rfl) (Steps.refl _) (argsL := [(.int 58), (.int 0)]) (rest := []) (lenOf pd_23 rfl) rfl (by exact oZ rfl) (hb hby d39_3) (fun _ _ => ⟨rfl, e0, (by decide : 0 + 0 ≤ _), (by decide : 0 + 0 ≤ _)⟩)
  dsimp only [Pt.U, Pt.locs, Pt.cells, Pt.slots] at X347 l347 y347 z347 st347 hQ347
  rw [l347, y347, z347] at X347
  obtain ⟨r347, rfl, Nq347, e347, hr347⟩ := hQ347
  have N347 := Fr.app N0 Nq347
  refine own_of (U' := (T347.setTop (mkF m 6 #[.val (.ref a1), .val (.int 58)] [(.int r347)]))) (fun _ k => st347.trans k) ?_
  exact own_retI X347 hx hlk hrt (hb hby d39_6) (by decide) (by decide) (⟨r347, rfl, N347, e347, hr347⟩)
abbrev mN_62 : MethodName := ⟨"java/lang/StringUTF16", "compress", "([BI[BII)I"⟩
theorem d74_0 : decode c_62 0 = .ok (.iload_n 1, 1) := by decide +kernel
theorem d74_1 : decode c_62 1 = .ok (.iload 4, 2) := by decide +kernel
theorem d74_3 : decode c_62 3 = .ok (.aload_n 0, 1) := by decide +kernel
theorem d74_4 : decode c_62 4 = .ok (.invokestatic 173, 3) := by decide +kernel
theorem d74_7 : decode c_62 7 = .ok (.iconst 0, 1) := by decide +kernel
theorem d74_8 : decode c_62 8 = .ok (.istore 5, 2) := by decide +kernel
theorem d74_10 : decode c_62 10 = .ok (.iload 5, 2) := by decide +kernel
theorem d74_12 : decode c_62 12 = .ok (.iload 4, 2) := by decide +kernel
theorem d74_14 : decode c_62 14 = .ok (.if_icmp .ge 39, 3) := by decide +kernel
theorem d74_17 : decode c_62 17 = .ok (.aload_n 0, 1) := by decide +kernel
theorem d74_18 : decode c_62 18 = .ok (.iload_n 1, 1) := by decide +kernel
theorem d74_19 : decode c_62 19 = .ok (.invokestatic 71, 3) := by decide +kernel
theorem d74_22 : decode c_62 22 = .ok (.istore 6, 2) := by decide +kernel
theorem d74_24 : decode c_62 24 = .ok (.iload 6, 2) := by decide +kernel
theorem d74_26 : decode c_62 26 = .ok (.sipush 255, 3) := by decide +kernel
theorem d74_29 : decode c_62 29 = .ok (.if_icmp .le 6, 3) := by decide +kernel
theorem d74_35 : decode c_62 35 = .ok (.aload_n 2, 1) := by decide +kernel
theorem d74_36 : decode c_62 36 = .ok (.iload_n 3, 1) := by decide +kernel
theorem d74_37 : decode c_62 37 = .ok (.iload 6, 2) := by decide +kernel
theorem d74_39 : decode c_62 39 = .ok (.i2b, 1) := by decide +kernel
theorem d74_40 : decode c_62 40 = .ok (.bastore, 1) := by decide +kernel
theorem d74_41 : decode c_62 41 = .ok (.iinc 1 1, 3) := by decide +kernel
theorem d74_44 : decode c_62 44 = .ok (.iinc 3 1, 3) := by decide +kernel
theorem d74_47 : decode c_62 47 = .ok (.iinc 5 1, 3) := by decide +kernel
theorem d74_50 : decode c_62 50 = .ok (.goto (-40), 3) := by decide +kernel
theorem d74_53 : decode c_62 53 = .ok (.iload 4, 2) := by decide +kernel
theorem d74_55 : decode c_62 55 = .ok (.ireturn, 1) := by decide +kernel
theorem ef_cm0 (m : MethodId) (x0 : Addr) (x2 : Addr) (x4 : Int32) : entryFrame m #[(.ref x0), (.int 0), (.ref x2), (.int 0), (.int x4)] 7 = mkF m 0 #[.val (.ref x0), .val (.int 0), .val (.ref x2), .val (.int 0), .val (.int x4), .unset, .unset] [] := by first | (simp [entryFrame, mkF, argsToLocals, Value.category]; done) | rfl
def Qd0 (Z : State) (a3 : Addr) (kd : ClassId) (p3 : Int32) (cs : List Int32) (h0 : Heap) (n0 : Nat) (v : Option Value) (h : Heap) (L : List Loc) : Prop := v = some (.int p3) ∧ Fr n0 L ∧ Keep h0 h [a3] ∧ Arv Z h a3 kd .byte p3 (List.map Value.int (List.map own_b8 cs)) (.int 0)
theorem rmcm0 (l : Launch) (Z : State) (a0 : Array Value) (hw : ∀ d ∈ tables_1, d.before a0 Z = true) (ws : List Jvm.Cond) (b a3 : Addr) (p3 : Int32) (kb kd : ClassId) (z : Int32) (cs : List Int32) (j : Nat) (rS : Value) (h0 : Heap) (n0 : Nat) (Z0 : n0 ≤ h0.size) (Vb : Arv Z h0 b kb .byte z (List.map Value.int (own_u16 cs)) (.int 0)) (hz : z.toInt = 2 * (cs.length : Int)) (Vd : Arv Z h0 a3 kd .byte p3 (List.map Value.int ([] : List Int32)) (.int 0)) (g_a3 : n0 ≤ a3) (nea : b ≠ a3) (hp : p3.toInt = j) (h1 : 1 ≤ j) (hjl : j < cs.length) (hjc : j ≤ 5) (hcs : own_chs cs) (hlen : cs.length ≤ 100) (hlat : own_lat (cs.take j)) (SA : Sta Z h0 "java/lang/StringUTF16" "$assertionsDisabled" "Z" (.int 1)) (SHI : Sta Z h0 "java/lang/StringUTF16" "HI_BYTE_SHIFT" "I" (.int 0)) (SLO : Sta Z h0 "java/lang/StringUTF16" "LO_BYTE_SHIFT" "I" (.int 8)) (SF : Sta Z h0 "jdk/internal/util/Preconditions" "SIOOBE_FORMATTER" "Ljava/util/function/BiFunction;" rS) (hrS : rS.isRef = true) : own_M l mN_62 jdk_52_method_22_code 7 (some .int) ws ({ frames := 3, cells := 0, slots := 0, locals := 43 } : Room) Z h0 #[(.ref b), (.int 0), (.ref a3), (.int 0), (.int p3)] (Qd0 Z a3 kd p3 (cs.take j) h0 n0) := by
  refine own_go #[.val (.ref b), .val (.int 0), .val (.ref a3), .val (.int 0), .val (.int p3), .unset, .unset] (plainFor_of_name pn_5) (fun m => ef_cm0 m b a3 p3) ?_
  intro p e s m below meth c s₁ hx hby hml hown hnm hlk X0 e0 hZ hrt
  have N0 := Fr.nil n0
  have KK := Keep.refl h0 [a3]
  refine own_iloadN X0 hx hby d74_0 rfl ?_
  refine own_iload X0 hx hby d74_1 rfl ?_
  refine own_aloadN X0 hx hby d74_3 rfl rfl ?_
  obtain ⟨_, _, ⟨T348, L348, k348, n348⟩, -, X348, ⟨Lc348, hQ348, l348, y348, z348⟩, st348⟩ := Jvm.LawKit.callS X0 hx (y := mN_19) hown (oV hZ hw 270 rfl) (oV hZ hw 271 rfl) (oV hZ hw 27 rfl) (oV hZ hw 272 rfl) (by decide) (backOf (W := 0) (rmuo l Z a0 hw [] (0 : Int32) p3 b kb z (own_u16 cs) rS h0 n0 Z0 Vb (by rw [own_ltI, own_i0]; have r1 := rng32 z; have q1 := own_half z; have q2 := c_orS (z >>> ((1 : Int32) &&& 31)) (0 : Int32); have q3 := c_orS ((z >>> ((1 : Int32) &&& 31)) ||| (0 : Int32)) p3; rw [own_i0] at q2; omega) (by have q1 := own_half z; rw [own_ltI, own_sub0]; omega) SF hrS) hZ (own_w hw 272 rfl) (own_w hw 27 rfl) (by decide) (by decide)) (g := (mkF m 4 #[.val (.ref b), .val (.int 0), .val (.ref a3), .val (.int 0), .val (.int p3), .unset, .unset] [(.ref b), (.int p3), (.int 0)])) rfl (by rw [hml]; rfl) (argsL := [(.int 0), (.int p3), (.ref b)]) (rest := []) (lenOf pd_11 rfl) rfl (by exact oZ rfl) (hb hby d74_4) (fun _ _ => ⟨rfl, e0, (by decide : 0 + 0 ≤ _), (by decide : 0 + 0 ≤ _)⟩)
  dsimp only [Pt.U, Pt.locs, Pt.cells, Pt.slots] at X348 l348 y348 z348 st348 hQ348
  rw [l348, y348, z348] at X348
  obtain ⟨rfl, Nq348, e348⟩ := hQ348
  have N348 := Fr.app N0 Nq348
  refine own_of (U' := (T348.setTop (mkF m 7 #[.val (.ref b), .val (.int 0), .val (.ref a3), .val (.int 0), .val (.int p3), .unset, .unset] []))) (st348) ?_
  refine own_iconst X348 hx hby 0 d74_7 rfl ?_
  refine own_istore X348 hx hby d74_8 (l' := #[.val (.ref b), .val (.int 0), .val (.ref a3), .val (.int 0), .val (.int p3), .val (.int 0), .unset]) rfl ?_
  suffices key349 : ∀ (f : Nat) (T349 : State) (L349 : List Loc) (hq349 : Heap) (si : Int32) (di : Int32) (i : Int32) (x6 : Slot) (jj : Nat) (ds : List Int32), Stand p l e ({ frames := 3, cells := 0, slots := 0, locals := 43 } : Room) s m #[(.ref b), (.int 0), (.ref a3), (.int 0), (.int p3)] below meth c T349 L349 0 0 → T349.heap = hq349 → Fr n0 L349 → (n0 ≤ hq349.size) → (Arv Z hq349 b kb .byte z (List.map Value.int (own_u16 cs)) (.int 0)) → (Arv Z hq349 a3 kd .byte p3 (List.map Value.int ds) (.int 0)) → (Sta Z hq349 "java/lang/StringUTF16" "$assertionsDisabled" "Z" (.int 1)) → (Sta Z hq349 "java/lang/StringUTF16" "HI_BYTE_SHIFT" "I" (.int 0)) → (Sta Z hq349 "java/lang/StringUTF16" "LO_BYTE_SHIFT" "I" (.int 8)) → (Sta Z hq349 "jdk/internal/util/Preconditions" "SIOOBE_FORMATTER" "Ljava/util/function/BiFunction;" rS) → (Keep h0 hq349 [a3]) → (si.toInt = jj ∧ di.toInt = jj ∧ i.toInt = jj ∧ ds = List.map own_b8 (cs.take jj) ∧ jj + f = j ∧ own_lat (cs.take jj) ∧ (x6 = Slot.unset ∨ ∃ v : Int32, x6 = Slot.val (Value.int v))) → own_Ends p e below s FrameEnd (Qd0 Z a3 kd p3 (cs.take j) h0 n0) 0 0 (T349.setTop (mkF m 10 #[.val (.ref b), .val (.int si), .val (.ref a3), .val (.int di), .val (.int p3), .val (.int i), x6] [])) by
    exact key349 j _ _ _ _ _ _ _ 0 [] X348 e348 N348 Z0 Vb Vd SA SHI SLO SF KK ⟨own_i0, own_i0, own_i0, rfl, by omega, own_latnil, Or.inl rfl⟩
  intro f
  induction f using Nat.strongRecOn with
  | _ f ih349 =>
    intro T349 L349 hq349 si di i x6 jj ds X349 e349 N349 Z0 Vb Vd SA SHI SLO SF KK iv
    obtain ⟨hsi, hdi, hi, hds, hjf, hlt, hs_x6⟩ := iv
    refine own_iload X349 hx hby d74_10 rfl ?_
    refine own_iload X349 hx hby d74_12 rfl ?_
    by_cases hc14_350 : i < p3
    · skip
      refine own_icmpNo X349 hx hby d74_14 (tlt hc14_350).2.1 ?_
      have hji : jj < j := by have q := hc14_350; rw [own_ltI, hp, hi] at q; omega
      obtain ⟨g, rfl⟩ : ∃ g, f = g + 1 := ⟨f - 1, by omega⟩
      refine own_aloadN X349 hx hby d74_17 rfl rfl ?_
      refine own_iloadN X349 hx hby d74_18 rfl ?_
      obtain ⟨_, _, ⟨T351, L351, k351, n351⟩, -, X351, ⟨Lc351, hQ351, l351, y351, z351⟩, st351⟩ := Jvm.LawKit.callS X349 hx (y := mN_27) hown (oV hZ hw 255 rfl) (oV hZ hw 256 rfl) (oV hZ hw 27 rfl) (oV hZ hw 257 rfl) (by decide) (backOf (W := 0) (rmug l Z a0 hw [] b si kb z cs jj hq349 n0 Z0 Vb hsi (by omega) hcs (by omega) (by rw [hz]; exact Int.le_refl _) SA SHI SLO) hZ (own_w hw 257 rfl) (own_w hw 27 rfl) (by decide) (by decide)) (g := (mkF m 19 #[.val (.ref b), .val (.int si), .val (.ref a3), .val (.int di), .val (.int p3), .val (.int i), x6] [(.int si), (.ref b)])) rfl (by rw [hml]; rfl) (argsL := [(.ref b), (.int si)]) (rest := []) (lenOf pd_30 rfl) rfl (by exact oZ rfl) (hb hby d74_19) (fun _ _ => ⟨rfl, e349, (by decide : 0 + 0 ≤ _), (by decide : 0 + 0 ≤ _)⟩)
      dsimp only [Pt.U, Pt.locs, Pt.cells, Pt.slots] at X351 l351 y351 z351 st351 hQ351
      rw [l351, y351, z351] at X351
      obtain ⟨rfl, Nq351, e351⟩ := hQ351
      have N351 := Fr.app N349 Nq351
      refine own_of (U' := (T351.setTop (mkF m 22 #[.val (.ref b), .val (.int si), .val (.ref a3), .val (.int di), .val (.int p3), .val (.int i), x6] [(.int (cs.getD jj 0))]))) (st351) ?_
      refine own_istore X351 hx hby d74_22 (l' := #[.val (.ref b), .val (.int si), .val (.ref a3), .val (.int di), .val (.int p3), .val (.int i), .val (.int (cs.getD jj 0))]) (by rcases hs_x6 with q | ⟨_, q⟩ <;> (subst q; rfl)) ?_
      refine own_iload X351 hx hby d74_24 rfl ?_
      refine own_sipush X351 hx hby 255 d74_26 rfl ?_
      have hc29_352 : ¬ ((255 : Int32) < (cs.getD jj 0)) := own_latget hlat hji (by omega)
      refine own_icmpYes X351 hx hby 29 35 d74_29 (flt hc29_352).2.2.2 (by decide) (by decide) ?_
      have hdl : ds.length = jj := by rw [hds, List.length_map, List.length_take]; omega
      replace Vd := Arv.pad Vd (own_padk ds 1)
      replace Vd : Arv Z hq349 a3 kd .byte p3 (List.map Value.int (ds ++ (List.replicate (0 + 1) (0 : Int32) ++ []))) (.int 0) := by rw [List.append_nil]; exact Vd
      refine own_aloadN X351 hx hby d74_35 rfl rfl ?_
      refine own_iloadN X351 hx hby d74_36 rfl ?_
      refine own_iload X351 hx hby d74_37 rfl ?_
      refine own_i2b X351 hx hby d74_39 ?_
      obtain ⟨cl353, Ar353, qa353, Sa353, Na353, Ha353, Ga353⟩ := Vd
      have hin353 : ¬ (di < 0 ∨ cl353.slots.size ≤ (di).toNatClampNeg) := inb_of Sa353 ⟨own_ge0 (by omega), by rw [own_ltI, hp, hdi]; omega⟩
      obtain ⟨T353, h353, X353, e353, W353, st353⟩ := stB X351 hx hZ e351 Ar353 (j := di) hin353 (g := (mkF m 40 #[.val (.ref b), .val (.int si), .val (.ref a3), .val (.int di), .val (.int p3), .val (.int i), .val (.int (cs.getD jj 0))] [(.int ((cs.getD jj 0).toInt8.toInt32)), (.int di), (.ref a3)])) rfl rfl (hb hby d74_40)
      replace Vd : Arv Z h353 a3 kd .byte p3 (List.map Value.int (ds ++ (List.replicate 0 (0 : Int32) ++ own_b8 (cs.getD jj 0) :: []))) (.int 0) := by have q := Arv.set Ar353 qa353 Sa353 Na353 Ha353 Ga353 (fits_nar_byte _) W353 (ds.length + 0) (own_clamp (by rw [hdi, hdl]; rfl)) (by rw [List.length_map, List.length_append, List.length_append, List.length_replicate]; simp); rw [← List.map_set, own_setR] at q; exact q
      replace Z0 := nT Z0 (Keep.of_wr W353).1
      replace Vb := Vb.other W353 nea
      replace SA := SA.wr W353
      replace SHI := SHI.wr W353
      replace SLO := SLO.wr W353
      replace SF := SF.wr W353
      replace KK := KK.wr W353 (Or.inl (List.mem_of_getElem? (i := 0) rfl))
      have N353 := Fr.snoc X353 N351 g_a3
      refine own_of (U' := (T353.setTop (mkF m 41 #[.val (.ref b), .val (.int si), .val (.ref a3), .val (.int di), .val (.int p3), .val (.int i), .val (.int (cs.getD jj 0))] []))) (st353) ?_
      refine own_iinc X353 hx hby d74_41 rfl (l' := #[.val (.ref b), .val (.int (si + (1 : Int32))), .val (.ref a3), .val (.int di), .val (.int p3), .val (.int i), .val (.int (cs.getD jj 0))]) rfl ?_
      refine own_iinc X353 hx hby d74_44 rfl (l' := #[.val (.ref b), .val (.int (si + (1 : Int32))), .val (.ref a3), .val (.int (di + (1 : Int32))), .val (.int p3), .val (.int i), .val (.int (cs.getD jj 0))]) rfl ?_
      refine own_iinc X353 hx hby d74_47 rfl (l' := #[.val (.ref b), .val (.int (si + (1 : Int32))), .val (.ref a3), .val (.int (di + (1 : Int32))), .val (.int p3), .val (.int (i + (1 : Int32))), .val (.int (cs.getD jj 0))]) rfl ?_
      refine own_goto X353 hx hby 50 10 d74_50 (by decide) (by decide) ?_
      exact ih349 g (Nat.lt_succ_self g) _ _ _ _ _ _ _ (jj + 1) (ds ++ (List.replicate 0 (0 : Int32) ++ own_b8 (cs.getD jj 0) :: [])) X353 e353 N353 Z0 Vb Vd SA SHI SLO SF KK ⟨own_inc hsi (by omega), own_inc hdi (by omega), own_inc hi (by omega), by rw [hds]; exact own_take1b (by omega), by omega, own_lattk hlat (by omega), Or.inr ⟨_, rfl⟩⟩
    · skip
      refine own_icmpYes X349 hx hby 14 53 d74_14 (flt hc14_350).2.1 (by decide) (by decide) ?_
      refine own_iload X349 hx hby d74_53 rfl ?_
      exact own_retI X349 hx hlk hrt (hb hby d74_55) (by decide) (by decide) (by rw [e349]; exact ⟨rfl, N349, KK, (by rw [show List.map own_b8 (cs.take j) = ds from by rw [hds, show jj = j from (by have q := hc14_350; rw [own_ltI, hp, hi] at q; omega)]]; exact Vd)⟩)
theorem d74_32 : decode c_62 32 = .ok (.iload 5, 2) := by decide +kernel
theorem d74_34 : decode c_62 34 = .ok (.ireturn, 1) := by decide +kernel
theorem ef_cm1 (m : MethodId) (x0 : Addr) (x2 : Addr) (x4 : Int32) : entryFrame m #[(.ref x0), (.int 0), (.ref x2), (.int 0), (.int x4)] 7 = mkF m 0 #[.val (.ref x0), .val (.int 0), .val (.ref x2), .val (.int 0), .val (.int x4), .unset, .unset] [] := by first | (simp [entryFrame, mkF, argsToLocals, Value.category]; done) | rfl
def Qd1 (a3 : Addr) (j : Nat) (cs : List Int32) (h0 : Heap) (n0 : Nat) (v : Option Value) (h : Heap) (L : List Loc) : Prop := ∃ (r : Int32) (q : Nat), v = some (.int r) ∧ Fr n0 L ∧ Keep h0 h [a3] ∧ r.toInt = q ∧ q < j ∧ (255 : Int32) < cs.getD q 0
theorem rmcm1 (l : Launch) (Z : State) (a0 : Array Value) (hw : ∀ d ∈ tables_1, d.before a0 Z = true) (ws : List Jvm.Cond) (b a3 : Addr) (p3 : Int32) (kb kd : ClassId) (z : Int32) (cs : List Int32) (j : Nat) (rS : Value) (h0 : Heap) (n0 : Nat) (Z0 : n0 ≤ h0.size) (Vb : Arv Z h0 b kb .byte z (List.map Value.int (own_u16 cs)) (.int 0)) (hz : z.toInt = 2 * (cs.length : Int)) (Vd : Arv Z h0 a3 kd .byte p3 (List.map Value.int ([] : List Int32)) (.int 0)) (g_a3 : n0 ≤ a3) (nea : b ≠ a3) (hp : p3.toInt = j) (h1 : 1 ≤ j) (hjl : j < cs.length) (hjc : j ≤ 5) (hcs : own_chs cs) (hlen : cs.length ≤ 100) (hbig : ¬ own_lat (cs.take j)) (SA : Sta Z h0 "java/lang/StringUTF16" "$assertionsDisabled" "Z" (.int 1)) (SHI : Sta Z h0 "java/lang/StringUTF16" "HI_BYTE_SHIFT" "I" (.int 0)) (SLO : Sta Z h0 "java/lang/StringUTF16" "LO_BYTE_SHIFT" "I" (.int 8)) (SF : Sta Z h0 "jdk/internal/util/Preconditions" "SIOOBE_FORMATTER" "Ljava/util/function/BiFunction;" rS) (hrS : rS.isRef = true) : own_M l mN_62 jdk_52_method_22_code 7 (some .int) ws ({ frames := 3, cells := 0, slots := 0, locals := 43 } : Room) Z h0 #[(.ref b), (.int 0), (.ref a3), (.int 0), (.int p3)] (Qd1 a3 j cs h0 n0) := by
  refine own_go #[.val (.ref b), .val (.int 0), .val (.ref a3), .val (.int 0), .val (.int p3), .unset, .unset] (plainFor_of_name pn_5) (fun m => ef_cm1 m b a3 p3) ?_
  intro p e s m below meth c s₁ hx hby hml hown hnm hlk X0 e0 hZ hrt
  have N0 := Fr.nil n0
  have KK := Keep.refl h0 [a3]
  refine own_iloadN X0 hx hby d74_0 rfl ?_
  refine own_iload X0 hx hby d74_1 rfl ?_
  refine own_aloadN X0 hx hby d74_3 rfl rfl ?_
  obtain ⟨_, _, ⟨T354, L354, k354, n354⟩, -, X354, ⟨Lc354, hQ354, l354, y354, z354⟩, st354⟩ := Jvm.LawKit.callS X0 hx (y := mN_19) hown (oV hZ hw 270 rfl) (oV hZ hw 271 rfl) (oV hZ hw 27 rfl) (oV hZ hw 272 rfl) (by decide) (backOf (W := 0) (rmuo l Z a0 hw [] (0 : Int32) p3 b kb z (own_u16 cs) rS h0 n0 Z0 Vb (by rw [own_ltI, own_i0]; have r1 := rng32 z; have q1 := own_half z; have q2 := c_orS (z >>> ((1 : Int32) &&& 31)) (0 : Int32); have q3 := c_orS ((z >>> ((1 : Int32) &&& 31)) ||| (0 : Int32)) p3; rw [own_i0] at q2; omega) (by have q1 := own_half z; rw [own_ltI, own_sub0]; omega) SF hrS) hZ (own_w hw 272 rfl) (own_w hw 27 rfl) (by decide) (by decide)) (g := (mkF m 4 #[.val (.ref b), .val (.int 0), .val (.ref a3), .val (.int 0), .val (.int p3), .unset, .unset] [(.ref b), (.int p3), (.int 0)])) rfl (by rw [hml]; rfl) (argsL := [(.int 0), (.int p3), (.ref b)]) (rest := []) (lenOf pd_11 rfl) rfl (by exact oZ rfl) (hb hby d74_4) (fun _ _ => ⟨rfl, e0, (by decide : 0 + 0 ≤ _), (by decide : 0 + 0 ≤ _)⟩)
  dsimp only [Pt.U, Pt.locs, Pt.cells, Pt.slots] at X354 l354 y354 z354 st354 hQ354
  rw [l354, y354, z354] at X354
  obtain ⟨rfl, Nq354, e354⟩ := hQ354
  have N354 := Fr.app N0 Nq354
  refine own_of (U' := (T354.setTop (mkF m 7 #[.val (.ref b), .val (.int 0), .val (.ref a3), .val (.int 0), .val (.int p3), .unset, .unset] []))) (st354) ?_
  refine own_iconst X354 hx hby 0 d74_7 rfl ?_
  refine own_istore X354 hx hby d74_8 (l' := #[.val (.ref b), .val (.int 0), .val (.ref a3), .val (.int 0), .val (.int p3), .val (.int 0), .unset]) rfl ?_
  suffices key355 : ∀ (f : Nat) (T355 : State) (L355 : List Loc) (hq355 : Heap) (si : Int32) (di : Int32) (i : Int32) (x6 : Slot) (jj : Nat) (ds : List Int32), Stand p l e ({ frames := 3, cells := 0, slots := 0, locals := 43 } : Room) s m #[(.ref b), (.int 0), (.ref a3), (.int 0), (.int p3)] below meth c T355 L355 0 0 → T355.heap = hq355 → Fr n0 L355 → (n0 ≤ hq355.size) → (Arv Z hq355 b kb .byte z (List.map Value.int (own_u16 cs)) (.int 0)) → (Arv Z hq355 a3 kd .byte p3 (List.map Value.int ds) (.int 0)) → (Sta Z hq355 "java/lang/StringUTF16" "$assertionsDisabled" "Z" (.int 1)) → (Sta Z hq355 "java/lang/StringUTF16" "HI_BYTE_SHIFT" "I" (.int 0)) → (Sta Z hq355 "java/lang/StringUTF16" "LO_BYTE_SHIFT" "I" (.int 8)) → (Sta Z hq355 "jdk/internal/util/Preconditions" "SIOOBE_FORMATTER" "Ljava/util/function/BiFunction;" rS) → (Keep h0 hq355 [a3]) → (si.toInt = jj ∧ di.toInt = jj ∧ i.toInt = jj ∧ ds = List.map own_b8 (cs.take jj) ∧ jj + f = j ∧ own_lat (cs.take jj) ∧ (x6 = Slot.unset ∨ ∃ v : Int32, x6 = Slot.val (Value.int v))) → own_Ends p e below s FrameEnd (Qd1 a3 j cs h0 n0) 0 0 (T355.setTop (mkF m 10 #[.val (.ref b), .val (.int si), .val (.ref a3), .val (.int di), .val (.int p3), .val (.int i), x6] [])) by
    exact key355 j _ _ _ _ _ _ _ 0 [] X354 e354 N354 Z0 Vb Vd SA SHI SLO SF KK ⟨own_i0, own_i0, own_i0, rfl, by omega, own_latnil, Or.inl rfl⟩
  intro f
  induction f using Nat.strongRecOn with
  | _ f ih355 =>
    intro T355 L355 hq355 si di i x6 jj ds X355 e355 N355 Z0 Vb Vd SA SHI SLO SF KK iv
    obtain ⟨hsi, hdi, hi, hds, hjf, hlt, hs_x6⟩ := iv
    refine own_iload X355 hx hby d74_10 rfl ?_
    refine own_iload X355 hx hby d74_12 rfl ?_
    by_cases hc14_356 : i < p3
    · skip
      refine own_icmpNo X355 hx hby d74_14 (tlt hc14_356).2.1 ?_
      have hji : jj < j := by have q := hc14_356; rw [own_ltI, hp, hi] at q; omega
      obtain ⟨g, rfl⟩ : ∃ g, f = g + 1 := ⟨f - 1, by omega⟩
      refine own_aloadN X355 hx hby d74_17 rfl rfl ?_
      refine own_iloadN X355 hx hby d74_18 rfl ?_
      obtain ⟨_, _, ⟨T357, L357, k357, n357⟩, -, X357, ⟨Lc357, hQ357, l357, y357, z357⟩, st357⟩ := Jvm.LawKit.callS X355 hx (y := mN_27) hown (oV hZ hw 255 rfl) (oV hZ hw 256 rfl) (oV hZ hw 27 rfl) (oV hZ hw 257 rfl) (by decide) (backOf (W := 0) (rmug l Z a0 hw [] b si kb z cs jj hq355 n0 Z0 Vb hsi (by omega) hcs (by omega) (by rw [hz]; exact Int.le_refl _) SA SHI SLO) hZ (own_w hw 257 rfl) (own_w hw 27 rfl) (by decide) (by decide)) (g := (mkF m 19 #[.val (.ref b), .val (.int si), .val (.ref a3), .val (.int di), .val (.int p3), .val (.int i), x6] [(.int si), (.ref b)])) rfl (by rw [hml]; rfl) (argsL := [(.ref b), (.int si)]) (rest := []) (lenOf pd_30 rfl) rfl (by exact oZ rfl) (hb hby d74_19) (fun _ _ => ⟨rfl, e355, (by decide : 0 + 0 ≤ _), (by decide : 0 + 0 ≤ _)⟩)
      dsimp only [Pt.U, Pt.locs, Pt.cells, Pt.slots] at X357 l357 y357 z357 st357 hQ357
      rw [l357, y357, z357] at X357
      obtain ⟨rfl, Nq357, e357⟩ := hQ357
      have N357 := Fr.app N355 Nq357
      refine own_of (U' := (T357.setTop (mkF m 22 #[.val (.ref b), .val (.int si), .val (.ref a3), .val (.int di), .val (.int p3), .val (.int i), x6] [(.int (cs.getD jj 0))]))) (st357) ?_
      refine own_istore X357 hx hby d74_22 (l' := #[.val (.ref b), .val (.int si), .val (.ref a3), .val (.int di), .val (.int p3), .val (.int i), .val (.int (cs.getD jj 0))]) (by rcases hs_x6 with q | ⟨_, q⟩ <;> (subst q; rfl)) ?_
      refine own_iload X357 hx hby d74_24 rfl ?_
      refine own_sipush X357 hx hby 255 d74_26 rfl ?_
      by_cases hc29_358 : (255 : Int32) < (cs.getD jj 0)
      · skip
        refine own_icmpNo X357 hx hby d74_29 (tlt hc29_358).2.2.2 ?_
        refine own_iload X357 hx hby d74_32 rfl ?_
        exact own_retI X357 hx hlk hrt (hb hby d74_34) (by decide) (by decide) (by rw [e357]; exact ⟨i, jj, rfl, N357, KK, hi, hji, hc29_358⟩)
      · skip
        refine own_icmpYes X357 hx hby 29 35 d74_29 (flt hc29_358).2.2.2 (by decide) (by decide) ?_
        have hdl : ds.length = jj := by rw [hds, List.length_map, List.length_take]; omega
        replace Vd := Arv.pad Vd (own_padk ds 1)
        replace Vd : Arv Z hq355 a3 kd .byte p3 (List.map Value.int (ds ++ (List.replicate (0 + 1) (0 : Int32) ++ []))) (.int 0) := by rw [List.append_nil]; exact Vd
        refine own_aloadN X357 hx hby d74_35 rfl rfl ?_
        refine own_iloadN X357 hx hby d74_36 rfl ?_
        refine own_iload X357 hx hby d74_37 rfl ?_
        refine own_i2b X357 hx hby d74_39 ?_
        obtain ⟨cl359, Ar359, qa359, Sa359, Na359, Ha359, Ga359⟩ := Vd
        have hin359 : ¬ (di < 0 ∨ cl359.slots.size ≤ (di).toNatClampNeg) := inb_of Sa359 ⟨own_ge0 (by omega), by rw [own_ltI, hp, hdi]; omega⟩
        obtain ⟨T359, h359, X359, e359, W359, st359⟩ := stB X357 hx hZ e357 Ar359 (j := di) hin359 (g := (mkF m 40 #[.val (.ref b), .val (.int si), .val (.ref a3), .val (.int di), .val (.int p3), .val (.int i), .val (.int (cs.getD jj 0))] [(.int ((cs.getD jj 0).toInt8.toInt32)), (.int di), (.ref a3)])) rfl rfl (hb hby d74_40)
        replace Vd : Arv Z h359 a3 kd .byte p3 (List.map Value.int (ds ++ (List.replicate 0 (0 : Int32) ++ own_b8 (cs.getD jj 0) :: []))) (.int 0) := by have q := Arv.set Ar359 qa359 Sa359 Na359 Ha359 Ga359 (fits_nar_byte _) W359 (ds.length + 0) (own_clamp (by rw [hdi, hdl]; rfl)) (by rw [List.length_map, List.length_append, List.length_append, List.length_replicate]; simp); rw [← List.map_set, own_setR] at q; exact q
        replace Z0 := nT Z0 (Keep.of_wr W359).1
        replace Vb := Vb.other W359 nea
        replace SA := SA.wr W359
        replace SHI := SHI.wr W359
        replace SLO := SLO.wr W359
        replace SF := SF.wr W359
        replace KK := KK.wr W359 (Or.inl (List.mem_of_getElem? (i := 0) rfl))
        have N359 := Fr.snoc X359 N357 g_a3
        refine own_of (U' := (T359.setTop (mkF m 41 #[.val (.ref b), .val (.int si), .val (.ref a3), .val (.int di), .val (.int p3), .val (.int i), .val (.int (cs.getD jj 0))] []))) (st359) ?_
        refine own_iinc X359 hx hby d74_41 rfl (l' := #[.val (.ref b), .val (.int (si + (1 : Int32))), .val (.ref a3), .val (.int di), .val (.int p3), .val (.int i), .val (.int (cs.getD jj 0))]) rfl ?_
        refine own_iinc X359 hx hby d74_44 rfl (l' := #[.val (.ref b), .val (.int (si + (1 : Int32))), .val (.ref a3), .val (.int (di + (1 : Int32))), .val (.int p3), .val (.int i), .val (.int (cs.getD jj 0))]) rfl ?_
        refine own_iinc X359 hx hby d74_47 rfl (l' := #[.val (.ref b), .val (.int (si + (1 : Int32))), .val (.ref a3), .val (.int (di + (1 : Int32))), .val (.int p3), .val (.int (i + (1 : Int32))), .val (.int (cs.getD jj 0))]) rfl ?_
        refine own_goto X359 hx hby 50 10 d74_50 (by decide) (by decide) ?_
        exact ih355 g (Nat.lt_succ_self g) _ _ _ _ _ _ _ (jj + 1) (ds ++ (List.replicate 0 (0 : Int32) ++ own_b8 (cs.getD jj 0) :: [])) X359 e359 N359 Z0 Vb Vd SA SHI SLO SF KK ⟨own_inc hsi (by omega), own_inc hdi (by omega), own_inc hi (by omega), by rw [hds]; exact own_take1b (by omega), by omega, own_latsnoc (by omega) hlt hc29_358, Or.inr ⟨_, rfl⟩⟩
    · exact absurd (show own_lat (cs.take j) from by rw [show j = jj from by have q := hc14_356; rw [own_ltI, hp, hi] at q; omega]; exact hlt) hbig
abbrev mN_63 : MethodName := ⟨"java/lang/StringUTF16", "compress", "([BII)[B"⟩
theorem pd_37 : parseMethodDescriptor "([BI[BII)I" = some ⟨[(.array .byte), .int, (.array .byte), .int, .int], some .int⟩ := by decide +kernel
theorem d73_0 : decode c_63 0 = .ok (.iload_n 2, 1) := by decide +kernel
theorem d73_1 : decode c_63 1 = .ok (.newarray .byte, 2) := by decide +kernel
theorem d73_3 : decode c_63 3 = .ok (.astore_n 3, 1) := by decide +kernel
theorem d73_4 : decode c_63 4 = .ok (.aload_n 0, 1) := by decide +kernel
theorem d73_5 : decode c_63 5 = .ok (.iload_n 1, 1) := by decide +kernel
theorem d73_6 : decode c_63 6 = .ok (.aload_n 3, 1) := by decide +kernel
theorem d73_7 : decode c_63 7 = .ok (.iconst 0, 1) := by decide +kernel
theorem d73_8 : decode c_63 8 = .ok (.iload_n 2, 1) := by decide +kernel
theorem d73_9 : decode c_63 9 = .ok (.invokestatic 123, 3) := by decide +kernel
theorem d73_12 : decode c_63 12 = .ok (.istore 4, 2) := by decide +kernel
theorem d73_14 : decode c_63 14 = .ok (.iload 4, 2) := by decide +kernel
theorem d73_16 : decode c_63 16 = .ok (.iload_n 2, 1) := by decide +kernel
theorem d73_17 : decode c_63 17 = .ok (.if_icmp .eq 47, 3) := by decide +kernel
theorem d73_64 : decode c_63 64 = .ok (.aload_n 3, 1) := by decide +kernel
theorem d73_65 : decode c_63 65 = .ok (.areturn, 1) := by decide +kernel
theorem ef_ce_0 (m : MethodId) (x0 : Addr) (x2 : Int32) : entryFrame m #[(.ref x0), (.int 0), (.int x2)] 6 = mkF m 0 #[.val (.ref x0), .val (.int 0), .val (.int x2), .unset, .unset, .unset] [] := by first | (simp [entryFrame, mkF, argsToLocals, Value.category]; done) | rfl
def Qe0 (Z : State) (p3 : Int32) (bs : List Int32) (h0 : Heap) (n0 : Nat) (v : Option Value) (h : Heap) (L : List Loc) : Prop := ∃ (u : Addr) (ku : ClassId), v = some (.ref u) ∧ Fr n0 L ∧ Keep h0 h [] ∧ h0.size ≤ u ∧ Arv Z h u ku .byte p3 (List.map Value.int bs) (.int 0)
theorem rmce_0 (l : Launch) (Z : State) (a0 : Array Value) (hw : ∀ d ∈ tables_1, d.before a0 Z = true) (ws : List Jvm.Cond) (b : Addr) (p3 : Int32) (kb : ClassId) (z : Int32) (cs : List Int32) (j : Nat) (rS : Value) (h0 : Heap) (n0 : Nat) (Z0 : n0 ≤ h0.size) (Vb : Arv Z h0 b kb .byte z (List.map Value.int (own_u16 cs)) (.int 0)) (hz : z.toInt = 2 * (cs.length : Int)) (hp : p3.toInt = j) (h1 : 1 ≤ j) (hjl : j < cs.length) (hjc : j ≤ 5) (hcs : own_chs cs) (hlen : cs.length ≤ 100) (hlat : own_lat (cs.take j)) (SA : Sta Z h0 "java/lang/StringUTF16" "$assertionsDisabled" "Z" (.int 1)) (SHI : Sta Z h0 "java/lang/StringUTF16" "HI_BYTE_SHIFT" "I" (.int 0)) (SLO : Sta Z h0 "java/lang/StringUTF16" "LO_BYTE_SHIFT" "I" (.int 8)) (SF : Sta Z h0 "jdk/internal/util/Preconditions" "SIOOBE_FORMATTER" "Ljava/util/function/BiFunction;" rS) (hrS : rS.isRef = true) : own_M l mN_63 jdk_52_method_17_code 6 (some (.array .byte)) ws ({ frames := 4, cells := 1, slots := 5, locals := 61 } : Room) Z h0 #[(.ref b), (.int 0), (.int p3)] (Qe0 Z p3 (List.map own_b8 (cs.take j)) h0 n0) := by
  refine own_go #[.val (.ref b), .val (.int 0), .val (.int p3), .unset, .unset, .unset] (plainFor_of_name pn_5) (fun m => ef_ce_0 m b p3) ?_
  intro p e s m below meth c s₁ hx hby hml hown hnm hlk X0 e0 hZ hrt
  have N0 := Fr.nil n0
  have KK := Keep.refl h0 []
  refine own_iloadN X0 hx hby d73_0 rfl ?_
  obtain ⟨T360, h360, k360, X360, e360, E360, A360, st360⟩ := newP X0 hx hZ (own_w hw 29 rfl) e0 (g := (mkF m 1 #[.val (.ref b), .val (.int 0), .val (.int p3), .unset, .unset, .unset] [(.int p3)])) rfl (hb hby d73_1) rfl (own_ge0 (by omega)) (cap := 5) (own_Nle (by omega)) (by decide) (by decide) (by decide)
  obtain ⟨b360, gz360⟩ : ∃ z, z = h0.size := ⟨_, rfl⟩
  rw [← gz360] at A360 st360
  have g_b360 : n0 ≤ b360 := nT Z0 (nE gz360.symm)
  have sz_b360 : h0.size ≤ b360 := nT KK.1 (nE gz360.symm)
  have ne_b_b360 : b ≠ b360 := Nat.ne_of_lt (Nat.lt_of_lt_of_le Vb.lt (nE gz360.symm))
  replace Z0 := nT Z0 E360.1
  replace Vb := Vb.ext E360
  replace SA := SA.ext E360
  replace SHI := SHI.ext E360
  replace SLO := SLO.ext E360
  replace SF := SF.ext E360
  replace KK := KK.ext E360
  have V360 : Arv Z h360 b360 k360 .byte p3 (List.map Value.int ([] : List Int32)) (.int 0) := Arv.new A360 (own_ge0 (by omega))
  refine own_of (U' := (T360.setTop (mkF m 3 #[.val (.ref b), .val (.int 0), .val (.int p3), .unset, .unset, .unset] [(.ref b360)]))) (st360) ?_
  refine own_astoreN X360 hx hby d73_3 rfl (l' := #[.val (.ref b), .val (.int 0), .val (.int p3), .val (.ref b360), .unset, .unset]) rfl ?_
  refine own_aloadN X360 hx hby d73_4 rfl rfl ?_
  refine own_iloadN X360 hx hby d73_5 rfl ?_
  refine own_aloadN X360 hx hby d73_6 rfl rfl ?_
  refine own_iconst X360 hx hby 0 d73_7 rfl ?_
  refine own_iloadN X360 hx hby d73_8 rfl ?_
  obtain ⟨_, _, ⟨T361, L361, k361, n361⟩, -, X361, ⟨Lc361, hQ361, l361, y361, z361⟩, st361⟩ := Jvm.LawKit.callS X360 hx (y := mN_62) hown (oV hZ hw 320 rfl) (oV hZ hw 321 rfl) (oV hZ hw 27 rfl) (oV hZ hw 322 rfl) (by decide) (backOf (W := 0) (rmcm0 l Z a0 hw [] b b360 p3 kb k360 z cs j rS h360 n0 Z0 Vb hz V360 g_b360 ne_b_b360 hp h1 hjl hjc hcs hlen hlat SA SHI SLO SF hrS) hZ (own_w hw 322 rfl) (own_w hw 27 rfl) (by decide) (by decide)) (g := (mkF m 9 #[.val (.ref b), .val (.int 0), .val (.int p3), .val (.ref b360), .unset, .unset] [(.int p3), (.int 0), (.ref b360), (.int 0), (.ref b)])) rfl (by rw [hml]; rfl) (argsL := [(.ref b), (.int 0), (.ref b360), (.int 0), (.int p3)]) (rest := []) (lenOf pd_37 rfl) rfl (by exact oZ rfl) (hb hby d73_9) (fun _ _ => ⟨rfl, e360, (by decide : 1 + 0 ≤ _), (by decide : 5 + 0 ≤ _)⟩)
  dsimp only [Pt.U, Pt.locs, Pt.cells, Pt.slots] at X361 l361 y361 z361 st361 hQ361
  rw [l361, y361, z361] at X361
  obtain ⟨rfl, Nq361, Kp361, Vq361⟩ := hQ361
  have N361 := Fr.app N0 Nq361
  have nst_b360 := V360.nostat
  replace Z0 := nT Z0 Kp361.1
  replace Vb := Vb.keep Kp361 (ninS ne_b_b360 nin0)
  replace SA := own_staKeep SA Kp361 (nsS nst_b360 ns0)
  replace SHI := own_staKeep SHI Kp361 (nsS nst_b360 ns0)
  replace SLO := own_staKeep SLO Kp361 (nsS nst_b360 ns0)
  replace SF := own_staKeep SF Kp361 (nsS nst_b360 ns0)
  replace KK := KK.trans Kp361 (allS (Or.inr sz_b360) all0)
  refine own_of (U' := (T361.setTop (mkF m 12 #[.val (.ref b), .val (.int 0), .val (.int p3), .val (.ref b360), .unset, .unset] [(.int p3)]))) (st361) ?_
  refine own_istore X361 hx hby d73_12 (l' := #[.val (.ref b), .val (.int 0), .val (.int p3), .val (.ref b360), .val (.int p3), .unset]) rfl ?_
  refine own_iload X361 hx hby d73_14 rfl ?_
  refine own_iloadN X361 hx hby d73_16 rfl ?_
  have hc17_362 : p3 = p3 := rfl
  refine own_icmpYes X361 hx hby 17 64 d73_17 (teq hc17_362).1 (by decide) (by decide) ?_
  refine own_aloadN X361 hx hby d73_64 rfl rfl ?_
  exact own_retA X361 hx hlk hrt rfl rfl (hb hby d73_65) (by decide) (by decide) (⟨b360, k360, rfl, N361, KK, sz_b360, Vq361⟩)
theorem d73_20 : decode c_63 20 = .ok (.aload_n 0, 1) := by decide +kernel
theorem d73_21 : decode c_63 21 = .ok (.iload_n 1, 1) := by decide +kernel
theorem d73_22 : decode c_63 22 = .ok (.iconst 1, 1) := by decide +kernel
theorem d73_23 : decode c_63 23 = .ok (.ishl, 1) := by decide +kernel
theorem d73_24 : decode c_63 24 = .ok (.iload_n 1, 1) := by decide +kernel
theorem d73_25 : decode c_63 25 = .ok (.iload_n 2, 1) := by decide +kernel
theorem d73_26 : decode c_63 26 = .ok (.iadd, 1) := by decide +kernel
theorem d73_27 : decode c_63 27 = .ok (.invokestatic 11, 3) := by decide +kernel
theorem d73_30 : decode c_63 30 = .ok (.invokestatic 126, 3) := by decide +kernel
theorem d73_33 : decode c_63 33 = .ok (.astore 5, 2) := by decide +kernel
theorem d73_35 : decode c_63 35 = .ok (.aload 5, 2) := by decide +kernel
theorem d73_37 : decode c_63 37 = .ok (.iload 4, 2) := by decide +kernel
theorem d73_39 : decode c_63 39 = .ok (.invokestatic 71, 3) := by decide +kernel
theorem d73_42 : decode c_63 42 = .ok (.sipush 255, 3) := by decide +kernel
theorem d73_45 : decode c_63 45 = .ok (.if_icmp .gt 16, 3) := by decide +kernel
theorem d73_61 : decode c_63 61 = .ok (.aload 5, 2) := by decide +kernel
theorem d73_63 : decode c_63 63 = .ok (.areturn, 1) := by decide +kernel
theorem ef_ce_1 (m : MethodId) (x0 : Addr) (x2 : Int32) : entryFrame m #[(.ref x0), (.int 0), (.int x2)] 6 = mkF m 0 #[.val (.ref x0), .val (.int 0), .val (.int x2), .unset, .unset, .unset] [] := by first | (simp [entryFrame, mkF, argsToLocals, Value.category]; done) | rfl
theorem rmce_1 (l : Launch) (Z : State) (a0 : Array Value) (hw : ∀ d ∈ tables_1, d.before a0 Z = true) (ws : List Jvm.Cond) (b : Addr) (p3 : Int32) (kb : ClassId) (z : Int32) (cs : List Int32) (j : Nat) (rS : Value) (h0 : Heap) (n0 : Nat) (Z0 : n0 ≤ h0.size) (Vb : Arv Z h0 b kb .byte z (List.map Value.int (own_u16 cs)) (.int 0)) (hz : z.toInt = 2 * (cs.length : Int)) (hp : p3.toInt = j) (h1 : 1 ≤ j) (hjl : j < cs.length) (hjc : j ≤ 5) (hcs : own_chs cs) (hlen : cs.length ≤ 100) (hbig : ¬ own_lat (cs.take j)) (SA : Sta Z h0 "java/lang/StringUTF16" "$assertionsDisabled" "Z" (.int 1)) (SHI : Sta Z h0 "java/lang/StringUTF16" "HI_BYTE_SHIFT" "I" (.int 0)) (SLO : Sta Z h0 "java/lang/StringUTF16" "LO_BYTE_SHIFT" "I" (.int 8)) (SF : Sta Z h0 "jdk/internal/util/Preconditions" "SIOOBE_FORMATTER" "Ljava/util/function/BiFunction;" rS) (hrS : rS.isRef = true) : own_M l mN_63 jdk_52_method_17_code 6 (some (.array .byte)) ws ({ frames := 4, cells := 2, slots := 27, locals := 61 } : Room) Z h0 #[(.ref b), (.int 0), (.int p3)] (Qe0 Z (p3 <<< ((1 : Int32) &&& 31)) (own_u16 (cs.take j)) h0 n0) := by
  refine own_go #[.val (.ref b), .val (.int 0), .val (.int p3), .unset, .unset, .unset] (plainFor_of_name pn_5) (fun m => ef_ce_1 m b p3) ?_
  intro p e s m below meth c s₁ hx hby hml hown hnm hlk X0 e0 hZ hrt
  have N0 := Fr.nil n0
  have KK := Keep.refl h0 []
  refine own_iloadN X0 hx hby d73_0 rfl ?_
  obtain ⟨T363, h363, k363, X363, e363, E363, A363, st363⟩ := newP X0 hx hZ (own_w hw 29 rfl) e0 (g := (mkF m 1 #[.val (.ref b), .val (.int 0), .val (.int p3), .unset, .unset, .unset] [(.int p3)])) rfl (hb hby d73_1) rfl (own_ge0 (by omega)) (cap := 5) (own_Nle (by omega)) (by decide) (by decide) (by decide)
  obtain ⟨b363, gz363⟩ : ∃ z, z = h0.size := ⟨_, rfl⟩
  rw [← gz363] at A363 st363
  have g_b363 : n0 ≤ b363 := nT Z0 (nE gz363.symm)
  have sz_b363 : h0.size ≤ b363 := nT KK.1 (nE gz363.symm)
  have ne_b_b363 : b ≠ b363 := Nat.ne_of_lt (Nat.lt_of_lt_of_le Vb.lt (nE gz363.symm))
  replace Z0 := nT Z0 E363.1
  replace Vb := Vb.ext E363
  replace SA := SA.ext E363
  replace SHI := SHI.ext E363
  replace SLO := SLO.ext E363
  replace SF := SF.ext E363
  replace KK := KK.ext E363
  have V363 : Arv Z h363 b363 k363 .byte p3 (List.map Value.int ([] : List Int32)) (.int 0) := Arv.new A363 (own_ge0 (by omega))
  refine own_of (U' := (T363.setTop (mkF m 3 #[.val (.ref b), .val (.int 0), .val (.int p3), .unset, .unset, .unset] [(.ref b363)]))) (st363) ?_
  refine own_astoreN X363 hx hby d73_3 rfl (l' := #[.val (.ref b), .val (.int 0), .val (.int p3), .val (.ref b363), .unset, .unset]) rfl ?_
  refine own_aloadN X363 hx hby d73_4 rfl rfl ?_
  refine own_iloadN X363 hx hby d73_5 rfl ?_
  refine own_aloadN X363 hx hby d73_6 rfl rfl ?_
  refine own_iconst X363 hx hby 0 d73_7 rfl ?_
  refine own_iloadN X363 hx hby d73_8 rfl ?_
  obtain ⟨_, _, ⟨T364, L364, k364, n364⟩, -, X364, ⟨Lc364, hQ364, l364, y364, z364⟩, st364⟩ := Jvm.LawKit.callS X363 hx (y := mN_62) hown (oV hZ hw 320 rfl) (oV hZ hw 321 rfl) (oV hZ hw 27 rfl) (oV hZ hw 322 rfl) (by decide) (backOf (W := 0) (rmcm1 l Z a0 hw [] b b363 p3 kb k363 z cs j rS h363 n0 Z0 Vb hz V363 g_b363 ne_b_b363 hp h1 hjl hjc hcs hlen hbig SA SHI SLO SF hrS) hZ (own_w hw 322 rfl) (own_w hw 27 rfl) (by decide) (by decide)) (g := (mkF m 9 #[.val (.ref b), .val (.int 0), .val (.int p3), .val (.ref b363), .unset, .unset] [(.int p3), (.int 0), (.ref b363), (.int 0), (.ref b)])) rfl (by rw [hml]; rfl) (argsL := [(.ref b), (.int 0), (.ref b363), (.int 0), (.int p3)]) (rest := []) (lenOf pd_37 rfl) rfl (by exact oZ rfl) (hb hby d73_9) (fun _ _ => ⟨rfl, e363, (by decide : 1 + 0 ≤ _), (by decide : 5 + 0 ≤ _)⟩)
  dsimp only [Pt.U, Pt.locs, Pt.cells, Pt.slots] at X364 l364 y364 z364 st364 hQ364
  rw [l364, y364, z364] at X364
  obtain ⟨r364, j364, rfl, Nq364, Kp364, hj364, jl364, bg364⟩ := hQ364
  have N364 := Fr.app N0 Nq364
  have nst_b363 := V363.nostat
  replace Z0 := nT Z0 Kp364.1
  replace Vb := Vb.keep Kp364 (ninS ne_b_b363 nin0)
  replace SA := own_staKeep SA Kp364 (nsS nst_b363 ns0)
  replace SHI := own_staKeep SHI Kp364 (nsS nst_b363 ns0)
  replace SLO := own_staKeep SLO Kp364 (nsS nst_b363 ns0)
  replace SF := own_staKeep SF Kp364 (nsS nst_b363 ns0)
  replace KK := KK.trans Kp364 (allS (Or.inr sz_b363) all0)
  refine own_of (U' := (T364.setTop (mkF m 12 #[.val (.ref b), .val (.int 0), .val (.int p3), .val (.ref b363), .unset, .unset] [(.int r364)]))) (st364) ?_
  refine own_istore X364 hx hby d73_12 (l' := #[.val (.ref b), .val (.int 0), .val (.int p3), .val (.ref b363), .val (.int r364), .unset]) rfl ?_
  refine own_iload X364 hx hby d73_14 rfl ?_
  refine own_iloadN X364 hx hby d73_16 rfl ?_
  have hc17_365 : ¬ (r364 = p3) := fun q => by rw [q, hp] at hj364; omega
  refine own_icmpNo X364 hx hby d73_17 (feq hc17_365).1 ?_
  refine own_aloadN X364 hx hby d73_20 rfl rfl ?_
  refine own_iloadN X364 hx hby d73_21 rfl ?_
  refine own_iconst X364 hx hby 1 d73_22 rfl ?_
  refine own_ishl X364 hx hby d73_23 ?_
  refine own_eq (U' := (T364.setTop (mkF m 24 #[.val (.ref b), .val (.int 0), .val (.int p3), .val (.ref b363), .val (.int r364), .unset] [(.int 0), (.ref b)]))) (by rw [show ((0 : Int32) <<< ((1 : Int32) &&& 31)) = (0 : Int32) by decide]) ?_
  refine own_iloadN X364 hx hby d73_24 rfl ?_
  refine own_iloadN X364 hx hby d73_25 rfl ?_
  refine own_iadd X364 hx hby d73_26 ?_
  refine own_eq (U' := (T364.setTop (mkF m 27 #[.val (.ref b), .val (.int 0), .val (.int p3), .val (.ref b363), .val (.int r364), .unset] [(.int p3), (.int 0), (.ref b)]))) (by rw [show ((0 : Int32) + p3) = p3 from own_add0 p3]) ?_
  obtain ⟨_, _, ⟨T366, L366, k366, n366⟩, -, X366, ⟨Lc366, hQ366, l366, y366, z366⟩, st366⟩ := Jvm.LawKit.callS X364 hx (y := mN_23) hown (oV hZ hw 245 rfl) (oV hZ hw 246 rfl) (oV hZ hw 27 rfl) (oV hZ hw 247 rfl) (by decide) (backOf (W := 2) (rmnl l Z a0 hw [] p3 T364.heap n0 Z0 (by omega) (by omega)) hZ (own_w hw 247 rfl) (own_w hw 27 rfl) (by decide) (by decide)) (g := (mkF m 27 #[.val (.ref b), .val (.int 0), .val (.int p3), .val (.ref b363), .val (.int r364), .unset] [(.int p3), (.int 0), (.ref b)])) rfl (by rw [hml]; rfl) (argsL := [(.int p3)]) (rest := [(.int 0), (.ref b)]) (lenOf pd_8 rfl) rfl (by exact oZ rfl) (hb hby d73_27) (fun _ _ => ⟨rfl, rfl, (by decide : 1 + 0 ≤ _), (by decide : 5 + 0 ≤ _)⟩)
  dsimp only [Pt.U, Pt.locs, Pt.cells, Pt.slots] at X366 l366 y366 z366 st366 hQ366
  rw [l366, y366, z366] at X366
  obtain ⟨rfl, Nq366, e366⟩ := hQ366
  have N366 := Fr.app N364 Nq366
  refine own_of (U' := (T366.setTop (mkF m 30 #[.val (.ref b), .val (.int 0), .val (.int p3), .val (.ref b363), .val (.int r364), .unset] [(.int (p3 <<< ((1 : Int32) &&& 31))), (.int 0), (.ref b)]))) (st366) ?_
  obtain ⟨_, _, ⟨T367, L367, k367, n367⟩, -, X367, ⟨Lc367, hQ367, l367, y367, z367⟩, st367⟩ := Jvm.LawKit.callS X366 hx (y := mN_41) hown (oV hZ hw 323 rfl) (oV hZ hw 165 rfl) (oV hZ hw 166 rfl) (oV hZ hw 167 rfl) (by decide) (backOf (W := 0) (rmcg l Z a0 hw [] b (p3 <<< ((1 : Int32) &&& 31)) kb z (own_u16 cs) (2 * j) T364.heap n0 Z0 Vb (by rw [own_dbl (by omega) (by omega), hp]; omega) (by rw [hz]; omega) (by omega)) hZ (own_w hw 167 rfl) (own_w hw 166 rfl) (by decide) (by decide)) (g := (mkF m 30 #[.val (.ref b), .val (.int 0), .val (.int p3), .val (.ref b363), .val (.int r364), .unset] [(.int (p3 <<< ((1 : Int32) &&& 31))), (.int 0), (.ref b)])) rfl (by rw [hml]; rfl) (argsL := [(.ref b), (.int 0), (.int (p3 <<< ((1 : Int32) &&& 31)))]) (rest := []) (lenOf pd_24 rfl) rfl (by exact oZ rfl) (hb hby d73_30) (fun _ _ => ⟨rfl, e366, (by decide : 1 + 1 ≤ _), (by decide : 5 + 22 ≤ _)⟩)
  dsimp only [Pt.U, Pt.locs, Pt.cells, Pt.slots] at X367 l367 y367 z367 st367 hQ367
  rw [l367, y367, z367] at X367
  obtain ⟨u367, ku367, rfl, Nq367, Kp367, gq367, Vq367⟩ := hQ367
  have g_u367 : n0 ≤ u367 := nT Z0 gq367
  have sz_u367 : h0.size ≤ u367 := nT KK.1 gq367
  have ne_b_u367 : b ≠ u367 := nL Vb.lt gq367
  have N367 := Fr.app N366 Nq367
  replace Z0 := nT Z0 Kp367.1
  replace Vb := Vb.keep Kp367 nin0
  replace SA := own_staKeep SA Kp367 ns0
  replace SHI := own_staKeep SHI Kp367 ns0
  replace SLO := own_staKeep SLO Kp367 ns0
  replace SF := own_staKeep SF Kp367 ns0
  replace KK := KK.trans Kp367 all0
  refine own_of (U' := (T367.setTop (mkF m 33 #[.val (.ref b), .val (.int 0), .val (.int p3), .val (.ref b363), .val (.int r364), .unset] [(.ref u367)]))) (st367) ?_
  replace Vq367 : Arv Z T367.heap u367 ku367 .byte (p3 <<< ((1 : Int32) &&& 31)) (List.map Value.int (own_u16 (cs.take j))) (.int 0) := by have q := Vq367; rw [own_u16_take] at q; exact q
  have htk : (cs.take j).length = j := by rw [List.length_take]; omega
  refine own_astore X367 hx hby d73_33 rfl (l' := #[.val (.ref b), .val (.int 0), .val (.int p3), .val (.ref b363), .val (.int r364), .val (.ref u367)]) rfl ?_
  refine own_aload X367 hx hby d73_35 rfl rfl ?_
  refine own_iload X367 hx hby d73_37 rfl ?_
  obtain ⟨_, _, ⟨T368, L368, k368, n368⟩, -, X368, ⟨Lc368, hQ368, l368, y368, z368⟩, st368⟩ := Jvm.LawKit.callS X367 hx (y := mN_27) hown (oV hZ hw 255 rfl) (oV hZ hw 256 rfl) (oV hZ hw 27 rfl) (oV hZ hw 257 rfl) (by decide) (backOf (W := 0) (rmug l Z a0 hw [] u367 r364 ku367 (p3 <<< ((1 : Int32) &&& 31)) (cs.take j) j364 T367.heap n0 Z0 Vq367 hj364 (by rw [htk]; exact jl364) (own_chstake hcs j) (by rw [htk]; omega) (by rw [htk, own_dbl (by omega) (by omega), hp]; exact Int.le_refl _) SA SHI SLO) hZ (own_w hw 257 rfl) (own_w hw 27 rfl) (by decide) (by decide)) (g := (mkF m 39 #[.val (.ref b), .val (.int 0), .val (.int p3), .val (.ref b363), .val (.int r364), .val (.ref u367)] [(.int r364), (.ref u367)])) rfl (by rw [hml]; rfl) (argsL := [(.ref u367), (.int r364)]) (rest := []) (lenOf pd_30 rfl) rfl (by exact oZ rfl) (hb hby d73_39) (fun _ _ => ⟨rfl, rfl, (by decide : 2 + 0 ≤ _), (by decide : 27 + 0 ≤ _)⟩)
  dsimp only [Pt.U, Pt.locs, Pt.cells, Pt.slots] at X368 l368 y368 z368 st368 hQ368
  rw [l368, y368, z368] at X368
  obtain ⟨rfl, Nq368, e368⟩ := hQ368
  have N368 := Fr.app N367 Nq368
  refine own_of (U' := (T368.setTop (mkF m 42 #[.val (.ref b), .val (.int 0), .val (.int p3), .val (.ref b363), .val (.int r364), .val (.ref u367)] [(.int ((cs.take j).getD j364 0))]))) (st368) ?_
  refine own_sipush X368 hx hby 255 d73_42 rfl ?_
  have hc45_369 : (255 : Int32) < ((cs.take j).getD j364 0) := (by rw [own_gettake jl364]; exact bg364)
  refine own_icmpYes X368 hx hby 45 61 d73_45 (tlt hc45_369).2.2.1 (by decide) (by decide) ?_
  refine own_aload X368 hx hby d73_61 rfl rfl ?_
  exact own_retA X368 hx hlk hrt rfl rfl (hb hby d73_63) (by decide) (by decide) (by rw [e368]; exact ⟨u367, ku367, rfl, N368, KK, sz_u367, Vq367⟩)
abbrev mN_64 : MethodName := ⟨"java/lang/StringUTF16", "newString", "([BII)Ljava/lang/String;"⟩
theorem d72_0 : decode c_64 0 = .ok (.iload_n 2, 1) := by decide +kernel
theorem d72_1 : decode c_64 1 = .ok (.ifCond .ne 7, 3) := by decide +kernel
theorem d72_8 : decode c_64 8 = .ok (.getstatic 251, 3) := by decide +kernel
theorem d72_11 : decode c_64 11 = .ok (.ifCond .eq 28, 3) := by decide +kernel
theorem d72_14 : decode c_64 14 = .ok (.aload_n 0, 1) := by decide +kernel
theorem d72_15 : decode c_64 15 = .ok (.iload_n 1, 1) := by decide +kernel
theorem d72_16 : decode c_64 16 = .ok (.iload_n 2, 1) := by decide +kernel
theorem d72_17 : decode c_64 17 = .ok (.invokestatic 257, 3) := by decide +kernel
theorem d72_20 : decode c_64 20 = .ok (.astore_n 3, 1) := by decide +kernel
theorem d72_21 : decode c_64 21 = .ok (.aload_n 3, 1) := by decide +kernel
theorem d72_22 : decode c_64 22 = .ok (.iload_n 2, 1) := by decide +kernel
theorem d72_23 : decode c_64 23 = .ok (.invokestatic 259, 3) := by decide +kernel
theorem d72_26 : decode c_64 26 = .ok (.istore 4, 2) := by decide +kernel
theorem d72_28 : decode c_64 28 = .ok (.new 3, 3) := by decide +kernel
theorem d72_31 : decode c_64 31 = .ok (.dup, 1) := by decide +kernel
theorem d72_32 : decode c_64 32 = .ok (.aload_n 3, 1) := by decide +kernel
theorem d72_33 : decode c_64 33 = .ok (.iload 4, 2) := by decide +kernel
theorem d72_35 : decode c_64 35 = .ok (.invokespecial 263, 3) := by decide +kernel
theorem d72_38 : decode c_64 38 = .ok (.areturn, 1) := by decide +kernel
theorem ef_ns0 (m : MethodId) (x0 : Addr) (x2 : Int32) : entryFrame m #[(.ref x0), (.int 0), (.int x2)] 5 = mkF m 0 #[.val (.ref x0), .val (.int 0), .val (.int x2), .unset, .unset] [] := by first | (simp [entryFrame, mkF, argsToLocals, Value.category]; done) | rfl
theorem rmns0 (l : Launch) (Z : State) (a0 : Array Value) (hw : ∀ d ∈ tables_1, d.before a0 Z = true) (ws : List Jvm.Cond) (b : Addr) (p3 : Int32) (kb : ClassId) (z : Int32) (cs : List Int32) (j : Nat) (g1 : Int32) (rS : Value) (h0 : Heap) (n0 : Nat) (Z0 : n0 ≤ h0.size) (Vb : Arv Z h0 b kb .byte z (List.map Value.int (own_u16 cs)) (.int 0)) (hz : z.toInt = 2 * (cs.length : Int)) (hp : p3.toInt = j) (h1 : 1 ≤ j) (hjl : j < cs.length) (hjc : j ≤ 5) (hcs : own_chs cs) (hlen : cs.length ≤ 100) (hlat : own_lat (cs.take j)) (SC : Sta Z h0 "java/lang/String" "COMPACT_STRINGS" "Z" (.int g1)) (hg1 : ¬ (g1 = (0 : Int32))) (SA : Sta Z h0 "java/lang/StringUTF16" "$assertionsDisabled" "Z" (.int 1)) (SHI : Sta Z h0 "java/lang/StringUTF16" "HI_BYTE_SHIFT" "I" (.int 0)) (SLO : Sta Z h0 "java/lang/StringUTF16" "LO_BYTE_SHIFT" "I" (.int 8)) (SF : Sta Z h0 "jdk/internal/util/Preconditions" "SIOOBE_FORMATTER" "Ljava/util/function/BiFunction;" rS) (hrS : rS.isRef = true) : own_M l mN_64 jdk_52_method_69_code 5 (some (.object "java/lang/String")) ws ({ frames := 5, cells := 3, slots := 31, locals := 78 } : Room) Z h0 #[(.ref b), (.int 0), (.int p3)] (Qs2 Z (cs.take j) h0 n0) := by
  refine own_go #[.val (.ref b), .val (.int 0), .val (.int p3), .unset, .unset] (plainFor_of_name pn_5) (fun m => ef_ns0 m b p3) ?_
  intro p e s m below meth c s₁ hx hby hml hown hnm hlk X0 e0 hZ hrt
  have N0 := Fr.nil n0
  have KK := Keep.refl h0 []
  refine own_iloadN X0 hx hby d72_0 rfl ?_
  have hc1_370 : ¬ (p3 = (0 : Int32)) := fun q => by rw [q, own_i0] at hp; omega
  refine own_ifYes X0 hx hby 1 8 d72_1 ((if0 _ _).trans (feq hc1_370).2) (by decide) (by decide) ?_
  obtain ⟨T371, X371, e371, st371⟩ := getS2 X0 hx hZ hown (host := "") (Or.inl (own_w hw 316 rfl)) Via.refl e0 SC (g := (mkF m 8 #[.val (.ref b), .val (.int 0), .val (.int p3), .unset, .unset] [])) rfl (hb hby d72_8)
  refine own_of (U' := (T371.setTop (mkF m 11 #[.val (.ref b), .val (.int 0), .val (.int p3), .unset, .unset] [(.int g1)]))) (st371) ?_
  have hc11_372 : ¬ (g1 = (0 : Int32)) := hg1
  refine own_ifNo X371 hx hby d72_11 ((if0 _ _).trans (feq hc11_372).1) ?_
  refine own_aloadN X371 hx hby d72_14 rfl rfl ?_
  refine own_iloadN X371 hx hby d72_15 rfl ?_
  refine own_iloadN X371 hx hby d72_16 rfl ?_
  obtain ⟨_, _, ⟨T373, L373, k373, n373⟩, -, X373, ⟨Lc373, hQ373, l373, y373, z373⟩, st373⟩ := Jvm.LawKit.callS X371 hx (y := mN_63) hown (oV hZ hw 317 rfl) (oV hZ hw 318 rfl) (oV hZ hw 27 rfl) (oV hZ hw 319 rfl) (by decide) (backOf (W := 0) (rmce_0 l Z a0 hw [] b p3 kb z cs j rS h0 n0 Z0 Vb hz hp h1 hjl hjc hcs hlen hlat SA SHI SLO SF hrS) hZ (own_w hw 319 rfl) (own_w hw 27 rfl) (by decide) (by decide)) (g := (mkF m 17 #[.val (.ref b), .val (.int 0), .val (.int p3), .unset, .unset] [(.int p3), (.int 0), (.ref b)])) rfl (by rw [hml]; rfl) (argsL := [(.ref b), (.int 0), (.int p3)]) (rest := []) (lenOf pd_24 rfl) rfl (by exact oZ rfl) (hb hby d72_17) (fun _ _ => ⟨rfl, e371, (by decide : 0 + 1 ≤ _), (by decide : 0 + 5 ≤ _)⟩)
  dsimp only [Pt.U, Pt.locs, Pt.cells, Pt.slots] at X373 l373 y373 z373 st373 hQ373
  rw [l373, y373, z373] at X373
  obtain ⟨u373, ku373, rfl, Nq373, Kp373, gq373, Vq373⟩ := hQ373
  have g_u373 : n0 ≤ u373 := nT Z0 gq373
  have sz_u373 : h0.size ≤ u373 := nT KK.1 gq373
  have ne_b_u373 : b ≠ u373 := nL Vb.lt gq373
  have N373 := Fr.app N0 Nq373
  replace Z0 := nT Z0 Kp373.1
  replace Vb := Vb.keep Kp373 nin0
  replace SC := own_staKeep SC Kp373 ns0
  replace SA := own_staKeep SA Kp373 ns0
  replace SHI := own_staKeep SHI Kp373 ns0
  replace SLO := own_staKeep SLO Kp373 ns0
  replace SF := own_staKeep SF Kp373 ns0
  replace KK := KK.trans Kp373 all0
  refine own_of (U' := (T373.setTop (mkF m 20 #[.val (.ref b), .val (.int 0), .val (.int p3), .unset, .unset] [(.ref u373)]))) (st373) ?_
  refine own_astoreN X373 hx hby d72_20 rfl (l' := #[.val (.ref b), .val (.int 0), .val (.int p3), .val (.ref u373), .unset]) rfl ?_
  refine own_aloadN X373 hx hby d72_21 rfl rfl ?_
  refine own_iloadN X373 hx hby d72_22 rfl ?_
  obtain ⟨_, _, ⟨T374, L374, k374, n374⟩, -, X374, ⟨Lc374, hQ374, l374, y374, z374⟩, st374⟩ := Jvm.LawKit.callS X373 hx (y := mN_49) hown (oV hZ hw 324 rfl) (oV hZ hw 34 rfl) (oV hZ hw 27 rfl) (oV hZ hw 35 rfl) (by decide) (backOf (W := 0) (rmcf0 l Z a0 hw [] u373 ku373 p3 (List.map own_b8 (cs.take j)) T373.heap n0 Z0 Vq373) hZ (own_w hw 35 rfl) (own_w hw 27 rfl) (by decide) (by decide)) (g := (mkF m 23 #[.val (.ref b), .val (.int 0), .val (.int p3), .val (.ref u373), .unset] [(.int p3), (.ref u373)])) rfl (by rw [hml]; rfl) (argsL := [(.ref u373), (.int p3)]) (rest := []) (lenOf pd_31 rfl) rfl (by exact oZ rfl) (hb hby d72_23) (fun _ _ => ⟨rfl, rfl, (by decide : 1 + 0 ≤ _), (by decide : 5 + 0 ≤ _)⟩)
  dsimp only [Pt.U, Pt.locs, Pt.cells, Pt.slots] at X374 l374 y374 z374 st374 hQ374
  rw [l374, y374, z374] at X374
  obtain ⟨rfl, Nq374, e374⟩ := hQ374
  have N374 := Fr.app N373 Nq374
  refine own_of (U' := (T374.setTop (mkF m 26 #[.val (.ref b), .val (.int 0), .val (.int p3), .val (.ref u373), .unset] [(.int 0)]))) (st374) ?_
  refine own_istore X374 hx hby d72_26 (l' := #[.val (.ref b), .val (.int 0), .val (.int p3), .val (.ref u373), .val (.int 0)]) rfl ?_
  obtain ⟨T375, h375, X375, e375, E375, A375, D375, -, st375⟩ := newO X374 hx hZ hown (own_w hw 325 rfl) (own_w hw 11 rfl) (own_w hw 12 rfl) e374 (g := (mkF m 28 #[.val (.ref b), .val (.int 0), .val (.int p3), .val (.ref u373), .val (.int 0)] [])) rfl (hb hby d72_28) (by decide) (by decide)
  obtain ⟨b375, gz375⟩ : ∃ z, z = T373.heap.size := ⟨_, rfl⟩
  rw [← gz375] at A375 D375 st375
  have g_b375 : n0 ≤ b375 := nT Z0 (nE gz375.symm)
  have sz_b375 : h0.size ≤ b375 := nT KK.1 (nE gz375.symm)
  have ne_b_b375 : b ≠ b375 := Nat.ne_of_lt (Nat.lt_of_lt_of_le Vb.lt (nE gz375.symm))
  have ne_u373_b375 : u373 ≠ b375 := Nat.ne_of_lt (Nat.lt_of_lt_of_le Vq373.lt (nE gz375.symm))
  replace Z0 := nT Z0 E375.1
  replace Vb := Vb.ext E375
  replace SC := SC.ext E375
  replace SA := SA.ext E375
  replace SHI := SHI.ext E375
  replace SLO := SLO.ext E375
  replace SF := SF.ext E375
  replace KK := KK.ext E375
  replace Vq373 := Vq373.ext E375
  have F375_coder : Fld Z h375 b375 "java/lang/String" "coder" "B" (.int 0) := D375 (Or.inr (own_w hw 37 rfl)) (ty := .byte) (by decide)
  have F375_value : Fld Z h375 b375 "java/lang/String" "value" "[B" .null := D375 (Or.inr (own_w hw 39 rfl)) (ty := (.array .byte)) (by decide)
  refine own_of (U' := (T375.setTop (mkF m 31 #[.val (.ref b), .val (.int 0), .val (.int p3), .val (.ref u373), .val (.int 0)] [(.ref b375)]))) (st375) ?_
  refine own_dup X375 hx hby d72_31 rfl ?_
  refine own_aloadN X375 hx hby d72_32 rfl rfl ?_
  refine own_iload X375 hx hby d72_33 rfl ?_
  obtain ⟨_, _, ⟨T376, L376, k376, n376⟩, -, X376, ⟨Lc376, hQ376, l376, y376, z376⟩, st376⟩ := X375.specialBack hx (y := mN_42) rfl hown (oV hZ hw 326 rfl) (oV hZ hw 52 rfl) (oV hZ hw 53 rfl) (by decide) (backOf (W := 1) (rmbb0 l Z a0 hw [] b375 u373 h375 n0 Z0 A375 F375_coder F375_value g_b375) hZ (own_w hw 53 rfl) (own_w hw 12 rfl) (by decide) (by decide)) (g := (mkF m 35 #[.val (.ref b), .val (.int 0), .val (.int p3), .val (.ref u373), .val (.int 0)] [(.int 0), (.ref u373), (.ref b375), (.ref b375)])) rfl (by rw [hml]; rfl) (Steps.refl _) (a := b375) (argsL := [(.ref u373), (.int 0)]) (rest := [(.ref b375)]) (lenOf pd_34 rfl) rfl (by exact oZ rfl) (hb hby d72_35) (fun _ _ => ⟨rfl, e375, (by decide : 2 + 0 ≤ _), (by decide : 9 + 0 ≤ _)⟩)
  dsimp only [Pt.U, Pt.locs, Pt.cells, Pt.slots] at X376 l376 y376 z376 st376 hQ376
  rw [l376, y376, z376] at X376
  obtain ⟨rfl, Nq376, Kp376, Cq376, Fq376⟩ := hQ376
  have N376 := Fr.app N374 Nq376
  have nst_b375 := A375.nostat
  replace Z0 := nT Z0 Kp376.1
  replace Vb := Vb.keep Kp376 (ninS ne_b_b375 nin0)
  replace SC := own_staKeep SC Kp376 (nsS nst_b375 ns0)
  replace SA := own_staKeep SA Kp376 (nsS nst_b375 ns0)
  replace SHI := own_staKeep SHI Kp376 (nsS nst_b375 ns0)
  replace SLO := own_staKeep SLO Kp376 (nsS nst_b375 ns0)
  replace SF := own_staKeep SF Kp376 (nsS nst_b375 ns0)
  replace KK := KK.trans Kp376 (allS (Or.inr sz_b375) all0)
  replace Vq373 := Vq373.keep Kp376 (ninS ne_u373_b375 nin0)
  replace A375 := A375.keep Kp376
  refine own_of (U' := (T376.setTop (mkF m 38 #[.val (.ref b), .val (.int 0), .val (.int p3), .val (.ref u373), .val (.int 0)] [(.ref b375)]))) (fun _ k => st376.trans k) ?_
  exact own_retA X376 hx hlk hrt rfl rfl (hb hby d72_38) (by decide) (by decide) (⟨b375, rfl, N376, KK, sz_b375, u373, ku373, (0 : Int32), p3, A375.lt, Vq373.lt, A375, Cq376, Fq376, Or.inl ⟨rfl, hlat, (by rw [hp, List.length_take]; omega), Vq373⟩⟩)
theorem ef_ns1 (m : MethodId) (x0 : Addr) (x2 : Int32) : entryFrame m #[(.ref x0), (.int 0), (.int x2)] 5 = mkF m 0 #[.val (.ref x0), .val (.int 0), .val (.int x2), .unset, .unset] [] := by first | (simp [entryFrame, mkF, argsToLocals, Value.category]; done) | rfl
theorem rmns1 (l : Launch) (Z : State) (a0 : Array Value) (hw : ∀ d ∈ tables_1, d.before a0 Z = true) (ws : List Jvm.Cond) (b : Addr) (p3 : Int32) (kb : ClassId) (z : Int32) (cs : List Int32) (j : Nat) (g1 : Int32) (rS : Value) (h0 : Heap) (n0 : Nat) (Z0 : n0 ≤ h0.size) (Vb : Arv Z h0 b kb .byte z (List.map Value.int (own_u16 cs)) (.int 0)) (hz : z.toInt = 2 * (cs.length : Int)) (hp : p3.toInt = j) (h1 : 1 ≤ j) (hjl : j < cs.length) (hjc : j ≤ 5) (hcs : own_chs cs) (hlen : cs.length ≤ 100) (hbig : ¬ own_lat (cs.take j)) (SC : Sta Z h0 "java/lang/String" "COMPACT_STRINGS" "Z" (.int g1)) (hg1 : ¬ (g1 = (0 : Int32))) (SA : Sta Z h0 "java/lang/StringUTF16" "$assertionsDisabled" "Z" (.int 1)) (SHI : Sta Z h0 "java/lang/StringUTF16" "HI_BYTE_SHIFT" "I" (.int 0)) (SLO : Sta Z h0 "java/lang/StringUTF16" "LO_BYTE_SHIFT" "I" (.int 8)) (SF : Sta Z h0 "jdk/internal/util/Preconditions" "SIOOBE_FORMATTER" "Ljava/util/function/BiFunction;" rS) (hrS : rS.isRef = true) : own_M l mN_64 jdk_52_method_69_code 5 (some (.object "java/lang/String")) ws ({ frames := 5, cells := 3, slots := 31, locals := 78 } : Room) Z h0 #[(.ref b), (.int 0), (.int p3)] (Qs2 Z (cs.take j) h0 n0) := by
  refine own_go #[.val (.ref b), .val (.int 0), .val (.int p3), .unset, .unset] (plainFor_of_name pn_5) (fun m => ef_ns1 m b p3) ?_
  intro p e s m below meth c s₁ hx hby hml hown hnm hlk X0 e0 hZ hrt
  have N0 := Fr.nil n0
  have KK := Keep.refl h0 []
  refine own_iloadN X0 hx hby d72_0 rfl ?_
  have hc1_377 : ¬ (p3 = (0 : Int32)) := fun q => by rw [q, own_i0] at hp; omega
  refine own_ifYes X0 hx hby 1 8 d72_1 ((if0 _ _).trans (feq hc1_377).2) (by decide) (by decide) ?_
  obtain ⟨T378, X378, e378, st378⟩ := getS2 X0 hx hZ hown (host := "") (Or.inl (own_w hw 316 rfl)) Via.refl e0 SC (g := (mkF m 8 #[.val (.ref b), .val (.int 0), .val (.int p3), .unset, .unset] [])) rfl (hb hby d72_8)
  refine own_of (U' := (T378.setTop (mkF m 11 #[.val (.ref b), .val (.int 0), .val (.int p3), .unset, .unset] [(.int g1)]))) (st378) ?_
  have hc11_379 : ¬ (g1 = (0 : Int32)) := hg1
  refine own_ifNo X378 hx hby d72_11 ((if0 _ _).trans (feq hc11_379).1) ?_
  refine own_aloadN X378 hx hby d72_14 rfl rfl ?_
  refine own_iloadN X378 hx hby d72_15 rfl ?_
  refine own_iloadN X378 hx hby d72_16 rfl ?_
  obtain ⟨_, _, ⟨T380, L380, k380, n380⟩, -, X380, ⟨Lc380, hQ380, l380, y380, z380⟩, st380⟩ := Jvm.LawKit.callS X378 hx (y := mN_63) hown (oV hZ hw 317 rfl) (oV hZ hw 318 rfl) (oV hZ hw 27 rfl) (oV hZ hw 319 rfl) (by decide) (backOf (W := 0) (rmce_1 l Z a0 hw [] b p3 kb z cs j rS h0 n0 Z0 Vb hz hp h1 hjl hjc hcs hlen hbig SA SHI SLO SF hrS) hZ (own_w hw 319 rfl) (own_w hw 27 rfl) (by decide) (by decide)) (g := (mkF m 17 #[.val (.ref b), .val (.int 0), .val (.int p3), .unset, .unset] [(.int p3), (.int 0), (.ref b)])) rfl (by rw [hml]; rfl) (argsL := [(.ref b), (.int 0), (.int p3)]) (rest := []) (lenOf pd_24 rfl) rfl (by exact oZ rfl) (hb hby d72_17) (fun _ _ => ⟨rfl, e378, (by decide : 0 + 2 ≤ _), (by decide : 0 + 27 ≤ _)⟩)
  dsimp only [Pt.U, Pt.locs, Pt.cells, Pt.slots] at X380 l380 y380 z380 st380 hQ380
  rw [l380, y380, z380] at X380
  obtain ⟨u380, ku380, rfl, Nq380, Kp380, gq380, Vq380⟩ := hQ380
  have g_u380 : n0 ≤ u380 := nT Z0 gq380
  have sz_u380 : h0.size ≤ u380 := nT KK.1 gq380
  have ne_b_u380 : b ≠ u380 := nL Vb.lt gq380
  have N380 := Fr.app N0 Nq380
  replace Z0 := nT Z0 Kp380.1
  replace Vb := Vb.keep Kp380 nin0
  replace SC := own_staKeep SC Kp380 ns0
  replace SA := own_staKeep SA Kp380 ns0
  replace SHI := own_staKeep SHI Kp380 ns0
  replace SLO := own_staKeep SLO Kp380 ns0
  replace SF := own_staKeep SF Kp380 ns0
  replace KK := KK.trans Kp380 all0
  refine own_of (U' := (T380.setTop (mkF m 20 #[.val (.ref b), .val (.int 0), .val (.int p3), .unset, .unset] [(.ref u380)]))) (st380) ?_
  refine own_astoreN X380 hx hby d72_20 rfl (l' := #[.val (.ref b), .val (.int 0), .val (.int p3), .val (.ref u380), .unset]) rfl ?_
  refine own_aloadN X380 hx hby d72_21 rfl rfl ?_
  refine own_iloadN X380 hx hby d72_22 rfl ?_
  obtain ⟨_, _, ⟨T381, L381, k381, n381⟩, -, X381, ⟨Lc381, hQ381, l381, y381, z381⟩, st381⟩ := Jvm.LawKit.callS X380 hx (y := mN_49) hown (oV hZ hw 324 rfl) (oV hZ hw 34 rfl) (oV hZ hw 27 rfl) (oV hZ hw 35 rfl) (by decide) (backOf (W := 0) (rmcf1 l Z a0 hw [] u380 p3 ku380 (p3 <<< ((1 : Int32) &&& 31)) (own_u16 (cs.take j)) j T380.heap n0 Z0 Vq380 (by rw [own_dbl (by omega) (by omega), hp]) hp h1 (by omega)) hZ (own_w hw 35 rfl) (own_w hw 27 rfl) (by decide) (by decide)) (g := (mkF m 23 #[.val (.ref b), .val (.int 0), .val (.int p3), .val (.ref u380), .unset] [(.int p3), (.ref u380)])) rfl (by rw [hml]; rfl) (argsL := [(.ref u380), (.int p3)]) (rest := []) (lenOf pd_31 rfl) rfl (by exact oZ rfl) (hb hby d72_23) (fun _ _ => ⟨rfl, rfl, (by decide : 2 + 0 ≤ _), (by decide : 27 + 0 ≤ _)⟩)
  dsimp only [Pt.U, Pt.locs, Pt.cells, Pt.slots] at X381 l381 y381 z381 st381 hQ381
  rw [l381, y381, z381] at X381
  obtain ⟨rfl, Nq381, e381⟩ := hQ381
  have N381 := Fr.app N380 Nq381
  refine own_of (U' := (T381.setTop (mkF m 26 #[.val (.ref b), .val (.int 0), .val (.int p3), .val (.ref u380), .unset] [(.int 1)]))) (st381) ?_
  refine own_istore X381 hx hby d72_26 (l' := #[.val (.ref b), .val (.int 0), .val (.int p3), .val (.ref u380), .val (.int 1)]) rfl ?_
  obtain ⟨T382, h382, X382, e382, E382, A382, D382, -, st382⟩ := newO X381 hx hZ hown (own_w hw 325 rfl) (own_w hw 11 rfl) (own_w hw 12 rfl) e381 (g := (mkF m 28 #[.val (.ref b), .val (.int 0), .val (.int p3), .val (.ref u380), .val (.int 1)] [])) rfl (hb hby d72_28) (by decide) (by decide)
  obtain ⟨b382, gz382⟩ : ∃ z, z = T380.heap.size := ⟨_, rfl⟩
  rw [← gz382] at A382 D382 st382
  have g_b382 : n0 ≤ b382 := nT Z0 (nE gz382.symm)
  have sz_b382 : h0.size ≤ b382 := nT KK.1 (nE gz382.symm)
  have ne_b_b382 : b ≠ b382 := Nat.ne_of_lt (Nat.lt_of_lt_of_le Vb.lt (nE gz382.symm))
  have ne_u380_b382 : u380 ≠ b382 := Nat.ne_of_lt (Nat.lt_of_lt_of_le Vq380.lt (nE gz382.symm))
  replace Z0 := nT Z0 E382.1
  replace Vb := Vb.ext E382
  replace SC := SC.ext E382
  replace SA := SA.ext E382
  replace SHI := SHI.ext E382
  replace SLO := SLO.ext E382
  replace SF := SF.ext E382
  replace KK := KK.ext E382
  replace Vq380 := Vq380.ext E382
  have F382_coder : Fld Z h382 b382 "java/lang/String" "coder" "B" (.int 0) := D382 (Or.inr (own_w hw 37 rfl)) (ty := .byte) (by decide)
  have F382_value : Fld Z h382 b382 "java/lang/String" "value" "[B" .null := D382 (Or.inr (own_w hw 39 rfl)) (ty := (.array .byte)) (by decide)
  refine own_of (U' := (T382.setTop (mkF m 31 #[.val (.ref b), .val (.int 0), .val (.int p3), .val (.ref u380), .val (.int 1)] [(.ref b382)]))) (st382) ?_
  refine own_dup X382 hx hby d72_31 rfl ?_
  refine own_aloadN X382 hx hby d72_32 rfl rfl ?_
  refine own_iload X382 hx hby d72_33 rfl ?_
  obtain ⟨_, _, ⟨T383, L383, k383, n383⟩, -, X383, ⟨Lc383, hQ383, l383, y383, z383⟩, st383⟩ := X382.specialBack hx (y := mN_42) rfl hown (oV hZ hw 326 rfl) (oV hZ hw 52 rfl) (oV hZ hw 53 rfl) (by decide) (backOf (W := 1) (rmbb1 l Z a0 hw [] b382 u380 h382 n0 Z0 A382 F382_coder F382_value g_b382) hZ (own_w hw 53 rfl) (own_w hw 12 rfl) (by decide) (by decide)) (g := (mkF m 35 #[.val (.ref b), .val (.int 0), .val (.int p3), .val (.ref u380), .val (.int 1)] [(.int 1), (.ref u380), (.ref b382), (.ref b382)])) rfl (by rw [hml]; rfl) (Steps.refl _) (a := b382) (argsL := [(.ref u380), (.int 1)]) (rest := [(.ref b382)]) (lenOf pd_34 rfl) rfl (by exact oZ rfl) (hb hby d72_35) (fun _ _ => ⟨rfl, e382, (by decide : 3 + 0 ≤ _), (by decide : 31 + 0 ≤ _)⟩)
  dsimp only [Pt.U, Pt.locs, Pt.cells, Pt.slots] at X383 l383 y383 z383 st383 hQ383
  rw [l383, y383, z383] at X383
  obtain ⟨rfl, Nq383, Kp383, Cq383, Fq383⟩ := hQ383
  have N383 := Fr.app N381 Nq383
  have nst_b382 := A382.nostat
  replace Z0 := nT Z0 Kp383.1
  replace Vb := Vb.keep Kp383 (ninS ne_b_b382 nin0)
  replace SC := own_staKeep SC Kp383 (nsS nst_b382 ns0)
  replace SA := own_staKeep SA Kp383 (nsS nst_b382 ns0)
  replace SHI := own_staKeep SHI Kp383 (nsS nst_b382 ns0)
  replace SLO := own_staKeep SLO Kp383 (nsS nst_b382 ns0)
  replace SF := own_staKeep SF Kp383 (nsS nst_b382 ns0)
  replace KK := KK.trans Kp383 (allS (Or.inr sz_b382) all0)
  replace Vq380 := Vq380.keep Kp383 (ninS ne_u380_b382 nin0)
  replace A382 := A382.keep Kp383
  refine own_of (U' := (T383.setTop (mkF m 38 #[.val (.ref b), .val (.int 0), .val (.int p3), .val (.ref u380), .val (.int 1)] [(.ref b382)]))) (fun _ k => st383.trans k) ?_
  exact own_retA X383 hx hlk hrt rfl rfl (hb hby d72_38) (by decide) (by decide) (⟨b382, rfl, N383, KK, sz_b382, u380, ku380, (1 : Int32), (p3 <<< ((1 : Int32) &&& 31)), A382.lt, Vq380.lt, A382, Cq383, Fq383, Or.inr ⟨rfl, hbig, (by rw [own_dbl (by omega) (by omega), hp, List.length_take]; omega), Vq380⟩⟩)
theorem rmns (l : Launch) (Z : State) (a0 : Array Value) (hw : ∀ d ∈ tables_1, d.before a0 Z = true) (ws : List Jvm.Cond) (b : Addr) (p3 : Int32) (kb : ClassId) (z : Int32) (cs : List Int32) (j : Nat) (g1 : Int32) (rS : Value) (h0 : Heap) (n0 : Nat) (Z0 : n0 ≤ h0.size) (Vb : Arv Z h0 b kb .byte z (List.map Value.int (own_u16 cs)) (.int 0)) (hz : z.toInt = 2 * (cs.length : Int)) (hp : p3.toInt = j) (h1 : 1 ≤ j) (hjl : j < cs.length) (hjc : j ≤ 5) (hcs : own_chs cs) (hlen : cs.length ≤ 100) (SC : Sta Z h0 "java/lang/String" "COMPACT_STRINGS" "Z" (.int g1)) (hg1 : ¬ (g1 = (0 : Int32))) (SA : Sta Z h0 "java/lang/StringUTF16" "$assertionsDisabled" "Z" (.int 1)) (SHI : Sta Z h0 "java/lang/StringUTF16" "HI_BYTE_SHIFT" "I" (.int 0)) (SLO : Sta Z h0 "java/lang/StringUTF16" "LO_BYTE_SHIFT" "I" (.int 8)) (SF : Sta Z h0 "jdk/internal/util/Preconditions" "SIOOBE_FORMATTER" "Ljava/util/function/BiFunction;" rS) (hrS : rS.isRef = true) : own_M l mN_64 jdk_52_method_69_code 5 (some (.object "java/lang/String")) ws ({ frames := 5, cells := 3, slots := 31, locals := 78 } : Room) Z h0 #[(.ref b), (.int 0), (.int p3)] (Qs2 Z (cs.take j) h0 n0) := by
  by_cases hlat : own_lat (cs.take j)
  · exact rmns0 l Z a0 hw ws b p3 kb z cs j g1 rS h0 n0 Z0 Vb hz hp h1 hjl hjc hcs hlen hlat SC hg1 SA SHI SLO SF hrS
  · exact rmns1 l Z a0 hw ws b p3 kb z cs j g1 rS h0 n0 Z0 Vb hz hp h1 hjl hjc hcs hlen hlat SC hg1 SA SHI SLO SF hrS
abbrev mN_65 : MethodName := ⟨"java/lang/StringLatin1", "newString", "([BII)Ljava/lang/String;"⟩
theorem d49_0 : decode c_65 0 = .ok (.iload_n 2, 1) := by decide +kernel
theorem d49_1 : decode c_65 1 = .ok (.ifCond .ne 6, 3) := by decide +kernel
theorem d49_7 : decode c_65 7 = .ok (.new 1, 3) := by decide +kernel
theorem d49_10 : decode c_65 10 = .ok (.dup, 1) := by decide +kernel
theorem d49_11 : decode c_65 11 = .ok (.aload_n 0, 1) := by decide +kernel
theorem d49_12 : decode c_65 12 = .ok (.iload_n 1, 1) := by decide +kernel
theorem d49_13 : decode c_65 13 = .ok (.iload_n 1, 1) := by decide +kernel
theorem d49_14 : decode c_65 14 = .ok (.iload_n 2, 1) := by decide +kernel
theorem d49_15 : decode c_65 15 = .ok (.iadd, 1) := by decide +kernel
theorem d49_16 : decode c_65 16 = .ok (.invokestatic 232, 3) := by decide +kernel
theorem d49_19 : decode c_65 19 = .ok (.iconst 0, 1) := by decide +kernel
theorem d49_20 : decode c_65 20 = .ok (.invokespecial 112, 3) := by decide +kernel
theorem d49_23 : decode c_65 23 = .ok (.areturn, 1) := by decide +kernel
theorem ef_ln (m : MethodId) (x0 : Addr) (x2 : Int32) : entryFrame m #[(.ref x0), (.int 0), (.int x2)] 3 = mkF m 0 #[.val (.ref x0), .val (.int 0), .val (.int x2)] [] := by first | (simp [entryFrame, mkF, argsToLocals, Value.category]; done) | rfl
theorem rmln (l : Launch) (Z : State) (a0 : Array Value) (hw : ∀ d ∈ tables_1, d.before a0 Z = true) (ws : List Jvm.Cond) (b : Addr) (p3 : Int32) (kb : ClassId) (z : Int32) (cs : List Int32) (j : Nat) (h0 : Heap) (n0 : Nat) (Z0 : n0 ≤ h0.size) (Vb : Arv Z h0 b kb .byte z (List.map Value.int (List.map own_b8 cs)) (.int 0)) (hz : z.toInt = cs.length) (hp : p3.toInt = j) (h1 : 1 ≤ j) (hjl : j < cs.length) (hjc : j ≤ 5) (hcs : own_chs cs) (hlen : cs.length ≤ 100) (hlat : own_lat cs) : own_M l mN_65 jdk_43_method_47_code 3 (some (.object "java/lang/String")) ws ({ frames := 3, cells := 2, slots := 26, locals := 50 } : Room) Z h0 #[(.ref b), (.int 0), (.int p3)] (Qs2 Z (cs.take j) h0 n0) := by
  refine own_go #[.val (.ref b), .val (.int 0), .val (.int p3)] (plainFor_of_name pn_6) (fun m => ef_ln m b p3) ?_
  intro p e s m below meth c s₁ hx hby hml hown hnm hlk X0 e0 hZ hrt
  have N0 := Fr.nil n0
  have KK := Keep.refl h0 []
  refine own_iloadN X0 hx hby d49_0 rfl ?_
  have hc1_384 : ¬ (p3 = (0 : Int32)) := fun q => by rw [q, own_i0] at hp; omega
  refine own_ifYes X0 hx hby 1 7 d49_1 ((if0 _ _).trans (feq hc1_384).2) (by decide) (by decide) ?_
  obtain ⟨T385, h385, X385, e385, E385, A385, D385, -, st385⟩ := newO X0 hx hZ hown (own_w hw 228 rfl) (own_w hw 11 rfl) (own_w hw 12 rfl) e0 (g := (mkF m 7 #[.val (.ref b), .val (.int 0), .val (.int p3)] [])) rfl (hb hby d49_7) (by decide) (by decide)
  obtain ⟨b385, gz385⟩ : ∃ z, z = h0.size := ⟨_, rfl⟩
  rw [← gz385] at A385 D385 st385
  have g_b385 : n0 ≤ b385 := nT Z0 (nE gz385.symm)
  have sz_b385 : h0.size ≤ b385 := nT KK.1 (nE gz385.symm)
  have ne_b_b385 : b ≠ b385 := Nat.ne_of_lt (Nat.lt_of_lt_of_le Vb.lt (nE gz385.symm))
  replace Z0 := nT Z0 E385.1
  replace Vb := Vb.ext E385
  replace KK := KK.ext E385
  have F385_coder : Fld Z h385 b385 "java/lang/String" "coder" "B" (.int 0) := D385 (Or.inr (own_w hw 37 rfl)) (ty := .byte) (by decide)
  have F385_value : Fld Z h385 b385 "java/lang/String" "value" "[B" .null := D385 (Or.inr (own_w hw 39 rfl)) (ty := (.array .byte)) (by decide)
  refine own_of (U' := (T385.setTop (mkF m 10 #[.val (.ref b), .val (.int 0), .val (.int p3)] [(.ref b385)]))) (st385) ?_
  refine own_dup X385 hx hby d49_10 rfl ?_
  refine own_aloadN X385 hx hby d49_11 rfl rfl ?_
  refine own_iloadN X385 hx hby d49_12 rfl ?_
  refine own_iloadN X385 hx hby d49_13 rfl ?_
  refine own_iloadN X385 hx hby d49_14 rfl ?_
  refine own_iadd X385 hx hby d49_15 ?_
  refine own_eq (U' := (T385.setTop (mkF m 16 #[.val (.ref b), .val (.int 0), .val (.int p3)] [(.int p3), (.int 0), (.ref b), (.ref b385), (.ref b385)]))) (by rw [show ((0 : Int32) + p3) = p3 from own_add0 p3]) ?_
  obtain ⟨_, _, ⟨T386, L386, k386, n386⟩, -, X386, ⟨Lc386, hQ386, l386, y386, z386⟩, st386⟩ := Jvm.LawKit.callS X385 hx (y := mN_41) hown (oV hZ hw 229 rfl) (oV hZ hw 165 rfl) (oV hZ hw 166 rfl) (oV hZ hw 167 rfl) (by decide) (backOf (W := 2) (rmcg l Z a0 hw [] b p3 kb z (List.map own_b8 cs) j h385 n0 Z0 Vb hp (by omega) (by omega)) hZ (own_w hw 167 rfl) (own_w hw 166 rfl) (by decide) (by decide)) (g := (mkF m 16 #[.val (.ref b), .val (.int 0), .val (.int p3)] [(.int p3), (.int 0), (.ref b), (.ref b385), (.ref b385)])) rfl (by rw [hml]; rfl) (argsL := [(.ref b), (.int 0), (.int p3)]) (rest := [(.ref b385), (.ref b385)]) (lenOf pd_24 rfl) rfl (by exact oZ rfl) (hb hby d49_16) (fun _ _ => ⟨rfl, e385, (by decide : 1 + 1 ≤ _), (by decide : 4 + 22 ≤ _)⟩)
  dsimp only [Pt.U, Pt.locs, Pt.cells, Pt.slots] at X386 l386 y386 z386 st386 hQ386
  rw [l386, y386, z386] at X386
  obtain ⟨u386, ku386, rfl, Nq386, Kp386, gq386, Vq386⟩ := hQ386
  have g_u386 : n0 ≤ u386 := nT Z0 gq386
  have sz_u386 : h0.size ≤ u386 := nT KK.1 gq386
  have ne_b_u386 : b ≠ u386 := nL Vb.lt gq386
  have ne_b385_u386 : b385 ≠ u386 := nL A385.lt gq386
  have N386 := Fr.app N0 Nq386
  replace Z0 := nT Z0 Kp386.1
  replace Vb := Vb.keep Kp386 nin0
  replace KK := KK.trans Kp386 all0
  replace A385 := A385.keep Kp386
  replace F385_coder := F385_coder.keep Kp386 nin0
  replace F385_value := F385_value.keep Kp386 nin0
  refine own_of (U' := (T386.setTop (mkF m 19 #[.val (.ref b), .val (.int 0), .val (.int p3)] [(.ref u386), (.ref b385), (.ref b385)]))) (st386) ?_
  refine own_iconst X386 hx hby 0 d49_19 rfl ?_
  obtain ⟨_, _, ⟨T387, L387, k387, n387⟩, -, X387, ⟨Lc387, hQ387, l387, y387, z387⟩, st387⟩ := X386.specialBack hx (y := mN_42) rfl hown (oV hZ hw 230 rfl) (oV hZ hw 52 rfl) (oV hZ hw 53 rfl) (by decide) (backOf (W := 1) (rmbb0 l Z a0 hw [] b385 u386 T386.heap n0 Z0 A385 F385_coder F385_value g_b385) hZ (own_w hw 53 rfl) (own_w hw 12 rfl) (by decide) (by decide)) (g := (mkF m 20 #[.val (.ref b), .val (.int 0), .val (.int p3)] [(.int 0), (.ref u386), (.ref b385), (.ref b385)])) rfl (by rw [hml]; rfl) (Steps.refl _) (a := b385) (argsL := [(.ref u386), (.int 0)]) (rest := [(.ref b385)]) (lenOf pd_34 rfl) rfl (by exact oZ rfl) (hb hby d49_20) (fun _ _ => ⟨rfl, rfl, (by decide : 2 + 0 ≤ _), (by decide : 26 + 0 ≤ _)⟩)
  dsimp only [Pt.U, Pt.locs, Pt.cells, Pt.slots] at X387 l387 y387 z387 st387 hQ387
  rw [l387, y387, z387] at X387
  obtain ⟨rfl, Nq387, Kp387, Cq387, Fq387⟩ := hQ387
  have N387 := Fr.app N386 Nq387
  replace Z0 := nT Z0 Kp387.1
  replace Vb := Vb.keep Kp387 (ninS ne_b_b385 nin0)
  replace KK := KK.trans Kp387 (allS (Or.inr sz_b385) all0)
  replace A385 := A385.keep Kp387
  replace Vq386 := Vq386.keep Kp387 (ninS (Ne.symm ne_b385_u386) nin0)
  refine own_of (U' := (T387.setTop (mkF m 23 #[.val (.ref b), .val (.int 0), .val (.int p3)] [(.ref b385)]))) (fun _ k => st387.trans k) ?_
  exact own_retA X387 hx hlk hrt rfl rfl (hb hby d49_23) (by decide) (by decide) (⟨b385, rfl, N387, KK, sz_b385, u386, ku386, (0 : Int32), p3, A385.lt, Vq386.lt, A385, Cq387, Fq387, Or.inl ⟨rfl, own_lattake hlat j, (by rw [hp, List.length_take]; omega), (by rw [List.map_take]; exact Vq386)⟩⟩)
abbrev mN_66 : MethodName := ⟨"java/lang/String", "substring", "(II)Ljava/lang/String;"⟩
theorem pd_38 : parseMethodDescriptor "([BII)Ljava/lang/String;" = some ⟨[(.array .byte), .int, .int], some (.object "java/lang/String")⟩ := by decide +kernel
theorem d46_0 : decode c_66 0 = .ok (.aload_n 0, 1) := by decide +kernel
theorem d46_1 : decode c_66 1 = .ok (.invokevirtual 505, 3) := by decide +kernel
theorem d46_4 : decode c_66 4 = .ok (.istore_n 3, 1) := by decide +kernel
theorem d46_5 : decode c_66 5 = .ok (.iload_n 1, 1) := by decide +kernel
theorem d46_6 : decode c_66 6 = .ok (.iload_n 2, 1) := by decide +kernel
theorem d46_7 : decode c_66 7 = .ok (.iload_n 3, 1) := by decide +kernel
theorem d46_8 : decode c_66 8 = .ok (.invokestatic 521, 3) := by decide +kernel
theorem d46_11 : decode c_66 11 = .ok (.iload_n 1, 1) := by decide +kernel
theorem d46_12 : decode c_66 12 = .ok (.ifCond .ne 10, 3) := by decide +kernel
theorem d46_15 : decode c_66 15 = .ok (.iload_n 2, 1) := by decide +kernel
theorem d46_16 : decode c_66 16 = .ok (.iload_n 3, 1) := by decide +kernel
theorem d46_17 : decode c_66 17 = .ok (.if_icmp .ne 5, 3) := by decide +kernel
theorem d46_22 : decode c_66 22 = .ok (.iload_n 2, 1) := by decide +kernel
theorem d46_23 : decode c_66 23 = .ok (.iload_n 1, 1) := by decide +kernel
theorem d46_24 : decode c_66 24 = .ok (.isub, 1) := by decide +kernel
theorem d46_25 : decode c_66 25 = .ok (.istore 4, 2) := by decide +kernel
theorem d46_27 : decode c_66 27 = .ok (.aload_n 0, 1) := by decide +kernel
theorem d46_28 : decode c_66 28 = .ok (.invokevirtual 492, 3) := by decide +kernel
theorem d46_31 : decode c_66 31 = .ok (.ifCond .eq 16, 3) := by decide +kernel
theorem d46_34 : decode c_66 34 = .ok (.aload_n 0, 1) := by decide +kernel
theorem d46_35 : decode c_66 35 = .ok (.getfield 9, 3) := by decide +kernel
theorem d46_38 : decode c_66 38 = .ok (.iload_n 1, 1) := by decide +kernel
theorem d46_39 : decode c_66 39 = .ok (.iload 4, 2) := by decide +kernel
theorem d46_41 : decode c_66 41 = .ok (.invokestatic 685, 3) := by decide +kernel
theorem d46_44 : decode c_66 44 = .ok (.goto 13, 3) := by decide +kernel
theorem d46_57 : decode c_66 57 = .ok (.areturn, 1) := by decide +kernel
theorem ef_sb0 (m : MethodId) (x0 : Addr) (x2 : Int32) : entryFrame m #[(.ref x0), (.int 0), (.int x2)] 5 = mkF m 0 #[.val (.ref x0), .val (.int 0), .val (.int x2), .unset, .unset] [] := by first | (simp [entryFrame, mkF, argsToLocals, Value.category]; done) | rfl
theorem rmsb0 (l : Launch) (Z : State) (a0 : Array Value) (hw : ∀ d ∈ tables_1, d.before a0 Z = true) (ws : List Jvm.Cond) (a1 : Addr) (g1 : Int32) (b : Addr) (kb : ClassId) (z : Int32) (cs : List Int32) (p3 : Int32) (j : Nat) (rS : Value) (h0 : Heap) (n0 : Nat) (Z0 : n0 ≤ h0.size) (E1 : Exa Z h0 a1 "java/lang/String") (Fc : Fld Z h0 a1 "java/lang/String" "coder" "B" (.int 0)) (Fv : Fld Z h0 a1 "java/lang/String" "value" "[B" (.ref b)) (Vb : Arv Z h0 b kb .byte z (List.map Value.int (List.map own_b8 cs)) (.int 0)) (hz : z.toInt = cs.length)  (hp : p3.toInt = j) (h1 : 1 ≤ j) (hjl : j < cs.length) (hjc : j ≤ 5) (hcs : own_chs cs) (hlen : cs.length ≤ 100) (lt : own_lat cs) (SC : Sta Z h0 "java/lang/String" "COMPACT_STRINGS" "Z" (.int g1)) (hg1 : ¬ (g1 = (0 : Int32))) (SA : Sta Z h0 "java/lang/StringUTF16" "$assertionsDisabled" "Z" (.int 1)) (SHI : Sta Z h0 "java/lang/StringUTF16" "HI_BYTE_SHIFT" "I" (.int 0)) (SLO : Sta Z h0 "java/lang/StringUTF16" "LO_BYTE_SHIFT" "I" (.int 8)) (SF : Sta Z h0 "jdk/internal/util/Preconditions" "SIOOBE_FORMATTER" "Ljava/util/function/BiFunction;" rS) (hrS : rS.isRef = true) : own_M l mN_66 jdk_42_method_92_code 5 (some (.object "java/lang/String")) ws ({ frames := 6, cells := 3, slots := 31, locals := 94 } : Room) Z h0 #[(.ref a1), (.int 0), (.int p3)] (Qs2 Z (cs.take j) h0 n0) := by
  refine own_go #[.val (.ref a1), .val (.int 0), .val (.int p3), .unset, .unset] (plainFor_of_name pn_0) (fun m => ef_sb0 m a1 p3) ?_
  intro p e s m below meth c s₁ hx hby hml hown hnm hlk X0 e0 hZ hrt
  have N0 := Fr.nil n0
  have KK := Keep.refl h0 []
  refine own_aloadN X0 hx hby d46_0 rfl rfl ?_
  obtain ⟨cq388, kq388, q388a, q388b, q388c⟩ := isOf hZ e0 E1
  obtain ⟨_, _, ⟨T388, L388, k388, n388⟩, -, X388, ⟨Lc388, hQ388, l388, y388, z388⟩, st388⟩ := X0.virtualBack hx (y := mN_2) (z := mN_2) hown (oV hZ hw 197 rfl) (oV hZ hw 87 rfl) (notFace_of_selects (args := #[]) (oV hZ hw 89 rfl)) (oV hZ hw 89 rfl) (oV hZ hw 88 rfl) (by decide) (backOf (W := 0) (rmln0 l Z a0 hw [] a1 g1 b kb z cs h0 n0 Z0 E1 Fc Fv Vb hz SC hg1) hZ (own_w hw 90 rfl) (own_w hw 12 rfl) (by decide) (by decide)) q388a q388c (g := (mkF m 1 #[.val (.ref a1), .val (.int 0), .val (.int p3), .unset, .unset] [(.ref a1)])) rfl (by rw [hml]; rfl) (Steps.refl _) (argsL := []) (rest := []) (lenOf pd_1 rfl) rfl (by exact oZ rfl) (hb hby d46_1) (fun _ _ => ⟨rfl, e0, (by decide : 0 + 0 ≤ _), (by decide : 0 + 0 ≤ _)⟩)
  dsimp only [Pt.U, Pt.locs, Pt.cells, Pt.slots] at X388 l388 y388 z388 st388 hQ388
  rw [l388, y388, z388] at X388
  obtain ⟨r388, rfl, Nq388, e388, hr388⟩ := hQ388
  have N388 := Fr.app N0 Nq388
  refine own_of (U' := (T388.setTop (mkF m 4 #[.val (.ref a1), .val (.int 0), .val (.int p3), .unset, .unset] [(.int r388)]))) (fun _ k => st388.trans k) ?_
  refine own_istoreN X388 hx hby d46_4 (l' := #[.val (.ref a1), .val (.int 0), .val (.int p3), .val (.int r388), .unset]) rfl ?_
  refine own_iloadN X388 hx hby d46_5 rfl ?_
  refine own_iloadN X388 hx hby d46_6 rfl ?_
  refine own_iloadN X388 hx hby d46_7 rfl ?_
  obtain ⟨_, _, ⟨T389, L389, k389, n389⟩, -, X389, ⟨Lc389, hQ389, l389, y389, z389⟩, st389⟩ := Jvm.LawKit.callS X388 hx (y := mN_14) hown (oV hZ hw 217 rfl) (oV hZ hw 218 rfl) (oV hZ hw 12 rfl) (oV hZ hw 219 rfl) (by decide) (backOf (W := 0) (rmbe l Z a0 hw [] (0 : Int32) p3 r388 rS h0 n0 Z0 (by decide) (own_ge0 (by omega)) (by rw [own_ltI]; omega) SF hrS) hZ (own_w hw 219 rfl) (own_w hw 12 rfl) (by decide) (by decide)) (g := (mkF m 8 #[.val (.ref a1), .val (.int 0), .val (.int p3), .val (.int r388), .unset] [(.int r388), (.int p3), (.int 0)])) rfl (by rw [hml]; rfl) (argsL := [(.int 0), (.int p3), (.int r388)]) (rest := []) (lenOf pd_7 rfl) rfl (by exact oZ rfl) (hb hby d46_8) (fun _ _ => ⟨rfl, e388, (by decide : 0 + 0 ≤ _), (by decide : 0 + 0 ≤ _)⟩)
  dsimp only [Pt.U, Pt.locs, Pt.cells, Pt.slots] at X389 l389 y389 z389 st389 hQ389
  rw [l389, y389, z389] at X389
  obtain ⟨rfl, Nq389, e389⟩ := hQ389
  have N389 := Fr.app N388 Nq389
  refine own_of (U' := (T389.setTop (mkF m 11 #[.val (.ref a1), .val (.int 0), .val (.int p3), .val (.int r388), .unset] []))) (st389) ?_
  refine own_iloadN X389 hx hby d46_11 rfl ?_
  have hc12_390 : (0 : Int32) = (0 : Int32) := by decide
  refine own_ifNo X389 hx hby d46_12 ((if0 _ _).trans (teq hc12_390).2) ?_
  refine own_iloadN X389 hx hby d46_15 rfl ?_
  refine own_iloadN X389 hx hby d46_16 rfl ?_
  have hc17_391 : ¬ (p3 = r388) := fun q => by rw [q] at hp; omega
  refine own_icmpYes X389 hx hby 17 22 d46_17 (feq hc17_391).2 (by decide) (by decide) ?_
  refine own_iloadN X389 hx hby d46_22 rfl ?_
  refine own_iloadN X389 hx hby d46_23 rfl ?_
  refine own_isub X389 hx hby d46_24 ?_
  refine own_eq (U' := (T389.setTop (mkF m 25 #[.val (.ref a1), .val (.int 0), .val (.int p3), .val (.int r388), .unset] [(.int p3)]))) (by rw [show (p3 - (0 : Int32)) = p3 from own_sub0 p3]) ?_
  refine own_istore X389 hx hby d46_25 (l' := #[.val (.ref a1), .val (.int 0), .val (.int p3), .val (.int r388), .val (.int p3)]) rfl ?_
  refine own_aloadN X389 hx hby d46_27 rfl rfl ?_
  obtain ⟨cq392, kq392, q392a, q392b, q392c⟩ := isOf hZ e389 E1
  obtain ⟨_, _, ⟨T392, L392, k392, n392⟩, -, X392, ⟨Lc392, hQ392, l392, y392, z392⟩, st392⟩ := X389.virtualBack hx (y := mN_1) (z := mN_1) hown (oV hZ hw 192 rfl) (oV hZ hw 193 rfl) (notFace_of_selects (args := #[]) (oV hZ hw 195 rfl)) (oV hZ hw 195 rfl) (oV hZ hw 194 rfl) (by decide) (backOf (W := 0) (rmilL l Z a0 hw [] a1 g1 h0 n0 Z0 Fc SC hg1) hZ (own_w hw 196 rfl) (own_w hw 12 rfl) (by decide) (by decide)) q392a q392c (g := (mkF m 28 #[.val (.ref a1), .val (.int 0), .val (.int p3), .val (.int r388), .val (.int p3)] [(.ref a1)])) rfl (by rw [hml]; rfl) (Steps.refl _) (argsL := []) (rest := []) (lenOf pd_13 rfl) rfl (by exact oZ rfl) (hb hby d46_28) (fun _ _ => ⟨rfl, e389, (by decide : 0 + 0 ≤ _), (by decide : 0 + 0 ≤ _)⟩)
  dsimp only [Pt.U, Pt.locs, Pt.cells, Pt.slots] at X392 l392 y392 z392 st392 hQ392
  rw [l392, y392, z392] at X392
  obtain ⟨rfl, Nq392, e392⟩ := hQ392
  have N392 := Fr.app N389 Nq392
  refine own_of (U' := (T392.setTop (mkF m 31 #[.val (.ref a1), .val (.int 0), .val (.int p3), .val (.int r388), .val (.int p3)] [(.int 1)]))) (fun _ k => st392.trans k) ?_
  have hc31_393 : ¬ ((1 : Int32) = (0 : Int32)) := by decide
  refine own_ifNo X392 hx hby d46_31 ((if0 _ _).trans (feq hc31_393).1) ?_
  refine own_aloadN X392 hx hby d46_34 rfl rfl ?_
  obtain ⟨T394, X394, e394, st394⟩ := getF X392 hx hZ hown (host := "") (Or.inl (own_w hw 38 rfl)) Via.refl e392 Fv (g := (mkF m 35 #[.val (.ref a1), .val (.int 0), .val (.int p3), .val (.int r388), .val (.int p3)] [(.ref a1)])) rfl rfl (hb hby d46_35)
  refine own_of (U' := (T394.setTop (mkF m 38 #[.val (.ref a1), .val (.int 0), .val (.int p3), .val (.int r388), .val (.int p3)] [(.ref b)]))) (st394) ?_
  refine own_iloadN X394 hx hby d46_38 rfl ?_
  refine own_iload X394 hx hby d46_39 rfl ?_
  obtain ⟨_, _, ⟨T395, L395, k395, n395⟩, -, X395, ⟨Lc395, hQ395, l395, y395, z395⟩, st395⟩ := Jvm.LawKit.callS X394 hx (y := mN_65) hown (oV hZ hw 225 rfl) (oV hZ hw 226 rfl) (oV hZ hw 45 rfl) (oV hZ hw 227 rfl) (by decide) (backOf (W := 0) (rmln l Z a0 hw [] b p3 kb z cs j h0 n0 Z0 Vb hz hp h1 hjl hjc hcs hlen lt) hZ (own_w hw 227 rfl) (own_w hw 45 rfl) (by decide) (by decide)) (g := (mkF m 41 #[.val (.ref a1), .val (.int 0), .val (.int p3), .val (.int r388), .val (.int p3)] [(.int p3), (.int 0), (.ref b)])) rfl (by rw [hml]; rfl) (argsL := [(.ref b), (.int 0), (.int p3)]) (rest := []) (lenOf pd_38 rfl) rfl (by exact oZ rfl) (hb hby d46_41) (fun _ _ => ⟨rfl, e394, (by decide : 0 + 2 ≤ _), (by decide : 0 + 26 ≤ _)⟩)
  dsimp only [Pt.U, Pt.locs, Pt.cells, Pt.slots] at X395 l395 y395 z395 st395 hQ395
  rw [l395, y395, z395] at X395
  obtain ⟨a395, rfl, Nq395, Kp395, ga395, Oq395⟩ := hQ395
  have g_a395 : n0 ≤ a395 := nT Z0 ga395
  have sz_a395 : h0.size ≤ a395 := nT KK.1 ga395
  have ne_a1_a395 : a1 ≠ a395 := nL E1.lt ga395
  have ne_b_a395 : b ≠ a395 := nL Vb.lt ga395
  have N395 := Fr.app N392 Nq395
  replace Z0 := nT Z0 Kp395.1
  replace E1 := E1.keep Kp395
  replace Fc := Fc.keep Kp395 nin0
  replace Fv := Fv.keep Kp395 nin0
  replace Vb := Vb.keep Kp395 nin0
  replace SC := own_staKeep SC Kp395 ns0
  replace SA := own_staKeep SA Kp395 ns0
  replace SHI := own_staKeep SHI Kp395 ns0
  replace SLO := own_staKeep SLO Kp395 ns0
  replace SF := own_staKeep SF Kp395 ns0
  replace KK := KK.trans Kp395 all0
  have Es395 := own_S2exa Oq395
  refine own_of (U' := (T395.setTop (mkF m 44 #[.val (.ref a1), .val (.int 0), .val (.int p3), .val (.int r388), .val (.int p3)] [(.ref a395)]))) (st395) ?_
  refine own_goto X395 hx hby 44 57 d46_44 (by decide) (by decide) ?_
  exact own_retA X395 hx hlk hrt rfl rfl (hb hby d46_57) (by decide) (by decide) (⟨a395, rfl, N395, KK, sz_a395, Oq395⟩)
theorem d46_47 : decode c_66 47 = .ok (.aload_n 0, 1) := by decide +kernel
theorem d46_48 : decode c_66 48 = .ok (.getfield 9, 3) := by decide +kernel
theorem d46_51 : decode c_66 51 = .ok (.iload_n 1, 1) := by decide +kernel
theorem d46_52 : decode c_66 52 = .ok (.iload 4, 2) := by decide +kernel
theorem d46_54 : decode c_66 54 = .ok (.invokestatic 689, 3) := by decide +kernel
theorem ef_sb1 (m : MethodId) (x0 : Addr) (x2 : Int32) : entryFrame m #[(.ref x0), (.int 0), (.int x2)] 5 = mkF m 0 #[.val (.ref x0), .val (.int 0), .val (.int x2), .unset, .unset] [] := by first | (simp [entryFrame, mkF, argsToLocals, Value.category]; done) | rfl
theorem rmsb1 (l : Launch) (Z : State) (a0 : Array Value) (hw : ∀ d ∈ tables_1, d.before a0 Z = true) (ws : List Jvm.Cond) (a1 : Addr) (g1 : Int32) (b : Addr) (kb : ClassId) (z : Int32) (cs : List Int32) (p3 : Int32) (j : Nat) (rS : Value) (h0 : Heap) (n0 : Nat) (Z0 : n0 ≤ h0.size) (E1 : Exa Z h0 a1 "java/lang/String") (Fc : Fld Z h0 a1 "java/lang/String" "coder" "B" (.int 1)) (Fv : Fld Z h0 a1 "java/lang/String" "value" "[B" (.ref b)) (Vb : Arv Z h0 b kb .byte z (List.map Value.int (own_u16 cs)) (.int 0)) (hz : z.toInt = 2 * (cs.length : Int))  (hp : p3.toInt = j) (h1 : 1 ≤ j) (hjl : j < cs.length) (hjc : j ≤ 5) (hcs : own_chs cs) (hlen : cs.length ≤ 100) (lt : ¬ own_lat cs) (SC : Sta Z h0 "java/lang/String" "COMPACT_STRINGS" "Z" (.int g1)) (hg1 : ¬ (g1 = (0 : Int32))) (SA : Sta Z h0 "java/lang/StringUTF16" "$assertionsDisabled" "Z" (.int 1)) (SHI : Sta Z h0 "java/lang/StringUTF16" "HI_BYTE_SHIFT" "I" (.int 0)) (SLO : Sta Z h0 "java/lang/StringUTF16" "LO_BYTE_SHIFT" "I" (.int 8)) (SF : Sta Z h0 "jdk/internal/util/Preconditions" "SIOOBE_FORMATTER" "Ljava/util/function/BiFunction;" rS) (hrS : rS.isRef = true) : own_M l mN_66 jdk_42_method_92_code 5 (some (.object "java/lang/String")) ws ({ frames := 6, cells := 3, slots := 31, locals := 94 } : Room) Z h0 #[(.ref a1), (.int 0), (.int p3)] (Qs2 Z (cs.take j) h0 n0) := by
  refine own_go #[.val (.ref a1), .val (.int 0), .val (.int p3), .unset, .unset] (plainFor_of_name pn_0) (fun m => ef_sb1 m a1 p3) ?_
  intro p e s m below meth c s₁ hx hby hml hown hnm hlk X0 e0 hZ hrt
  have N0 := Fr.nil n0
  have KK := Keep.refl h0 []
  refine own_aloadN X0 hx hby d46_0 rfl rfl ?_
  obtain ⟨cq396, kq396, q396a, q396b, q396c⟩ := isOf hZ e0 E1
  obtain ⟨_, _, ⟨T396, L396, k396, n396⟩, -, X396, ⟨Lc396, hQ396, l396, y396, z396⟩, st396⟩ := X0.virtualBack hx (y := mN_2) (z := mN_2) hown (oV hZ hw 197 rfl) (oV hZ hw 87 rfl) (notFace_of_selects (args := #[]) (oV hZ hw 89 rfl)) (oV hZ hw 89 rfl) (oV hZ hw 88 rfl) (by decide) (backOf (W := 0) (rmln1 l Z a0 hw [] a1 g1 b kb z cs h0 n0 Z0 E1 Fc Fv Vb hz SC hg1) hZ (own_w hw 90 rfl) (own_w hw 12 rfl) (by decide) (by decide)) q396a q396c (g := (mkF m 1 #[.val (.ref a1), .val (.int 0), .val (.int p3), .unset, .unset] [(.ref a1)])) rfl (by rw [hml]; rfl) (Steps.refl _) (argsL := []) (rest := []) (lenOf pd_1 rfl) rfl (by exact oZ rfl) (hb hby d46_1) (fun _ _ => ⟨rfl, e0, (by decide : 0 + 0 ≤ _), (by decide : 0 + 0 ≤ _)⟩)
  dsimp only [Pt.U, Pt.locs, Pt.cells, Pt.slots] at X396 l396 y396 z396 st396 hQ396
  rw [l396, y396, z396] at X396
  obtain ⟨r396, rfl, Nq396, e396, hr396⟩ := hQ396
  have N396 := Fr.app N0 Nq396
  refine own_of (U' := (T396.setTop (mkF m 4 #[.val (.ref a1), .val (.int 0), .val (.int p3), .unset, .unset] [(.int r396)]))) (fun _ k => st396.trans k) ?_
  refine own_istoreN X396 hx hby d46_4 (l' := #[.val (.ref a1), .val (.int 0), .val (.int p3), .val (.int r396), .unset]) rfl ?_
  refine own_iloadN X396 hx hby d46_5 rfl ?_
  refine own_iloadN X396 hx hby d46_6 rfl ?_
  refine own_iloadN X396 hx hby d46_7 rfl ?_
  obtain ⟨_, _, ⟨T397, L397, k397, n397⟩, -, X397, ⟨Lc397, hQ397, l397, y397, z397⟩, st397⟩ := Jvm.LawKit.callS X396 hx (y := mN_14) hown (oV hZ hw 217 rfl) (oV hZ hw 218 rfl) (oV hZ hw 12 rfl) (oV hZ hw 219 rfl) (by decide) (backOf (W := 0) (rmbe l Z a0 hw [] (0 : Int32) p3 r396 rS h0 n0 Z0 (by decide) (own_ge0 (by omega)) (by rw [own_ltI]; omega) SF hrS) hZ (own_w hw 219 rfl) (own_w hw 12 rfl) (by decide) (by decide)) (g := (mkF m 8 #[.val (.ref a1), .val (.int 0), .val (.int p3), .val (.int r396), .unset] [(.int r396), (.int p3), (.int 0)])) rfl (by rw [hml]; rfl) (argsL := [(.int 0), (.int p3), (.int r396)]) (rest := []) (lenOf pd_7 rfl) rfl (by exact oZ rfl) (hb hby d46_8) (fun _ _ => ⟨rfl, e396, (by decide : 0 + 0 ≤ _), (by decide : 0 + 0 ≤ _)⟩)
  dsimp only [Pt.U, Pt.locs, Pt.cells, Pt.slots] at X397 l397 y397 z397 st397 hQ397
  rw [l397, y397, z397] at X397
  obtain ⟨rfl, Nq397, e397⟩ := hQ397
  have N397 := Fr.app N396 Nq397
  refine own_of (U' := (T397.setTop (mkF m 11 #[.val (.ref a1), .val (.int 0), .val (.int p3), .val (.int r396), .unset] []))) (st397) ?_
  refine own_iloadN X397 hx hby d46_11 rfl ?_
  have hc12_398 : (0 : Int32) = (0 : Int32) := by decide
  refine own_ifNo X397 hx hby d46_12 ((if0 _ _).trans (teq hc12_398).2) ?_
  refine own_iloadN X397 hx hby d46_15 rfl ?_
  refine own_iloadN X397 hx hby d46_16 rfl ?_
  have hc17_399 : ¬ (p3 = r396) := fun q => by rw [q] at hp; omega
  refine own_icmpYes X397 hx hby 17 22 d46_17 (feq hc17_399).2 (by decide) (by decide) ?_
  refine own_iloadN X397 hx hby d46_22 rfl ?_
  refine own_iloadN X397 hx hby d46_23 rfl ?_
  refine own_isub X397 hx hby d46_24 ?_
  refine own_eq (U' := (T397.setTop (mkF m 25 #[.val (.ref a1), .val (.int 0), .val (.int p3), .val (.int r396), .unset] [(.int p3)]))) (by rw [show (p3 - (0 : Int32)) = p3 from own_sub0 p3]) ?_
  refine own_istore X397 hx hby d46_25 (l' := #[.val (.ref a1), .val (.int 0), .val (.int p3), .val (.int r396), .val (.int p3)]) rfl ?_
  refine own_aloadN X397 hx hby d46_27 rfl rfl ?_
  obtain ⟨cq400, kq400, q400a, q400b, q400c⟩ := isOf hZ e397 E1
  obtain ⟨_, _, ⟨T400, L400, k400, n400⟩, -, X400, ⟨Lc400, hQ400, l400, y400, z400⟩, st400⟩ := X397.virtualBack hx (y := mN_1) (z := mN_1) hown (oV hZ hw 192 rfl) (oV hZ hw 193 rfl) (notFace_of_selects (args := #[]) (oV hZ hw 195 rfl)) (oV hZ hw 195 rfl) (oV hZ hw 194 rfl) (by decide) (backOf (W := 0) (rmilU l Z a0 hw [] a1 g1 h0 n0 Z0 Fc SC hg1) hZ (own_w hw 196 rfl) (own_w hw 12 rfl) (by decide) (by decide)) q400a q400c (g := (mkF m 28 #[.val (.ref a1), .val (.int 0), .val (.int p3), .val (.int r396), .val (.int p3)] [(.ref a1)])) rfl (by rw [hml]; rfl) (Steps.refl _) (argsL := []) (rest := []) (lenOf pd_13 rfl) rfl (by exact oZ rfl) (hb hby d46_28) (fun _ _ => ⟨rfl, e397, (by decide : 0 + 0 ≤ _), (by decide : 0 + 0 ≤ _)⟩)
  dsimp only [Pt.U, Pt.locs, Pt.cells, Pt.slots] at X400 l400 y400 z400 st400 hQ400
  rw [l400, y400, z400] at X400
  obtain ⟨rfl, Nq400, e400⟩ := hQ400
  have N400 := Fr.app N397 Nq400
  refine own_of (U' := (T400.setTop (mkF m 31 #[.val (.ref a1), .val (.int 0), .val (.int p3), .val (.int r396), .val (.int p3)] [(.int 0)]))) (fun _ k => st400.trans k) ?_
  have hc31_401 : (0 : Int32) = (0 : Int32) := by decide
  refine own_ifYes X400 hx hby 31 47 d46_31 ((if0 _ _).trans (teq hc31_401).1) (by decide) (by decide) ?_
  refine own_aloadN X400 hx hby d46_47 rfl rfl ?_
  obtain ⟨T402, X402, e402, st402⟩ := getF X400 hx hZ hown (host := "") (Or.inl (own_w hw 38 rfl)) Via.refl e400 Fv (g := (mkF m 48 #[.val (.ref a1), .val (.int 0), .val (.int p3), .val (.int r396), .val (.int p3)] [(.ref a1)])) rfl rfl (hb hby d46_48)
  refine own_of (U' := (T402.setTop (mkF m 51 #[.val (.ref a1), .val (.int 0), .val (.int p3), .val (.int r396), .val (.int p3)] [(.ref b)]))) (st402) ?_
  refine own_iloadN X402 hx hby d46_51 rfl ?_
  refine own_iload X402 hx hby d46_52 rfl ?_
  obtain ⟨_, _, ⟨T403, L403, k403, n403⟩, -, X403, ⟨Lc403, hQ403, l403, y403, z403⟩, st403⟩ := Jvm.LawKit.callS X402 hx (y := mN_64) hown (oV hZ hw 313 rfl) (oV hZ hw 314 rfl) (oV hZ hw 27 rfl) (oV hZ hw 315 rfl) (by decide) (backOf (W := 0) (rmns l Z a0 hw [] b p3 kb z cs j g1 rS h0 n0 Z0 Vb hz hp h1 hjl hjc hcs hlen SC hg1 SA SHI SLO SF hrS) hZ (own_w hw 315 rfl) (own_w hw 27 rfl) (by decide) (by decide)) (g := (mkF m 54 #[.val (.ref a1), .val (.int 0), .val (.int p3), .val (.int r396), .val (.int p3)] [(.int p3), (.int 0), (.ref b)])) rfl (by rw [hml]; rfl) (argsL := [(.ref b), (.int 0), (.int p3)]) (rest := []) (lenOf pd_38 rfl) rfl (by exact oZ rfl) (hb hby d46_54) (fun _ _ => ⟨rfl, e402, (by decide : 0 + 3 ≤ _), (by decide : 0 + 31 ≤ _)⟩)
  dsimp only [Pt.U, Pt.locs, Pt.cells, Pt.slots] at X403 l403 y403 z403 st403 hQ403
  rw [l403, y403, z403] at X403
  obtain ⟨a403, rfl, Nq403, Kp403, ga403, Oq403⟩ := hQ403
  have g_a403 : n0 ≤ a403 := nT Z0 ga403
  have sz_a403 : h0.size ≤ a403 := nT KK.1 ga403
  have ne_a1_a403 : a1 ≠ a403 := nL E1.lt ga403
  have ne_b_a403 : b ≠ a403 := nL Vb.lt ga403
  have N403 := Fr.app N400 Nq403
  replace Z0 := nT Z0 Kp403.1
  replace E1 := E1.keep Kp403
  replace Fc := Fc.keep Kp403 nin0
  replace Fv := Fv.keep Kp403 nin0
  replace Vb := Vb.keep Kp403 nin0
  replace SC := own_staKeep SC Kp403 ns0
  replace SA := own_staKeep SA Kp403 ns0
  replace SHI := own_staKeep SHI Kp403 ns0
  replace SLO := own_staKeep SLO Kp403 ns0
  replace SF := own_staKeep SF Kp403 ns0
  replace KK := KK.trans Kp403 all0
  have Es403 := own_S2exa Oq403
  refine own_of (U' := (T403.setTop (mkF m 57 #[.val (.ref a1), .val (.int 0), .val (.int p3), .val (.int r396), .val (.int p3)] [(.ref a403)]))) (st403) ?_
  exact own_retA X403 hx hlk hrt rfl rfl (hb hby d46_57) (by decide) (by decide) (⟨a403, rfl, N403, KK, sz_a403, Oq403⟩)
theorem rmsb (l : Launch) (Z : State) (a0 : Array Value) (hw : ∀ d ∈ tables_1, d.before a0 Z = true) (ws : List Jvm.Cond) (a1 : Addr) (p3 : Int32) (cs : List Int32) (n1 : Nat) (j : Nat) (g1 : Int32) (rS : Value) (h0 : Heap) (n0 : Nat) (Z0 : n0 ≤ h0.size) (O1 : own_S2 Z h0 n1 a1 cs) (hp : p3.toInt = j) (h1 : 1 ≤ j) (hjl : j < cs.length) (hjc : j ≤ 5) (hcs : own_chs cs) (hlen : cs.length ≤ 100) (SC : Sta Z h0 "java/lang/String" "COMPACT_STRINGS" "Z" (.int g1)) (hg1 : ¬ (g1 = (0 : Int32))) (SA : Sta Z h0 "java/lang/StringUTF16" "$assertionsDisabled" "Z" (.int 1)) (SHI : Sta Z h0 "java/lang/StringUTF16" "HI_BYTE_SHIFT" "I" (.int 0)) (SLO : Sta Z h0 "java/lang/StringUTF16" "LO_BYTE_SHIFT" "I" (.int 8)) (SF : Sta Z h0 "jdk/internal/util/Preconditions" "SIOOBE_FORMATTER" "Ljava/util/function/BiFunction;" rS) (hrS : rS.isRef = true) : own_M l mN_66 jdk_42_method_92_code 5 (some (.object "java/lang/String")) ws ({ frames := 6, cells := 3, slots := 31, locals := 94 } : Room) Z h0 #[(.ref a1), (.int 0), (.int p3)] (Qs2 Z (cs.take j) h0 n0) := by
  obtain ⟨b, kb, cd, z, la, lb, E1, Fc, Fv, ⟨rfl, lt, hz, Vb⟩ | ⟨rfl, lt, hz, Vb⟩⟩ := O1
  · exact rmsb0 l Z a0 hw ws a1 g1 b kb z cs p3 j rS h0 n0 Z0 E1 Fc Fv Vb hz hp h1 hjl hjc hcs hlen lt SC hg1 SA SHI SLO SF hrS
  · exact rmsb1 l Z a0 hw ws a1 g1 b kb z cs p3 j rS h0 n0 Z0 E1 Fc Fv Vb hz hp h1 hjl hjc hcs hlen lt SC hg1 SA SHI SLO SF hrS
abbrev mN_67 : MethodName := ⟨"java/lang/StringLatin1", "equals", "([B[B)Z"⟩
theorem d51_0 : decode c_67 0 = .ok (.aload_n 0, 1) := by decide +kernel
theorem d51_1 : decode c_67 1 = .ok (.arraylength, 1) := by decide +kernel
theorem d51_2 : decode c_67 2 = .ok (.aload_n 1, 1) := by decide +kernel
theorem d51_3 : decode c_67 3 = .ok (.arraylength, 1) := by decide +kernel
theorem d51_4 : decode c_67 4 = .ok (.if_icmp .ne 30, 3) := by decide +kernel
theorem d51_7 : decode c_67 7 = .ok (.iconst 0, 1) := by decide +kernel
theorem d51_8 : decode c_67 8 = .ok (.istore_n 2, 1) := by decide +kernel
theorem d51_9 : decode c_67 9 = .ok (.iload_n 2, 1) := by decide +kernel
theorem d51_10 : decode c_67 10 = .ok (.aload_n 0, 1) := by decide +kernel
theorem d51_11 : decode c_67 11 = .ok (.arraylength, 1) := by decide +kernel
theorem d51_12 : decode c_67 12 = .ok (.if_icmp .ge 20, 3) := by decide +kernel
theorem d51_15 : decode c_67 15 = .ok (.aload_n 0, 1) := by decide +kernel
theorem d51_16 : decode c_67 16 = .ok (.iload_n 2, 1) := by decide +kernel
theorem d51_17 : decode c_67 17 = .ok (.baload, 1) := by decide +kernel
theorem d51_18 : decode c_67 18 = .ok (.aload_n 1, 1) := by decide +kernel
theorem d51_19 : decode c_67 19 = .ok (.iload_n 2, 1) := by decide +kernel
theorem d51_20 : decode c_67 20 = .ok (.baload, 1) := by decide +kernel
theorem d51_21 : decode c_67 21 = .ok (.if_icmp .eq 5, 3) := by decide +kernel
theorem d51_26 : decode c_67 26 = .ok (.iinc 2 1, 3) := by decide +kernel
theorem d51_29 : decode c_67 29 = .ok (.goto (-20), 3) := by decide +kernel
theorem d51_32 : decode c_67 32 = .ok (.iconst 1, 1) := by decide +kernel
theorem d51_33 : decode c_67 33 = .ok (.ireturn, 1) := by decide +kernel
theorem ef_le (m : MethodId) (x0 : Addr) (x1 : Addr) : entryFrame m #[(.ref x0), (.ref x1)] 3 = mkF m 0 #[.val (.ref x0), .val (.ref x1), .unset] [] := by first | (simp [entryFrame, mkF, argsToLocals, Value.category]; done) | rfl
theorem rmle (l : Launch) (Z : State) (a0 : Array Value) (hw : ∀ d ∈ tables_1, d.before a0 Z = true) (ws : List Jvm.Cond) (b b2 : Addr) (kb kb2 : ClassId) (z : Int32) (bs : List Int32) (h0 : Heap) (n0 : Nat) (Z0 : n0 ≤ h0.size) (Vb : Arv Z h0 b kb .byte z (List.map Value.int bs) (.int 0)) (V2 : Arv Z h0 b2 kb2 .byte z (List.map Value.int bs) (.int 0)) (hz : z.toInt = bs.length)  : own_M l mN_67 jdk_43_method_13_code 3 (some .boolean) ws ({ frames := 0, cells := 0, slots := 0, locals := 0 } : Room) Z h0 #[(.ref b), (.ref b2)] (Qv 1 h0 n0) := by
  refine own_go #[.val (.ref b), .val (.ref b2), .unset] (plainFor_of_name pn_6) (fun m => ef_le m b b2) ?_
  intro p e s m below meth c s₁ hx hby hml hown hnm hlk X0 e0 hZ hrt
  have N0 := Fr.nil n0
  refine own_aloadN X0 hx hby d51_0 rfl rfl ?_
  obtain ⟨cl404, Ar404, qa404, Sa404, Na404, -, -⟩ := id Vb
  have al404 := X0.arraylength hx (by rw [e0]; exact Ar404.1) (State.isArrayOf_alike hZ.alike Ar404.2.1) (g := (mkF m 1 #[.val (.ref b), .val (.ref b2), .unset] [(.ref b)])) rfl rfl (hb hby d51_1)
  rw [len_of Sa404 Na404] at al404
  refine own_of (U' := (s₁.setTop (mkF m 2 #[.val (.ref b), .val (.ref b2), .unset] [(.int z)]))) (al404) ?_
  refine own_aloadN X0 hx hby d51_2 rfl rfl ?_
  obtain ⟨cl405, Ar405, qa405, Sa405, Na405, -, -⟩ := id V2
  have al405 := X0.arraylength hx (by rw [e0]; exact Ar405.1) (State.isArrayOf_alike hZ.alike Ar405.2.1) (g := (mkF m 3 #[.val (.ref b), .val (.ref b2), .unset] [(.ref b2), (.int z)])) rfl rfl (hb hby d51_3)
  rw [len_of Sa405 Na405] at al405
  refine own_of (U' := (s₁.setTop (mkF m 4 #[.val (.ref b), .val (.ref b2), .unset] [(.int z), (.int z)]))) (al405) ?_
  have hc4_406 : z = z := rfl
  refine own_icmpNo X0 hx hby d51_4 (teq hc4_406).2 ?_
  refine own_iconst X0 hx hby 0 d51_7 rfl ?_
  refine own_istoreN X0 hx hby d51_8 (l' := #[.val (.ref b), .val (.ref b2), .val (.int 0)]) rfl ?_
  suffices key407 : ∀ (f : Nat) (T407 : State) (L407 : List Loc) (i : Int32), Stand p l e ({ frames := 0, cells := 0, slots := 0, locals := 0 } : Room) s m #[(.ref b), (.ref b2)] below meth c T407 L407 0 0 → T407.heap = h0 → Fr n0 L407 → (0 ≤ i.toInt ∧ i.toInt + (f : Int) = (bs.length : Int)) → own_Ends p e below s FrameEnd (Qv 1 h0 n0) 0 0 (T407.setTop (mkF m 9 #[.val (.ref b), .val (.ref b2), .val (.int i)] [])) by
    exact key407 bs.length _ _ _ X0 e0 N0 ⟨by decide, by rw [own_i0]; omega⟩
  intro f
  induction f using Nat.strongRecOn with
  | _ f ih407 =>
    intro T407 L407 i X407 e407 N407 iv
    obtain ⟨i0, hif⟩ := iv
    refine own_iloadN X407 hx hby d51_9 rfl ?_
    refine own_aloadN X407 hx hby d51_10 rfl rfl ?_
    obtain ⟨cl408, Ar408, qa408, Sa408, Na408, -, -⟩ := id Vb
    have al408 := X407.arraylength hx (by rw [e407]; exact Ar408.1) (State.isArrayOf_alike hZ.alike Ar408.2.1) (g := (mkF m 11 #[.val (.ref b), .val (.ref b2), .val (.int i)] [(.ref b), (.int i)])) rfl rfl (hb hby d51_11)
    rw [len_of Sa408 Na408] at al408
    refine own_of (U' := (T407.setTop (mkF m 12 #[.val (.ref b), .val (.ref b2), .val (.int i)] [(.int z), (.int i)]))) (al408) ?_
    by_cases hc12_409 : i < z
    · skip
      refine own_icmpNo X407 hx hby d51_12 (tlt hc12_409).2.1 ?_
      have hjl : i.toInt < bs.length := by have q := hc12_409; rw [own_ltI, hz] at q; omega
      obtain ⟨g, rfl⟩ : ∃ g, f = g + 1 := ⟨f - 1, by omega⟩
      have hi1 : (i + (1 : Int32)).toInt = i.toInt + 1 := by have r := rng32 z; rw [own_addI (by rw [own_i1]; omega) (by rw [own_i1]; omega), own_i1]
      refine own_aloadN X407 hx hby d51_15 rfl rfl ?_
      refine own_iloadN X407 hx hby d51_16 rfl ?_
      obtain ⟨cl410, Ar410, qa410, Sa410, Na410, Ha410, Ga410⟩ := id Vb
      have hin410 : ¬ (i < 0 ∨ cl410.slots.size ≤ (i).toNatClampNeg) := inb_of Sa410 ⟨own_ge0 (by omega), by rw [own_ltI, hz]; omega⟩
      have hat410 : cl410.slots[(i).toNatClampNeg]? = some (.int (own_at bs i)) := Has.at Ha410 hin410 (own_at_eq bs _)
      refine own_of (U' := (T407.setTop (mkF m 18 #[.val (.ref b), .val (.ref b2), .val (.int i)] [(.int (own_at bs i))]))) (X407.baloadBytes hx (j := i) (v := (.int (own_at bs i))) (by rw [e407]; exact Ar410.1) (State.isArrayOf_alike hZ.alike Ar410.2.1) Ar410.2.2 hin410 hat410 (g := (mkF m 17 #[.val (.ref b), .val (.ref b2), .val (.int i)] [(.int i), (.ref b)])) rfl rfl (hb hby d51_17)) ?_
      refine own_aloadN X407 hx hby d51_18 rfl rfl ?_
      refine own_iloadN X407 hx hby d51_19 rfl ?_
      obtain ⟨cl411, Ar411, qa411, Sa411, Na411, Ha411, Ga411⟩ := id V2
      have hin411 : ¬ (i < 0 ∨ cl411.slots.size ≤ (i).toNatClampNeg) := inb_of Sa411 ⟨own_ge0 (by omega), by rw [own_ltI, hz]; omega⟩
      have hat411 : cl411.slots[(i).toNatClampNeg]? = some (.int (own_at bs i)) := Has.at Ha411 hin411 (own_at_eq bs _)
      refine own_of (U' := (T407.setTop (mkF m 21 #[.val (.ref b), .val (.ref b2), .val (.int i)] [(.int (own_at bs i)), (.int (own_at bs i))]))) (X407.baloadBytes hx (j := i) (v := (.int (own_at bs i))) (by rw [e407]; exact Ar411.1) (State.isArrayOf_alike hZ.alike Ar411.2.1) Ar411.2.2 hin411 hat411 (g := (mkF m 20 #[.val (.ref b), .val (.ref b2), .val (.int i)] [(.int i), (.ref b2), (.int (own_at bs i))])) rfl rfl (hb hby d51_20)) ?_
      have hc21_412 : (own_at bs i) = (own_at bs i) := rfl
      refine own_icmpYes X407 hx hby 21 26 d51_21 (teq hc21_412).1 (by decide) (by decide) ?_
      refine own_iinc X407 hx hby d51_26 rfl (l' := #[.val (.ref b), .val (.ref b2), .val (.int (i + (1 : Int32)))]) rfl ?_
      refine own_goto X407 hx hby 29 9 d51_29 (by decide) (by decide) ?_
      exact ih407 g (Nat.lt_succ_self g) _ _ _ X407 e407 N407 ⟨by omega, by omega⟩
    · skip
      refine own_icmpYes X407 hx hby 12 32 d51_12 (flt hc12_409).2.1 (by decide) (by decide) ?_
      refine own_iconst X407 hx hby 1 d51_32 rfl ?_
      exact own_retN X407 hx hlk (t := .boolean) hrt (by simp) (hb hby d51_33) (by decide) (by decide) (⟨rfl, N407, e407⟩)
abbrev mN_68 : MethodName := ⟨"java/lang/String", "equals", "(Ljava/lang/Object;)Z"⟩
theorem pd_39 : parseMethodDescriptor "([B[B)Z" = some ⟨[(.array .byte), (.array .byte)], some .boolean⟩ := by decide +kernel
theorem d50_0 : decode c_68 0 = .ok (.aload_n 0, 1) := by decide +kernel
theorem d50_1 : decode c_68 1 = .ok (.aload_n 1, 1) := by decide +kernel
theorem d50_2 : decode c_68 2 = .ok (.if_acmp .ne 5, 3) := by decide +kernel
theorem d50_7 : decode c_68 7 = .ok (.aload_n 1, 1) := by decide +kernel
theorem d50_8 : decode c_68 8 = .ok (.instanceof 10, 3) := by decide +kernel
theorem d50_11 : decode c_68 11 = .ok (.ifCond .eq 43, 3) := by decide +kernel
theorem d50_14 : decode c_68 14 = .ok (.aload_n 1, 1) := by decide +kernel
theorem d50_15 : decode c_68 15 = .ok (.checkcast 10, 3) := by decide +kernel
theorem d50_18 : decode c_68 18 = .ok (.astore_n 2, 1) := by decide +kernel
theorem d50_19 : decode c_68 19 = .ok (.getstatic 38, 3) := by decide +kernel
theorem d50_22 : decode c_68 22 = .ok (.ifCond .eq 14, 3) := by decide +kernel
theorem d50_25 : decode c_68 25 = .ok (.aload_n 0, 1) := by decide +kernel
theorem d50_26 : decode c_68 26 = .ok (.getfield 15, 3) := by decide +kernel
theorem d50_29 : decode c_68 29 = .ok (.aload_n 2, 1) := by decide +kernel
theorem d50_30 : decode c_68 30 = .ok (.getfield 15, 3) := by decide +kernel
theorem d50_33 : decode c_68 33 = .ok (.if_icmp .ne 21, 3) := by decide +kernel
theorem d50_36 : decode c_68 36 = .ok (.aload_n 0, 1) := by decide +kernel
theorem d50_37 : decode c_68 37 = .ok (.getfield 9, 3) := by decide +kernel
theorem d50_40 : decode c_68 40 = .ok (.aload_n 2, 1) := by decide +kernel
theorem d50_41 : decode c_68 41 = .ok (.getfield 9, 3) := by decide +kernel
theorem d50_44 : decode c_68 44 = .ok (.invokestatic 541, 3) := by decide +kernel
theorem d50_47 : decode c_68 47 = .ok (.ifCond .eq 7, 3) := by decide +kernel
theorem d50_50 : decode c_68 50 = .ok (.iconst 1, 1) := by decide +kernel
theorem d50_51 : decode c_68 51 = .ok (.goto 4, 3) := by decide +kernel
theorem d50_55 : decode c_68 55 = .ok (.ireturn, 1) := by decide +kernel
theorem ef_eq0 (m : MethodId) (x0 : Addr) (x1 : Addr) : entryFrame m #[(.ref x0), (.ref x1)] 3 = mkF m 0 #[.val (.ref x0), .val (.ref x1), .unset] [] := by first | (simp [entryFrame, mkF, argsToLocals, Value.category]; done) | rfl
theorem rmeq0 (l : Launch) (Z : State) (a0 : Array Value) (hw : ∀ d ∈ tables_1, d.before a0 Z = true) (ws : List Jvm.Cond) (a1 a2 : Addr) (g1 : Int32) (b b2 : Addr) (kb kb2 : ClassId) (z : Int32) (bs : List Int32) (h0 : Heap) (n0 : Nat) (Z0 : n0 ≤ h0.size) (E1 : Exa Z h0 a1 "java/lang/String") (Fc : Fld Z h0 a1 "java/lang/String" "coder" "B" (.int 0)) (Fv : Fld Z h0 a1 "java/lang/String" "value" "[B" (.ref b)) (E2 : Exa Z h0 a2 "java/lang/String") (Gc : Fld Z h0 a2 "java/lang/String" "coder" "B" (.int 0)) (Gv : Fld Z h0 a2 "java/lang/String" "value" "[B" (.ref b2)) (Vb : Arv Z h0 b kb .byte z (List.map Value.int bs) (.int 0)) (V2 : Arv Z h0 b2 kb2 .byte z (List.map Value.int bs) (.int 0)) (hz : z.toInt = bs.length)  (SC : Sta Z h0 "java/lang/String" "COMPACT_STRINGS" "Z" (.int g1)) (hg1 : ¬ (g1 = (0 : Int32))) (n12 : a1 ≠ a2) : own_M l mN_68 jdk_42_method_66_code 3 (some .boolean) ws ({ frames := 1, cells := 0, slots := 0, locals := 14 } : Room) Z h0 #[(.ref a1), (.ref a2)] (Qv 1 h0 n0) := by
  refine own_go #[.val (.ref a1), .val (.ref a2), .unset] (plainFor_of_name pn_0) (fun m => ef_eq0 m a1 a2) ?_
  intro p e s m below meth c s₁ hx hby hml hown hnm hlk X0 e0 hZ hrt
  have N0 := Fr.nil n0
  refine own_aloadN X0 hx hby d50_0 rfl rfl ?_
  refine own_aloadN X0 hx hby d50_1 rfl rfl ?_
  refine own_of (U' := (s₁.setTop (mkF m 7 #[.val (.ref a1), .val (.ref a2), .unset] []))) (fun _ k => Jvm.RoadKit.acmp (g := (mkF m 2 #[.val (.ref a1), .val (.ref a2), .unset] [(.ref a2), (.ref a1)])) X0 hx rfl rfl rfl (pc0 := 2) (pc' := 7) (same := false) rfl (hb hby d50_2) rfl (decide_eq_false fun q => n12 (Value.ref.inj q)) (by decide) (by decide) k) ?_
  refine own_aloadN X0 hx hby d50_7 rfl rfl ?_
  obtain ⟨T413, X413, e413, st413⟩ := instY X0 hx hZ hown (own_w hw 47 rfl) e0 (Ins.self E2) (g := (mkF m 8 #[.val (.ref a1), .val (.ref a2), .unset] [(.ref a2)])) rfl rfl (hb hby d50_8)
  refine own_of (U' := (T413.setTop (mkF m 11 #[.val (.ref a1), .val (.ref a2), .unset] [(.int 1)]))) (st413) ?_
  have hc11_414 : ¬ ((1 : Int32) = (0 : Int32)) := by decide
  refine own_ifNo X413 hx hby d50_11 ((if0 _ _).trans (feq hc11_414).1) ?_
  refine own_aloadN X413 hx hby d50_14 rfl rfl ?_
  obtain ⟨T415, X415, e415, st415⟩ := castY X413 hx hZ hown (own_w hw 47 rfl) e413 (Ins.self E2) (g := (mkF m 15 #[.val (.ref a1), .val (.ref a2), .unset] [(.ref a2)])) rfl rfl (hb hby d50_15)
  refine own_of (U' := (T415.setTop (mkF m 18 #[.val (.ref a1), .val (.ref a2), .unset] [(.ref a2)]))) (st415) ?_
  refine own_astoreN X415 hx hby d50_18 rfl (l' := #[.val (.ref a1), .val (.ref a2), .val (.ref a2)]) rfl ?_
  obtain ⟨T416, X416, e416, st416⟩ := getS2 X415 hx hZ hown (host := "") (Or.inl (own_w hw 24 rfl)) Via.refl e415 SC (g := (mkF m 19 #[.val (.ref a1), .val (.ref a2), .val (.ref a2)] [])) rfl (hb hby d50_19)
  refine own_of (U' := (T416.setTop (mkF m 22 #[.val (.ref a1), .val (.ref a2), .val (.ref a2)] [(.int g1)]))) (st416) ?_
  have hc22_417 : ¬ (g1 = (0 : Int32)) := hg1
  refine own_ifNo X416 hx hby d50_22 ((if0 _ _).trans (feq hc22_417).1) ?_
  refine own_aloadN X416 hx hby d50_25 rfl rfl ?_
  obtain ⟨T418, X418, e418, st418⟩ := getF X416 hx hZ hown (host := "") (Or.inl (own_w hw 36 rfl)) Via.refl e416 Fc (g := (mkF m 26 #[.val (.ref a1), .val (.ref a2), .val (.ref a2)] [(.ref a1)])) rfl rfl (hb hby d50_26)
  refine own_of (U' := (T418.setTop (mkF m 29 #[.val (.ref a1), .val (.ref a2), .val (.ref a2)] [(.int 0)]))) (st418) ?_
  refine own_aloadN X418 hx hby d50_29 rfl rfl ?_
  obtain ⟨T419, X419, e419, st419⟩ := getF X418 hx hZ hown (host := "") (Or.inl (own_w hw 36 rfl)) Via.refl e418 Gc (g := (mkF m 30 #[.val (.ref a1), .val (.ref a2), .val (.ref a2)] [(.ref a2), (.int 0)])) rfl rfl (hb hby d50_30)
  refine own_of (U' := (T419.setTop (mkF m 33 #[.val (.ref a1), .val (.ref a2), .val (.ref a2)] [(.int 0), (.int 0)]))) (st419) ?_
  have hc33_420 : (0 : Int32) = (0 : Int32) := by decide
  refine own_icmpNo X419 hx hby d50_33 (teq hc33_420).2 ?_
  refine own_aloadN X419 hx hby d50_36 rfl rfl ?_
  obtain ⟨T421, X421, e421, st421⟩ := getF X419 hx hZ hown (host := "") (Or.inl (own_w hw 38 rfl)) Via.refl e419 Fv (g := (mkF m 37 #[.val (.ref a1), .val (.ref a2), .val (.ref a2)] [(.ref a1)])) rfl rfl (hb hby d50_37)
  refine own_of (U' := (T421.setTop (mkF m 40 #[.val (.ref a1), .val (.ref a2), .val (.ref a2)] [(.ref b)]))) (st421) ?_
  refine own_aloadN X421 hx hby d50_40 rfl rfl ?_
  obtain ⟨T422, X422, e422, st422⟩ := getF X421 hx hZ hown (host := "") (Or.inl (own_w hw 38 rfl)) Via.refl e421 Gv (g := (mkF m 41 #[.val (.ref a1), .val (.ref a2), .val (.ref a2)] [(.ref a2), (.ref b)])) rfl rfl (hb hby d50_41)
  refine own_of (U' := (T422.setTop (mkF m 44 #[.val (.ref a1), .val (.ref a2), .val (.ref a2)] [(.ref b2), (.ref b)]))) (st422) ?_
  obtain ⟨_, _, ⟨T423, L423, k423, n423⟩, -, X423, ⟨Lc423, hQ423, l423, y423, z423⟩, st423⟩ := Jvm.LawKit.callS X422 hx (y := mN_67) hown (oV hZ hw 236 rfl) (oV hZ hw 237 rfl) (oV hZ hw 45 rfl) (oV hZ hw 238 rfl) (by decide) (backOf (W := 0) (rmle l Z a0 hw [] b b2 kb kb2 z bs h0 n0 Z0 Vb V2 hz) hZ (own_w hw 238 rfl) (own_w hw 45 rfl) (by decide) (by decide)) (g := (mkF m 44 #[.val (.ref a1), .val (.ref a2), .val (.ref a2)] [(.ref b2), (.ref b)])) rfl (by rw [hml]; rfl) (argsL := [(.ref b), (.ref b2)]) (rest := []) (lenOf pd_39 rfl) rfl (by exact oZ rfl) (hb hby d50_44) (fun _ _ => ⟨rfl, e422, (by decide : 0 + 0 ≤ _), (by decide : 0 + 0 ≤ _)⟩)
  dsimp only [Pt.U, Pt.locs, Pt.cells, Pt.slots] at X423 l423 y423 z423 st423 hQ423
  rw [l423, y423, z423] at X423
  obtain ⟨rfl, Nq423, e423⟩ := hQ423
  have N423 := Fr.app N0 Nq423
  refine own_of (U' := (T423.setTop (mkF m 47 #[.val (.ref a1), .val (.ref a2), .val (.ref a2)] [(.int 1)]))) (st423) ?_
  have hc47_424 : ¬ ((1 : Int32) = (0 : Int32)) := by decide
  refine own_ifNo X423 hx hby d50_47 ((if0 _ _).trans (feq hc47_424).1) ?_
  refine own_iconst X423 hx hby 1 d50_50 rfl ?_
  refine own_goto X423 hx hby 51 55 d50_51 (by decide) (by decide) ?_
  exact own_retN X423 hx hlk (t := .boolean) hrt (by simp) (hb hby d50_55) (by decide) (by decide) (⟨rfl, N423, e423⟩)
theorem ef_eq1 (m : MethodId) (x0 : Addr) (x1 : Addr) : entryFrame m #[(.ref x0), (.ref x1)] 3 = mkF m 0 #[.val (.ref x0), .val (.ref x1), .unset] [] := by first | (simp [entryFrame, mkF, argsToLocals, Value.category]; done) | rfl
theorem rmeq1 (l : Launch) (Z : State) (a0 : Array Value) (hw : ∀ d ∈ tables_1, d.before a0 Z = true) (ws : List Jvm.Cond) (a1 a2 : Addr) (g1 : Int32) (b b2 : Addr) (kb kb2 : ClassId) (z : Int32) (bs : List Int32) (h0 : Heap) (n0 : Nat) (Z0 : n0 ≤ h0.size) (E1 : Exa Z h0 a1 "java/lang/String") (Fc : Fld Z h0 a1 "java/lang/String" "coder" "B" (.int 1)) (Fv : Fld Z h0 a1 "java/lang/String" "value" "[B" (.ref b)) (E2 : Exa Z h0 a2 "java/lang/String") (Gc : Fld Z h0 a2 "java/lang/String" "coder" "B" (.int 1)) (Gv : Fld Z h0 a2 "java/lang/String" "value" "[B" (.ref b2)) (Vb : Arv Z h0 b kb .byte z (List.map Value.int bs) (.int 0)) (V2 : Arv Z h0 b2 kb2 .byte z (List.map Value.int bs) (.int 0)) (hz : z.toInt = bs.length)  (SC : Sta Z h0 "java/lang/String" "COMPACT_STRINGS" "Z" (.int g1)) (hg1 : ¬ (g1 = (0 : Int32))) (n12 : a1 ≠ a2) : own_M l mN_68 jdk_42_method_66_code 3 (some .boolean) ws ({ frames := 1, cells := 0, slots := 0, locals := 14 } : Room) Z h0 #[(.ref a1), (.ref a2)] (Qv 1 h0 n0) := by
  refine own_go #[.val (.ref a1), .val (.ref a2), .unset] (plainFor_of_name pn_0) (fun m => ef_eq1 m a1 a2) ?_
  intro p e s m below meth c s₁ hx hby hml hown hnm hlk X0 e0 hZ hrt
  have N0 := Fr.nil n0
  refine own_aloadN X0 hx hby d50_0 rfl rfl ?_
  refine own_aloadN X0 hx hby d50_1 rfl rfl ?_
  refine own_of (U' := (s₁.setTop (mkF m 7 #[.val (.ref a1), .val (.ref a2), .unset] []))) (fun _ k => Jvm.RoadKit.acmp (g := (mkF m 2 #[.val (.ref a1), .val (.ref a2), .unset] [(.ref a2), (.ref a1)])) X0 hx rfl rfl rfl (pc0 := 2) (pc' := 7) (same := false) rfl (hb hby d50_2) rfl (decide_eq_false fun q => n12 (Value.ref.inj q)) (by decide) (by decide) k) ?_
  refine own_aloadN X0 hx hby d50_7 rfl rfl ?_
  obtain ⟨T425, X425, e425, st425⟩ := instY X0 hx hZ hown (own_w hw 47 rfl) e0 (Ins.self E2) (g := (mkF m 8 #[.val (.ref a1), .val (.ref a2), .unset] [(.ref a2)])) rfl rfl (hb hby d50_8)
  refine own_of (U' := (T425.setTop (mkF m 11 #[.val (.ref a1), .val (.ref a2), .unset] [(.int 1)]))) (st425) ?_
  have hc11_426 : ¬ ((1 : Int32) = (0 : Int32)) := by decide
  refine own_ifNo X425 hx hby d50_11 ((if0 _ _).trans (feq hc11_426).1) ?_
  refine own_aloadN X425 hx hby d50_14 rfl rfl ?_
  obtain ⟨T427, X427, e427, st427⟩ := castY X425 hx hZ hown (own_w hw 47 rfl) e425 (Ins.self E2) (g := (mkF m 15 #[.val (.ref a1), .val (.ref a2), .unset] [(.ref a2)])) rfl rfl (hb hby d50_15)
  refine own_of (U' := (T427.setTop (mkF m 18 #[.val (.ref a1), .val (.ref a2), .unset] [(.ref a2)]))) (st427) ?_
  refine own_astoreN X427 hx hby d50_18 rfl (l' := #[.val (.ref a1), .val (.ref a2), .val (.ref a2)]) rfl ?_
  obtain ⟨T428, X428, e428, st428⟩ := getS2 X427 hx hZ hown (host := "") (Or.inl (own_w hw 24 rfl)) Via.refl e427 SC (g := (mkF m 19 #[.val (.ref a1), .val (.ref a2), .val (.ref a2)] [])) rfl (hb hby d50_19)
  refine own_of (U' := (T428.setTop (mkF m 22 #[.val (.ref a1), .val (.ref a2), .val (.ref a2)] [(.int g1)]))) (st428) ?_
  have hc22_429 : ¬ (g1 = (0 : Int32)) := hg1
  refine own_ifNo X428 hx hby d50_22 ((if0 _ _).trans (feq hc22_429).1) ?_
  refine own_aloadN X428 hx hby d50_25 rfl rfl ?_
  obtain ⟨T430, X430, e430, st430⟩ := getF X428 hx hZ hown (host := "") (Or.inl (own_w hw 36 rfl)) Via.refl e428 Fc (g := (mkF m 26 #[.val (.ref a1), .val (.ref a2), .val (.ref a2)] [(.ref a1)])) rfl rfl (hb hby d50_26)
  refine own_of (U' := (T430.setTop (mkF m 29 #[.val (.ref a1), .val (.ref a2), .val (.ref a2)] [(.int 1)]))) (st430) ?_
  refine own_aloadN X430 hx hby d50_29 rfl rfl ?_
  obtain ⟨T431, X431, e431, st431⟩ := getF X430 hx hZ hown (host := "") (Or.inl (own_w hw 36 rfl)) Via.refl e430 Gc (g := (mkF m 30 #[.val (.ref a1), .val (.ref a2), .val (.ref a2)] [(.ref a2), (.int 1)])) rfl rfl (hb hby d50_30)
  refine own_of (U' := (T431.setTop (mkF m 33 #[.val (.ref a1), .val (.ref a2), .val (.ref a2)] [(.int 1), (.int 1)]))) (st431) ?_
  have hc33_432 : (1 : Int32) = (1 : Int32) := by decide
  refine own_icmpNo X431 hx hby d50_33 (teq hc33_432).2 ?_
  refine own_aloadN X431 hx hby d50_36 rfl rfl ?_
  obtain ⟨T433, X433, e433, st433⟩ := getF X431 hx hZ hown (host := "") (Or.inl (own_w hw 38 rfl)) Via.refl e431 Fv (g := (mkF m 37 #[.val (.ref a1), .val (.ref a2), .val (.ref a2)] [(.ref a1)])) rfl rfl (hb hby d50_37)
  refine own_of (U' := (T433.setTop (mkF m 40 #[.val (.ref a1), .val (.ref a2), .val (.ref a2)] [(.ref b)]))) (st433) ?_
  refine own_aloadN X433 hx hby d50_40 rfl rfl ?_
  obtain ⟨T434, X434, e434, st434⟩ := getF X433 hx hZ hown (host := "") (Or.inl (own_w hw 38 rfl)) Via.refl e433 Gv (g := (mkF m 41 #[.val (.ref a1), .val (.ref a2), .val (.ref a2)] [(.ref a2), (.ref b)])) rfl rfl (hb hby d50_41)
  refine own_of (U' := (T434.setTop (mkF m 44 #[.val (.ref a1), .val (.ref a2), .val (.ref a2)] [(.ref b2), (.ref b)]))) (st434) ?_
  obtain ⟨_, _, ⟨T435, L435, k435, n435⟩, -, X435, ⟨Lc435, hQ435, l435, y435, z435⟩, st435⟩ := Jvm.LawKit.callS X434 hx (y := mN_67) hown (oV hZ hw 236 rfl) (oV hZ hw 237 rfl) (oV hZ hw 45 rfl) (oV hZ hw 238 rfl) (by decide) (backOf (W := 0) (rmle l Z a0 hw [] b b2 kb kb2 z bs h0 n0 Z0 Vb V2 hz) hZ (own_w hw 238 rfl) (own_w hw 45 rfl) (by decide) (by decide)) (g := (mkF m 44 #[.val (.ref a1), .val (.ref a2), .val (.ref a2)] [(.ref b2), (.ref b)])) rfl (by rw [hml]; rfl) (argsL := [(.ref b), (.ref b2)]) (rest := []) (lenOf pd_39 rfl) rfl (by exact oZ rfl) (hb hby d50_44) (fun _ _ => ⟨rfl, e434, (by decide : 0 + 0 ≤ _), (by decide : 0 + 0 ≤ _)⟩)
  dsimp only [Pt.U, Pt.locs, Pt.cells, Pt.slots] at X435 l435 y435 z435 st435 hQ435
  rw [l435, y435, z435] at X435
  obtain ⟨rfl, Nq435, e435⟩ := hQ435
  have N435 := Fr.app N0 Nq435
  refine own_of (U' := (T435.setTop (mkF m 47 #[.val (.ref a1), .val (.ref a2), .val (.ref a2)] [(.int 1)]))) (st435) ?_
  have hc47_436 : ¬ ((1 : Int32) = (0 : Int32)) := by decide
  refine own_ifNo X435 hx hby d50_47 ((if0 _ _).trans (feq hc47_436).1) ?_
  refine own_iconst X435 hx hby 1 d50_50 rfl ?_
  refine own_goto X435 hx hby 51 55 d50_51 (by decide) (by decide) ?_
  exact own_retN X435 hx hlk (t := .boolean) hrt (by simp) (hb hby d50_55) (by decide) (by decide) (⟨rfl, N435, e435⟩)
theorem rmeq (l : Launch) (Z : State) (a0 : Array Value) (hw : ∀ d ∈ tables_1, d.before a0 Z = true) (ws : List Jvm.Cond) (a1 a2 : Addr) (cs : List Int32) (n1 n2 : Nat) (g1 : Int32) (h0 : Heap) (n0 : Nat) (Z0 : n0 ≤ h0.size) (O1 : own_S2 Z h0 n1 a1 cs) (O2 : own_S2 Z h0 n2 a2 cs) (n12 : a1 ≠ a2) (SC : Sta Z h0 "java/lang/String" "COMPACT_STRINGS" "Z" (.int g1)) (hg1 : ¬ (g1 = (0 : Int32))) : own_M l mN_68 jdk_42_method_66_code 3 (some .boolean) ws ({ frames := 1, cells := 0, slots := 0, locals := 14 } : Room) Z h0 #[(.ref a1), (.ref a2)] (Qv 1 h0 n0) := by
  obtain ⟨b, kb, cd, z, la, lb, E1, Fc, Fv, ⟨rfl, lt, hz, Vb⟩ | ⟨rfl, lt, hz, Vb⟩⟩ := O1 <;> obtain ⟨b2, kb2, cd2, z2, la2, lb2, E2, Gc, Gv, ⟨rfl, lt2, hz2, V2⟩ | ⟨rfl, lt2, hz2, V2⟩⟩ := O2
  · obtain rfl : z = z2 := Int32.toInt_inj.mp (by rw [hz, hz2])
    exact rmeq0 l Z a0 hw ws a1 a2 g1 b b2 kb kb2 z _ h0 n0 Z0 E1 Fc Fv E2 Gc Gv Vb V2 (by rw [List.length_map]; exact hz) SC hg1 n12
  · exact absurd lt lt2
  · exact absurd lt2 lt
  · obtain rfl : z = z2 := Int32.toInt_inj.mp (by rw [hz, hz2])
    exact rmeq1 l Z a0 hw ws a1 a2 g1 b b2 kb kb2 z _ h0 n0 Z0 E1 Fc Fv E2 Gc Gv Vb V2 (by rw [own_u16_len]; omega) SC hg1 n12
def own_cc (x : Int32) : Int32 := nar .char ((if (x &&& (255 : Int32)) = (58 : Int32) then (256 : Int32) else (x &&& (255 : Int32))).toUInt32.toUInt16.toUInt32.toInt32)
def own_dg (x : Int32) : Int32 := nar .char (((48 : Int32) + ((x &&& (255 : Int32)) % (10 : Int32))).toUInt32.toUInt16.toUInt32.toInt32)
def own_pt (two c0 c1 : Int32) : List Int32 := if two = (0 : Int32) then [c0] else [c0, c1]
abbrev mN_69 : MethodName := ⟨"com/example/pools_to_qrels/poolstoqrels/CitationIdsPostPinLaw", "ch", "(I)C"⟩
theorem d1_0 : decode c_69 0 = .ok (.iload_n 0, 1) := by decide +kernel
theorem d1_1 : decode c_69 1 = .ok (.sipush 255, 3) := by decide +kernel
theorem d1_4 : decode c_69 4 = .ok (.iand, 1) := by decide +kernel
theorem d1_5 : decode c_69 5 = .ok (.istore_n 1, 1) := by decide +kernel
theorem d1_6 : decode c_69 6 = .ok (.iload_n 1, 1) := by decide +kernel
theorem d1_7 : decode c_69 7 = .ok (.bipush 58, 2) := by decide +kernel
theorem d1_9 : decode c_69 9 = .ok (.if_icmp .ne 7, 3) := by decide +kernel
theorem d1_12 : decode c_69 12 = .ok (.sipush 256, 3) := by decide +kernel
theorem d1_15 : decode c_69 15 = .ok (.istore_n 1, 1) := by decide +kernel
theorem d1_16 : decode c_69 16 = .ok (.iload_n 1, 1) := by decide +kernel
theorem d1_17 : decode c_69 17 = .ok (.i2c, 1) := by decide +kernel
theorem d1_18 : decode c_69 18 = .ok (.ireturn, 1) := by decide +kernel
theorem pn_7 : plainName "com/example/pools_to_qrels/poolstoqrels/CitationIdsPostPinLaw" = true := by first | (simp [plainName, overriddenIn]; done) | decide +kernel
theorem ef_ch (m : MethodId) (x0 : Int32) : entryFrame m #[(.int x0)] 2 = mkF m 0 #[.val (.int x0), .unset] [] := by first | (simp [entryFrame, mkF, argsToLocals, Value.category]; done) | rfl
theorem rmch (l : Launch) (Z : State) (a0 : Array Value) (hw : ∀ d ∈ tables_1, d.before a0 Z = true) (ws : List Jvm.Cond) (p1 : Int32) (h0 : Heap) (n0 : Nat) (Z0 : n0 ≤ h0.size)  : own_M l mN_69 method_2_code 2 (some .char) ws ({ frames := 0, cells := 0, slots := 0, locals := 0 } : Room) Z h0 #[(.int p1)] (Qv (own_cc p1) h0 n0) := by
  refine own_go #[.val (.int p1), .unset] (plainFor_of_name pn_7) (fun m => ef_ch m p1) ?_
  intro p e s m below meth c s₁ hx hby hml hown hnm hlk X0 e0 hZ hrt
  have N0 := Fr.nil n0
  refine own_iloadN X0 hx hby d1_0 rfl ?_
  refine own_sipush X0 hx hby 255 d1_1 rfl ?_
  refine own_iand X0 hx hby d1_4 ?_
  refine own_istoreN X0 hx hby d1_5 (l' := #[.val (.int p1), .val (.int (p1 &&& (255 : Int32)))]) rfl ?_
  refine own_iloadN X0 hx hby d1_6 rfl ?_
  refine own_bipush X0 hx hby 58 d1_7 rfl ?_
  obtain ⟨x1, hx1⟩ : ∃ z : Int32, z = (if (p1 &&& (255 : Int32)) = (58 : Int32) then (256 : Int32) else (p1 &&& (255 : Int32))) := ⟨_, rfl⟩
  suffices key9 : own_Ends p e below s FrameEnd (Qv (own_cc p1) h0 n0) 0 0 (s₁.setTop (mkF m 16 #[.val (.int p1), .val (.int x1)] [])) by
    by_cases hc9_437 : (p1 &&& (255 : Int32)) = (58 : Int32)
    · skip
      refine own_icmpNo X0 hx hby d1_9 (teq hc9_437).2 ?_
      refine own_sipush X0 hx hby 256 d1_12 rfl ?_
      refine own_istoreN X0 hx hby d1_15 (l' := #[.val (.int p1), .val (.int 256)]) rfl ?_
      have tx1 : x1 = (256 : Int32) := by rw [hx1, if_pos hc9_437]
      exact own_eq (by rw [tx1]) key9
    · skip
      refine own_icmpYes X0 hx hby 9 16 d1_9 (feq hc9_437).2 (by decide) (by decide) ?_
      have tx1 : x1 = (p1 &&& (255 : Int32)) := by rw [hx1, if_neg hc9_437]
      exact own_eq (by rw [tx1]) key9
  refine own_iloadN X0 hx hby d1_16 rfl ?_
  refine own_i2c X0 hx hby d1_17 ?_
  exact own_retN X0 hx hlk (t := .char) hrt (by simp) (hb hby d1_18) (by decide) (by decide) (⟨congrArg (fun z => some (Value.int z)) (show nar .char (x1.toUInt32.toUInt16.toUInt32.toInt32) = own_cc p1 from by unfold own_cc; rw [← hx1]), N0, e0⟩)
abbrev mN_70 : MethodName := ⟨"com/example/pools_to_qrels/poolstoqrels/CitationIdsPostPinLaw", "digit", "(I)C"⟩
theorem d2_0 : decode c_70 0 = .ok (.bipush 48, 2) := by decide +kernel
theorem d2_2 : decode c_70 2 = .ok (.iload_n 0, 1) := by decide +kernel
theorem d2_3 : decode c_70 3 = .ok (.sipush 255, 3) := by decide +kernel
theorem d2_6 : decode c_70 6 = .ok (.iand, 1) := by decide +kernel
theorem d2_7 : decode c_70 7 = .ok (.bipush 10, 2) := by decide +kernel
theorem d2_9 : decode c_70 9 = .ok (.irem, 1) := by decide +kernel
theorem d2_10 : decode c_70 10 = .ok (.iadd, 1) := by decide +kernel
theorem d2_11 : decode c_70 11 = .ok (.i2c, 1) := by decide +kernel
theorem d2_12 : decode c_70 12 = .ok (.ireturn, 1) := by decide +kernel
theorem ef_dg (m : MethodId) (x0 : Int32) : entryFrame m #[(.int x0)] 1 = mkF m 0 #[.val (.int x0)] [] := by first | (simp [entryFrame, mkF, argsToLocals, Value.category]; done) | rfl
theorem rmdg (l : Launch) (Z : State) (a0 : Array Value) (hw : ∀ d ∈ tables_1, d.before a0 Z = true) (ws : List Jvm.Cond) (p1 : Int32) (h0 : Heap) (n0 : Nat) (Z0 : n0 ≤ h0.size)  : own_M l mN_70 method_3_code 1 (some .char) ws ({ frames := 0, cells := 0, slots := 0, locals := 0 } : Room) Z h0 #[(.int p1)] (Qv (own_dg p1) h0 n0) := by
  refine own_go #[.val (.int p1)] (plainFor_of_name pn_7) (fun m => ef_dg m p1) ?_
  intro p e s m below meth c s₁ hx hby hml hown hnm hlk X0 e0 hZ hrt
  have N0 := Fr.nil n0
  refine own_bipush X0 hx hby 48 d2_0 rfl ?_
  refine own_iloadN X0 hx hby d2_2 rfl ?_
  refine own_sipush X0 hx hby 255 d2_3 rfl ?_
  refine own_iand X0 hx hby d2_6 ?_
  refine own_bipush X0 hx hby 10 d2_7 rfl ?_
  refine own_of (U' := (s₁.setTop (mkF m 10 #[.val (.int p1)] [(.int ((p1 &&& (255 : Int32)) % (10 : Int32))), (.int 48)]))) (fun _ k => iremM (g := (mkF m 9 #[.val (.int p1)] [(.int 10), (.int (p1 &&& (255 : Int32))), (.int 48)])) X0 hx rfl (hb hby d2_9) rfl (by decide) k) ?_
  refine own_iadd X0 hx hby d2_10 ?_
  refine own_i2c X0 hx hby d2_11 ?_
  exact own_retN X0 hx hlk (t := .char) hrt (by simp) (hb hby d2_12) (by decide) (by decide) (⟨rfl, N0, e0⟩)
theorem own_chs2 {c0 c1 : Int32} (b0 : 0 ≤ c0.toInt ∧ c0.toInt < 65536) (b1 : 0 ≤ c1.toInt ∧ c1.toInt < 65536) : own_chs [c0, c1] := fun c hc => by
  rcases List.mem_cons.mp hc with rfl | hc
  · exact b0
  · rw [List.mem_singleton.mp hc]; exact b1
abbrev mN_71 : MethodName := ⟨"com/example/pools_to_qrels/poolstoqrels/CitationIdsPostPinLaw", "part", "(ZCC)Ljava/lang/String;"⟩
theorem pd_40 : parseMethodDescriptor "(C)Ljava/lang/String;" = some ⟨[.char], some (.object "java/lang/String")⟩ := by decide +kernel
theorem d3_0 : decode c_71 0 = .ok (.iload_n 0, 1) := by decide +kernel
theorem d3_1 : decode c_71 1 = .ok (.ifCond .eq 22, 3) := by decide +kernel
theorem d3_23 : decode c_71 23 = .ok (.iload_n 1, 1) := by decide +kernel
theorem d3_24 : decode c_71 24 = .ok (.invokestatic 12, 3) := by decide +kernel
theorem d3_27 : decode c_71 27 = .ok (.areturn, 1) := by decide +kernel
theorem ef_pt0 (m : MethodId) (x1 : Int32) (x2 : Int32) : entryFrame m #[(.int 0), (.int x1), (.int x2)] 3 = mkF m 0 #[.val (.int 0), .val (.int x1), .val (.int x2)] [] := by first | (simp [entryFrame, mkF, argsToLocals, Value.category]; done) | rfl
theorem rmpt0 (l : Launch) (Z : State) (a0 : Array Value) (hw : ∀ d ∈ tables_1, d.before a0 Z = true) (ws : List Jvm.Cond) (c0 c1 g1 : Int32) (h0 : Heap) (n0 : Nat) (Z0 : n0 ≤ h0.size) (b0 : 0 ≤ c0.toInt ∧ c0.toInt < 65536) (b1 : 0 ≤ c1.toInt ∧ c1.toInt < 65536) (m0 : nar .char c0 = c0) (m1 : nar .char c1 = c1) (SC : Sta Z h0 "java/lang/String" "COMPACT_STRINGS" "Z" (.int g1)) (hg1 : ¬ (g1 = (0 : Int32))) (SA : Sta Z h0 "java/lang/StringUTF16" "$assertionsDisabled" "Z" (.int 1)) (SHI : Sta Z h0 "java/lang/StringUTF16" "HI_BYTE_SHIFT" "I" (.int 0)) (SLO : Sta Z h0 "java/lang/StringUTF16" "LO_BYTE_SHIFT" "I" (.int 8)) : own_M l mN_71 method_4_code 3 (some (.object "java/lang/String")) ws ({ frames := 6, cells := 4, slots := 21, locals := 88 } : Room) Z h0 #[(.int 0), (.int c0), (.int c1)] (Qs2 Z [c0] h0 n0) := by
  refine own_go #[.val (.int 0), .val (.int c0), .val (.int c1)] (plainFor_of_name pn_7) (fun m => ef_pt0 m c0 c1) ?_
  intro p e s m below meth c s₁ hx hby hml hown hnm hlk X0 e0 hZ hrt
  have N0 := Fr.nil n0
  have KK := Keep.refl h0 []
  refine own_iloadN X0 hx hby d3_0 rfl ?_
  have hc1_438 : (0 : Int32) = (0 : Int32) := by decide
  refine own_ifYes X0 hx hby 1 23 d3_1 ((if0 _ _).trans (teq hc1_438).1) (by decide) (by decide) ?_
  refine own_iloadN X0 hx hby d3_23 rfl ?_
  obtain ⟨_, _, ⟨T439, L439, k439, n439⟩, -, X439, ⟨Lc439, hQ439, l439, y439, z439⟩, st439⟩ := Jvm.LawKit.callS X0 hx (y := mN_54) hown (oV hZ hw 40 rfl) (oV hZ hw 41 rfl) (oV hZ hw 12 rfl) (oV hZ hw 42 rfl) (by decide) (backOf (W := 0) (rmvo l Z a0 hw [] c0 g1 h0 n0 Z0 SC hg1 SA SHI SLO) hZ (own_w hw 42 rfl) (own_w hw 12 rfl) (by decide) (by decide)) (g := (mkF m 24 #[.val (.int 0), .val (.int c0), .val (.int c1)] [(.int c0)])) rfl (by rw [hml]; rfl) (argsL := [(.int c0)]) (rest := []) (lenOf pd_40 rfl) rfl (by exact oZ rfl) (hb hby d3_24) (fun _ _ => ⟨rfl, e0, (by decide : 0 + 2 ≤ _), (by decide : 0 + 6 ≤ _)⟩)
  dsimp only [Pt.U, Pt.locs, Pt.cells, Pt.slots] at X439 l439 y439 z439 st439 hQ439
  rw [l439, y439, z439] at X439
  obtain ⟨a439, rfl, Nq439, Kp439, ga439, Oq439⟩ := hQ439
  have g_a439 : n0 ≤ a439 := nT Z0 ga439
  have sz_a439 : h0.size ≤ a439 := nT KK.1 ga439
  have N439 := Fr.app N0 Nq439
  replace Z0 := nT Z0 Kp439.1
  replace SC := own_staKeep SC Kp439 ns0
  replace SA := own_staKeep SA Kp439 ns0
  replace SHI := own_staKeep SHI Kp439 ns0
  replace SLO := own_staKeep SLO Kp439 ns0
  replace KK := KK.trans Kp439 all0
  have Es439 := own_S2exa Oq439
  refine own_of (U' := (T439.setTop (mkF m 27 #[.val (.int 0), .val (.int c0), .val (.int c1)] [(.ref a439)]))) (st439) ?_
  exact own_retA X439 hx hlk hrt rfl rfl (hb hby d3_27) (by decide) (by decide) (⟨a439, rfl, N439, KK, sz_a439, Oq439⟩)
theorem pd_41 : parseMethodDescriptor "([C)V" = some ⟨[(.array .char)], none⟩ := by decide +kernel
theorem d3_4 : decode c_71 4 = .ok (.new 7, 3) := by decide +kernel
theorem d3_7 : decode c_71 7 = .ok (.dup, 1) := by decide +kernel
theorem d3_8 : decode c_71 8 = .ok (.iconst 2, 1) := by decide +kernel
theorem d3_9 : decode c_71 9 = .ok (.newarray .char, 2) := by decide +kernel
theorem d3_11 : decode c_71 11 = .ok (.dup, 1) := by decide +kernel
theorem d3_12 : decode c_71 12 = .ok (.iconst 0, 1) := by decide +kernel
theorem d3_13 : decode c_71 13 = .ok (.iload_n 1, 1) := by decide +kernel
theorem d3_14 : decode c_71 14 = .ok (.castore, 1) := by decide +kernel
theorem d3_15 : decode c_71 15 = .ok (.dup, 1) := by decide +kernel
theorem d3_16 : decode c_71 16 = .ok (.iconst 1, 1) := by decide +kernel
theorem d3_17 : decode c_71 17 = .ok (.iload_n 2, 1) := by decide +kernel
theorem d3_18 : decode c_71 18 = .ok (.castore, 1) := by decide +kernel
theorem d3_19 : decode c_71 19 = .ok (.invokespecial 9, 3) := by decide +kernel
theorem d3_22 : decode c_71 22 = .ok (.areturn, 1) := by decide +kernel
theorem ef_pt1 (m : MethodId) (x1 : Int32) (x2 : Int32) : entryFrame m #[(.int 1), (.int x1), (.int x2)] 3 = mkF m 0 #[.val (.int 1), .val (.int x1), .val (.int x2)] [] := by first | (simp [entryFrame, mkF, argsToLocals, Value.category]; done) | rfl
theorem rmpt1 (l : Launch) (Z : State) (a0 : Array Value) (hw : ∀ d ∈ tables_1, d.before a0 Z = true) (ws : List Jvm.Cond) (c0 c1 g1 : Int32) (h0 : Heap) (n0 : Nat) (Z0 : n0 ≤ h0.size) (b0 : 0 ≤ c0.toInt ∧ c0.toInt < 65536) (b1 : 0 ≤ c1.toInt ∧ c1.toInt < 65536) (m0 : nar .char c0 = c0) (m1 : nar .char c1 = c1) (SC : Sta Z h0 "java/lang/String" "COMPACT_STRINGS" "Z" (.int g1)) (hg1 : ¬ (g1 = (0 : Int32))) (SA : Sta Z h0 "java/lang/StringUTF16" "$assertionsDisabled" "Z" (.int 1)) (SHI : Sta Z h0 "java/lang/StringUTF16" "HI_BYTE_SHIFT" "I" (.int 0)) (SLO : Sta Z h0 "java/lang/StringUTF16" "LO_BYTE_SHIFT" "I" (.int 8)) : own_M l mN_71 method_4_code 3 (some (.object "java/lang/String")) ws ({ frames := 6, cells := 4, slots := 21, locals := 88 } : Room) Z h0 #[(.int 1), (.int c0), (.int c1)] (Qs2 Z [c0, c1] h0 n0) := by
  refine own_go #[.val (.int 1), .val (.int c0), .val (.int c1)] (plainFor_of_name pn_7) (fun m => ef_pt1 m c0 c1) ?_
  intro p e s m below meth c s₁ hx hby hml hown hnm hlk X0 e0 hZ hrt
  have N0 := Fr.nil n0
  have KK := Keep.refl h0 []
  refine own_iloadN X0 hx hby d3_0 rfl ?_
  have hc1_440 : ¬ ((1 : Int32) = (0 : Int32)) := by decide
  refine own_ifNo X0 hx hby d3_1 ((if0 _ _).trans (feq hc1_440).1) ?_
  obtain ⟨T441, h441, X441, e441, E441, A441, D441, -, st441⟩ := newO X0 hx hZ hown (own_w hw 10 rfl) (own_w hw 11 rfl) (own_w hw 12 rfl) e0 (g := (mkF m 4 #[.val (.int 1), .val (.int c0), .val (.int c1)] [])) rfl (hb hby d3_4) (by decide) (by decide)
  obtain ⟨b441, gz441⟩ : ∃ z, z = h0.size := ⟨_, rfl⟩
  rw [← gz441] at A441 D441 st441
  have g_b441 : n0 ≤ b441 := nT Z0 (nE gz441.symm)
  have sz_b441 : h0.size ≤ b441 := nT KK.1 (nE gz441.symm)
  replace Z0 := nT Z0 E441.1
  replace SC := SC.ext E441
  replace SA := SA.ext E441
  replace SHI := SHI.ext E441
  replace SLO := SLO.ext E441
  replace KK := KK.ext E441
  have F441_coder : Fld Z h441 b441 "java/lang/String" "coder" "B" (.int 0) := D441 (Or.inr (own_w hw 37 rfl)) (ty := .byte) (by decide)
  have F441_value : Fld Z h441 b441 "java/lang/String" "value" "[B" .null := D441 (Or.inr (own_w hw 39 rfl)) (ty := (.array .byte)) (by decide)
  refine own_of (U' := (T441.setTop (mkF m 7 #[.val (.int 1), .val (.int c0), .val (.int c1)] [(.ref b441)]))) (st441) ?_
  refine own_dup X441 hx hby d3_7 rfl ?_
  refine own_iconst X441 hx hby 2 d3_8 rfl ?_
  obtain ⟨T442, h442, k442, X442, e442, E442, A442, st442⟩ := newP X441 hx hZ (own_w hw 13 rfl) e441 (g := (mkF m 9 #[.val (.int 1), .val (.int c0), .val (.int c1)] [(.int 2), (.ref b441), (.ref b441)])) rfl (hb hby d3_9) rfl (by decide) (cap := 2) (by decide) (by decide) (by decide) (by decide)
  obtain ⟨b442, gz442⟩ : ∃ z, z = h441.size := ⟨_, rfl⟩
  rw [← gz442] at A442 st442
  have g_b442 : n0 ≤ b442 := nT Z0 (nE gz442.symm)
  have sz_b442 : h0.size ≤ b442 := nT KK.1 (nE gz442.symm)
  have ne_b441_b442 : b441 ≠ b442 := Nat.ne_of_lt (Nat.lt_of_lt_of_le A441.lt (nE gz442.symm))
  replace Z0 := nT Z0 E442.1
  replace SC := SC.ext E442
  replace SA := SA.ext E442
  replace SHI := SHI.ext E442
  replace SLO := SLO.ext E442
  replace KK := KK.ext E442
  replace A441 := A441.ext E442
  replace F441_coder := F441_coder.ext E442
  replace F441_value := F441_value.ext E442
  have V442 : Arv Z h442 b442 k442 .char (2 : Int32) [(.int 0), (.int 0)] (.int 0) := (Arv.new A442 (by decide)).pad (pad_rep [] (.int 0) 2)
  refine own_of (U' := (T442.setTop (mkF m 11 #[.val (.int 1), .val (.int c0), .val (.int c1)] [(.ref b442), (.ref b441), (.ref b441)]))) (st442) ?_
  refine own_dup X442 hx hby d3_11 rfl ?_
  refine own_iconst X442 hx hby 0 d3_12 rfl ?_
  refine own_iloadN X442 hx hby d3_13 rfl ?_
  obtain ⟨cl443, Ar443, qa443, Sa443, Na443, Ha443, Ga443⟩ := V442
  have hin443 : ¬ ((0 : Int32) < 0 ∨ cl443.slots.size ≤ ((0 : Int32)).toNatClampNeg) := inb_of Sa443 ⟨by decide, by decide⟩
  obtain ⟨T443, h443, X443, e443, W443, st443⟩ := stC X442 hx hZ e442 Ar443 (j := (0 : Int32)) hin443 (g := (mkF m 14 #[.val (.int 1), .val (.int c0), .val (.int c1)] [(.int c0), (.int 0), (.ref b442), (.ref b442), (.ref b441), (.ref b441)])) rfl rfl (hb hby d3_14)
  replace V442 : Arv Z h443 b442 k442 .char (2 : Int32) [(.int (nar .char c0)), (.int 0)] (.int 0) := Arv.set Ar443 qa443 Sa443 Na443 Ha443 Ga443 (fits_nar_char _) W443 0 rfl (Nat.le_of_ble_eq_true rfl)
  replace Z0 := nT Z0 (Keep.of_wr W443).1
  replace SC := SC.wr W443
  replace SA := SA.wr W443
  replace SHI := SHI.wr W443
  replace SLO := SLO.wr W443
  replace KK := KK.wr W443 (Or.inr sz_b442)
  replace A441 := A441.wr W443
  replace F441_coder := F441_coder.other W443 (Or.inl ne_b441_b442)
  replace F441_value := F441_value.other W443 (Or.inl ne_b441_b442)
  have N443 := Fr.snoc X443 N0 g_b442
  refine own_of (U' := (T443.setTop (mkF m 15 #[.val (.int 1), .val (.int c0), .val (.int c1)] [(.ref b442), (.ref b441), (.ref b441)]))) (st443) ?_
  refine own_dup X443 hx hby d3_15 rfl ?_
  refine own_iconst X443 hx hby 1 d3_16 rfl ?_
  refine own_iloadN X443 hx hby d3_17 rfl ?_
  obtain ⟨cl444, Ar444, qa444, Sa444, Na444, Ha444, Ga444⟩ := V442
  have hin444 : ¬ ((1 : Int32) < 0 ∨ cl444.slots.size ≤ ((1 : Int32)).toNatClampNeg) := inb_of Sa444 ⟨by decide, by decide⟩
  obtain ⟨T444, h444, X444, e444, W444, st444⟩ := stC X443 hx hZ e443 Ar444 (j := (1 : Int32)) hin444 (g := (mkF m 18 #[.val (.int 1), .val (.int c0), .val (.int c1)] [(.int c1), (.int 1), (.ref b442), (.ref b442), (.ref b441), (.ref b441)])) rfl rfl (hb hby d3_18)
  replace V442 : Arv Z h444 b442 k442 .char (2 : Int32) [(.int (nar .char c0)), (.int (nar .char c1))] (.int 0) := Arv.set Ar444 qa444 Sa444 Na444 Ha444 Ga444 (fits_nar_char _) W444 1 rfl (Nat.le_of_ble_eq_true rfl)
  replace Z0 := nT Z0 (Keep.of_wr W444).1
  replace SC := SC.wr W444
  replace SA := SA.wr W444
  replace SHI := SHI.wr W444
  replace SLO := SLO.wr W444
  replace KK := KK.wr W444 (Or.inr sz_b442)
  replace A441 := A441.wr W444
  replace F441_coder := F441_coder.other W444 (Or.inl ne_b441_b442)
  replace F441_value := F441_value.other W444 (Or.inl ne_b441_b442)
  have N444 := Fr.snoc X444 N443 g_b442
  refine own_of (U' := (T444.setTop (mkF m 19 #[.val (.int 1), .val (.int c0), .val (.int c1)] [(.ref b442), (.ref b441), (.ref b441)]))) (st444) ?_
  rw [m0, m1] at V442
  obtain ⟨_, _, ⟨T445, L445, k445, n445⟩, -, X445, ⟨Lc445, hQ445, l445, y445, z445⟩, st445⟩ := X444.specialBack hx (y := mN_51) rfl hown (oV hZ hw 14 rfl) (oV hZ hw 15 rfl) (oV hZ hw 16 rfl) (by decide) (backOf (W := 1) (rmsi l Z a0 hw [] b441 b442 k442 (2 : Int32) [c0, c1] g1 h444 n0 Z0 A441 F441_coder F441_value V442 g_b441 rfl (Nat.le_of_ble_eq_true rfl) (Nat.le_of_ble_eq_true rfl) (own_chs2 b0 b1) SC hg1 SA SHI SLO) hZ (own_w hw 16 rfl) (own_w hw 12 rfl) (by decide) (by decide)) (g := (mkF m 19 #[.val (.int 1), .val (.int c0), .val (.int c1)] [(.ref b442), (.ref b441), (.ref b441)])) rfl (by rw [hml]; rfl) (Steps.refl _) (a := b441) (argsL := [(.ref b442)]) (rest := [(.ref b441)]) (lenOf pd_41 rfl) rfl (by exact oZ rfl) (hb hby d3_19) (fun _ _ => ⟨rfl, e444, (by decide : 2 + 2 ≤ _), (by decide : 6 + 15 ≤ _)⟩)
  dsimp only [Pt.U, Pt.locs, Pt.cells, Pt.slots] at X445 l445 y445 z445 st445 hQ445
  rw [l445, y445, z445] at X445
  obtain ⟨rfl, Nq445, Kp445, u445, ku445, cd445, zu445, gq445, Cq445, Fq445, Rq445⟩ := hQ445
  have g_u445 : n0 ≤ u445 := nT Z0 gq445
  have sz_u445 : h0.size ≤ u445 := nT KK.1 gq445
  have ne_b441_u445 : b441 ≠ u445 := nL A441.lt gq445
  have ne_b442_u445 : b442 ≠ u445 := nL V442.lt gq445
  have N445 := Fr.app N444 Nq445
  have nst_b441 := A441.nostat
  replace Z0 := nT Z0 Kp445.1
  replace SC := own_staKeep SC Kp445 (nsS nst_b441 ns0)
  replace SA := own_staKeep SA Kp445 (nsS nst_b441 ns0)
  replace SHI := own_staKeep SHI Kp445 (nsS nst_b441 ns0)
  replace SLO := own_staKeep SLO Kp445 (nsS nst_b441 ns0)
  replace KK := KK.trans Kp445 (allS (Or.inr sz_b441) all0)
  replace A441 := A441.keep Kp445
  replace V442 := V442.keep Kp445 (ninS (Ne.symm ne_b441_b442) nin0)
  have Oq445 : own_S2 Z T445.heap T445.heap.size b441 [c0, c1] := ⟨u445, ku445, cd445, zu445, A441.lt, own_Replt Rq445, A441, Cq445, Fq445, Rq445⟩
  refine own_of (U' := (T445.setTop (mkF m 22 #[.val (.int 1), .val (.int c0), .val (.int c1)] [(.ref b441)]))) (fun _ k => st445.trans k) ?_
  exact own_retA X445 hx hlk hrt rfl rfl (hb hby d3_22) (by decide) (by decide) (⟨b441, rfl, N445, KK, sz_b441, Oq445⟩)
theorem rmpt (l : Launch) (Z : State) (a0 : Array Value) (hw : ∀ d ∈ tables_1, d.before a0 Z = true) (ws : List Jvm.Cond) (two c0 c1 g1 : Int32) (h0 : Heap) (n0 : Nat) (Z0 : n0 ≤ h0.size) (h01 : two = 0 ∨ two = 1) (b0 : 0 ≤ c0.toInt ∧ c0.toInt < 65536) (b1 : 0 ≤ c1.toInt ∧ c1.toInt < 65536) (m0 : nar .char c0 = c0) (m1 : nar .char c1 = c1) (SC : Sta Z h0 "java/lang/String" "COMPACT_STRINGS" "Z" (.int g1)) (hg1 : ¬ (g1 = (0 : Int32))) (SA : Sta Z h0 "java/lang/StringUTF16" "$assertionsDisabled" "Z" (.int 1)) (SHI : Sta Z h0 "java/lang/StringUTF16" "HI_BYTE_SHIFT" "I" (.int 0)) (SLO : Sta Z h0 "java/lang/StringUTF16" "LO_BYTE_SHIFT" "I" (.int 8)) : own_M l mN_71 method_4_code 3 (some (.object "java/lang/String")) ws ({ frames := 6, cells := 4, slots := 21, locals := 88 } : Room) Z h0 #[(.int two), (.int c0), (.int c1)] (Qs2 Z (own_pt two c0 c1) h0 n0) := by
  rcases h01 with rfl | rfl
  · exact rmpt0 l Z a0 hw ws c0 c1 g1 h0 n0 Z0 b0 b1 m0 m1 SC hg1 SA SHI SLO
  · exact rmpt1 l Z a0 hw ws c0 c1 g1 h0 n0 Z0 b0 b1 m0 m1 SC hg1 SA SHI SLO
abbrev mN_72 : MethodName := ⟨"com/example/pools_to_qrels/poolstoqrels/CitationIds", "of", "(Ljava/lang/String;Ljava/lang/String;Ljava/lang/String;Ljava/lang/String;)Ljava/lang/String;"⟩
theorem pd_42 : parseMethodDescriptor "(Ljava/lang/String;)Ljava/lang/StringBuilder;" = some ⟨[(.object "java/lang/String")], some (.object "java/lang/StringBuilder")⟩ := by decide +kernel
theorem pd_43 : parseMethodDescriptor "(C)Ljava/lang/StringBuilder;" = some ⟨[.char], some (.object "java/lang/StringBuilder")⟩ := by decide +kernel
theorem pd_44 : parseMethodDescriptor "()Ljava/lang/String;" = some ⟨[], some (.object "java/lang/String")⟩ := by decide +kernel
theorem d14_0 : decode c_72 0 = .ok (.new 7, 3) := by decide +kernel
theorem d14_3 : decode c_72 3 = .ok (.dup, 1) := by decide +kernel
theorem d14_4 : decode c_72 4 = .ok (.invokespecial 9, 3) := by decide +kernel
theorem d14_7 : decode c_72 7 = .ok (.aload_n 0, 1) := by decide +kernel
theorem d14_8 : decode c_72 8 = .ok (.invokevirtual 10, 3) := by decide +kernel
theorem d14_11 : decode c_72 11 = .ok (.bipush 58, 2) := by decide +kernel
theorem d14_13 : decode c_72 13 = .ok (.invokevirtual 16, 3) := by decide +kernel
theorem d14_16 : decode c_72 16 = .ok (.aload_n 1, 1) := by decide +kernel
theorem d14_17 : decode c_72 17 = .ok (.invokevirtual 10, 3) := by decide +kernel
theorem d14_20 : decode c_72 20 = .ok (.bipush 58, 2) := by decide +kernel
theorem d14_22 : decode c_72 22 = .ok (.invokevirtual 16, 3) := by decide +kernel
theorem d14_25 : decode c_72 25 = .ok (.aload_n 2, 1) := by decide +kernel
theorem d14_26 : decode c_72 26 = .ok (.invokevirtual 10, 3) := by decide +kernel
theorem d14_29 : decode c_72 29 = .ok (.bipush 58, 2) := by decide +kernel
theorem d14_31 : decode c_72 31 = .ok (.invokevirtual 16, 3) := by decide +kernel
theorem d14_34 : decode c_72 34 = .ok (.aload_n 3, 1) := by decide +kernel
theorem d14_35 : decode c_72 35 = .ok (.invokevirtual 10, 3) := by decide +kernel
theorem d14_38 : decode c_72 38 = .ok (.invokevirtual 19, 3) := by decide +kernel
theorem d14_41 : decode c_72 41 = .ok (.areturn, 1) := by decide +kernel
theorem pn_8 : plainName "com/example/pools_to_qrels/poolstoqrels/CitationIds" = true := by first | (simp [plainName, overriddenIn]; done) | decide +kernel
theorem ef_of (m : MethodId) (x0 : Addr) (x1 : Addr) (x2 : Addr) (x3 : Addr) : entryFrame m #[(.ref x0), (.ref x1), (.ref x2), (.ref x3)] 4 = mkF m 0 #[.val (.ref x0), .val (.ref x1), .val (.ref x2), .val (.ref x3)] [] := by first | (simp [entryFrame, mkF, argsToLocals, Value.category]; done) | rfl
theorem rmof (l : Launch) (Z : State) (a0 : Array Value) (hw : ∀ d ∈ tables_1, d.before a0 Z = true) (ws : List Jvm.Cond) (a1 a2 a3 a4 : Addr) (ts ps os ls : List Int32) (n1 : Nat) (g1 : Int32) (rS : Value) (h0 : Heap) (n0 : Nat) (Z0 : n0 ≤ h0.size) (O1 : own_S2 Z h0 n1 a1 ts) (l1 : ts.length ≤ 2) (c1 : own_chs ts) (O2 : own_S2 Z h0 n1 a2 ps) (l2 : ps.length ≤ 2) (c2 : own_chs ps) (O3 : own_S2 Z h0 n1 a3 os) (l3 : os.length ≤ 2) (c3 : own_chs os) (O4 : own_S2 Z h0 n1 a4 ls) (l4 : ls.length ≤ 2) (c4 : own_chs ls) (hn1 : n1 ≤ h0.size) (SC : Sta Z h0 "java/lang/String" "COMPACT_STRINGS" "Z" (.int g1)) (hg1 : ¬ (g1 = (0 : Int32))) (SA : Sta Z h0 "java/lang/StringUTF16" "$assertionsDisabled" "Z" (.int 1)) (SHI : Sta Z h0 "java/lang/StringUTF16" "HI_BYTE_SHIFT" "I" (.int 0)) (SLO : Sta Z h0 "java/lang/StringUTF16" "LO_BYTE_SHIFT" "I" (.int 8)) (SF : Sta Z h0 "jdk/internal/util/Preconditions" "SIOOBE_FORMATTER" "Ljava/util/function/BiFunction;" rS) (hrS : rS.isRef = true) : own_M l mN_72 prog_5_method_2_code 4 (some (.object "java/lang/String")) ws ({ frames := 10, cells := 8, slots := 174, locals := 143 } : Room) Z h0 #[(.ref a1), (.ref a2), (.ref a3), (.ref a4)] (Qs2 Z ((((((([] ++ ts) ++ [58]) ++ ps) ++ [58]) ++ os) ++ [58]) ++ ls) h0 n0) := by
  refine own_go #[.val (.ref a1), .val (.ref a2), .val (.ref a3), .val (.ref a4)] (plainFor_of_name pn_8) (fun m => ef_of m a1 a2 a3 a4) ?_
  intro p e s m below meth c s₁ hx hby hml hown hnm hlk X0 e0 hZ hrt
  have N0 := Fr.nil n0
  have KK := Keep.refl h0 []
  have E1 := own_S2exa O1
  have E2 := own_S2exa O2
  have E3 := own_S2exa O3
  have E4 := own_S2exa O4
  have hnY : n1 ≤ h0.size := hn1
  obtain ⟨T446, h446, X446, e446, E446, A446, D446, -, st446⟩ := newO X0 hx hZ hown (own_w hw 58 rfl) (own_w hw 59 rfl) (own_w hw 60 rfl) e0 (g := (mkF m 0 #[.val (.ref a1), .val (.ref a2), .val (.ref a3), .val (.ref a4)] [])) rfl (hb hby d14_0) (by decide) (by decide)
  obtain ⟨b446, gz446⟩ : ∃ z, z = h0.size := ⟨_, rfl⟩
  rw [← gz446] at A446 D446 st446
  have g_b446 : n0 ≤ b446 := nT Z0 (nE gz446.symm)
  have sz_b446 : h0.size ≤ b446 := nT KK.1 (nE gz446.symm)
  have ne_a1_b446 : a1 ≠ b446 := Nat.ne_of_lt (Nat.lt_of_lt_of_le E1.lt (nE gz446.symm))
  have ne_a2_b446 : a2 ≠ b446 := Nat.ne_of_lt (Nat.lt_of_lt_of_le E2.lt (nE gz446.symm))
  have ne_a3_b446 : a3 ≠ b446 := Nat.ne_of_lt (Nat.lt_of_lt_of_le E3.lt (nE gz446.symm))
  have ne_a4_b446 : a4 ≠ b446 := Nat.ne_of_lt (Nat.lt_of_lt_of_le E4.lt (nE gz446.symm))
  replace O1 := own_S2ext O1 E446
  replace O2 := own_S2ext O2 E446
  replace O3 := own_S2ext O3 E446
  replace O4 := own_S2ext O4 E446
  replace Z0 := nT Z0 E446.1
  replace E1 := E1.ext E446
  replace E2 := E2.ext E446
  replace E3 := E3.ext E446
  replace E4 := E4.ext E446
  replace SC := SC.ext E446
  replace SA := SA.ext E446
  replace SHI := SHI.ext E446
  replace SLO := SLO.ext E446
  replace SF := SF.ext E446
  replace hnY := nT hnY E446.1
  replace KK := KK.ext E446
  have F446_value : Fld Z h446 b446 "java/lang/AbstractStringBuilder" "value" "[B" .null := D446 (Or.inl (own_w hw 73 rfl)) (ty := (.array .byte)) (by decide)
  have F446_coder : Fld Z h446 b446 "java/lang/AbstractStringBuilder" "coder" "B" (.int 0) := D446 (Or.inl (own_w hw 75 rfl)) (ty := .byte) (by decide)
  have F446_count : Fld Z h446 b446 "java/lang/AbstractStringBuilder" "count" "I" (.int 0) := D446 (Or.inl (own_w hw 97 rfl)) (ty := .int) (by decide)
  have F446_maybeLatin1 : Fld Z h446 b446 "java/lang/AbstractStringBuilder" "maybeLatin1" "Z" (.int 0) := D446 (Or.inl (own_w hw 296 rfl)) (ty := .boolean) (by decide)
  refine own_of (U' := (T446.setTop (mkF m 3 #[.val (.ref a1), .val (.ref a2), .val (.ref a3), .val (.ref a4)] [(.ref b446)]))) (st446) ?_
  refine own_dup X446 hx hby d14_3 rfl ?_
  obtain ⟨_, _, ⟨T447, L447, k447, n447⟩, -, X447, ⟨Lc447, hQ447, l447, y447, z447⟩, st447⟩ := X446.specialBack hx (y := mN_39) rfl hown (oV hZ hw 61 rfl) (oV hZ hw 62 rfl) (oV hZ hw 63 rfl) (by decide) (backOf (W := 1) (rmbi l Z a0 hw [] b446 g1 h446 n0 Z0 A446 F446_value F446_coder F446_count F446_maybeLatin1 SC hg1 g_b446) hZ (own_w hw 63 rfl) (own_w hw 60 rfl) (by decide) (by decide)) (g := (mkF m 4 #[.val (.ref a1), .val (.ref a2), .val (.ref a3), .val (.ref a4)] [(.ref b446), (.ref b446)])) rfl (by rw [hml]; rfl) (Steps.refl _) (a := b446) (argsL := []) (rest := [(.ref b446)]) (lenOf pd_15 rfl) rfl (by exact oZ rfl) (hb hby d14_4) (fun _ _ => ⟨rfl, e446, (by decide : 1 + 1 ≤ _), (by decide : 4 + 16 ≤ _)⟩)
  dsimp only [Pt.U, Pt.locs, Pt.cells, Pt.slots] at X447 l447 y447 z447 st447 hQ447
  rw [l447, y447, z447] at X447
  obtain ⟨rfl, Nq447, Kp447, u447, gq447, Bq447⟩ := hQ447
  have g_u447 : n0 ≤ u447 := nT Z0 gq447
  have sz_u447 : h0.size ≤ u447 := nT KK.1 gq447
  have ne_a1_u447 : a1 ≠ u447 := nL E1.lt gq447
  have ne_a2_u447 : a2 ≠ u447 := nL E2.lt gq447
  have ne_a3_u447 : a3 ≠ u447 := nL E3.lt gq447
  have ne_a4_u447 : a4 ≠ u447 := nL E4.lt gq447
  have ne_b446_u447 : b446 ≠ u447 := nL A446.lt gq447
  have N447 := Fr.app N0 Nq447
  have nst_b446 := A446.nostat
  replace O1 := own_S2keep O1 Kp447 (allS (nT hn1 sz_b446) all0)
  replace O2 := own_S2keep O2 Kp447 (allS (nT hn1 sz_b446) all0)
  replace O3 := own_S2keep O3 Kp447 (allS (nT hn1 sz_b446) all0)
  replace O4 := own_S2keep O4 Kp447 (allS (nT hn1 sz_b446) all0)
  replace Z0 := nT Z0 Kp447.1
  replace E1 := E1.keep Kp447
  replace E2 := E2.keep Kp447
  replace E3 := E3.keep Kp447
  replace E4 := E4.keep Kp447
  replace SC := own_staKeep SC Kp447 (nsS nst_b446 ns0)
  replace SA := own_staKeep SA Kp447 (nsS nst_b446 ns0)
  replace SHI := own_staKeep SHI Kp447 (nsS nst_b446 ns0)
  replace SLO := own_staKeep SLO Kp447 (nsS nst_b446 ns0)
  replace SF := own_staKeep SF Kp447 (nsS nst_b446 ns0)
  replace hnY := nT hnY Kp447.1
  replace KK := KK.trans Kp447 (allS (Or.inr sz_b446) all0)
  replace A446 := A446.keep Kp447
  have Eb447 := own_Bexa Bq447
  refine own_of (U' := (T447.setTop (mkF m 7 #[.val (.ref a1), .val (.ref a2), .val (.ref a3), .val (.ref a4)] [(.ref b446)]))) (fun _ k => st447.trans k) ?_
  refine own_aloadN X447 hx hby d14_7 rfl rfl ?_
  obtain ⟨cq448, kq448, q448a, q448b, q448c⟩ := isOf hZ rfl Eb447
  obtain ⟨_, _, ⟨T448, L448, k448, n448⟩, -, X448, ⟨Lc448, hQ448, l448, y448, z448⟩, st448⟩ := X447.virtualBack hx (y := mN_35) (z := mN_35) hown (oV hZ hw 76 rfl) (oV hZ hw 77 rfl) (notFace_of_selects (args := #[]) (oV hZ hw 79 rfl)) (oV hZ hw 79 rfl) (oV hZ hw 78 rfl) (by decide) (backOf (W := 0) (rmsa l Z a0 hw [] b446 u447 ([] : List Int32) a1 ts n1 g1 rS T447.heap n0 Z0 Bq447 O1 (by simp only [List.length_append, List.length_nil, List.length_cons]; omega) c1 g_b446 g_u447 ne_b446_u447 (nT hn1 sz_b446) (nT hn1 sz_u447) hnY SC hg1 SA SHI SLO SF hrS) hZ (own_w hw 80 rfl) (own_w hw 60 rfl) (by decide) (by decide)) q448a q448c (g := (mkF m 8 #[.val (.ref a1), .val (.ref a2), .val (.ref a3), .val (.ref a4)] [(.ref a1), (.ref b446)])) rfl (by rw [hml]; rfl) (Steps.refl _) (argsL := [(.ref a1)]) (rest := []) (lenOf pd_42 rfl) rfl (by exact oZ rfl) (hb hby d14_8) (fun _ _ => ⟨rfl, rfl, (by decide : 2 + 1 ≤ _), (by decide : 20 + 32 ≤ _)⟩)
  dsimp only [Pt.U, Pt.locs, Pt.cells, Pt.slots] at X448 l448 y448 z448 st448 hQ448
  rw [l448, y448, z448] at X448
  obtain ⟨rfl, Nq448, Kp448, u448, ho448, Bq448⟩ := hQ448
  have ne_a1_u448 : a1 ≠ u448 := own_neor ho448 ne_a1_u447 E1.lt
  have ne_a2_u448 : a2 ≠ u448 := own_neor ho448 ne_a2_u447 E2.lt
  have ne_a3_u448 : a3 ≠ u448 := own_neor ho448 ne_a3_u447 E3.lt
  have ne_a4_u448 : a4 ≠ u448 := own_neor ho448 ne_a4_u447 E4.lt
  have ne_b446_u448 : b446 ≠ u448 := own_neor ho448 ne_b446_u447 Eb447.lt
  have g_u448 : n0 ≤ u448 := ho448.elim (fun q => by rw [← q]; exact g_u447) (fun q => nT Z0 q)
  have mk_u448 : u448 ∈ ([] : List Addr) ∨ h0.size ≤ u448 := ho448.elim (fun q => by rw [← q]; exact (Or.inr sz_u447)) (fun q => Or.inr (nT KK.1 q))
  have yy_u448 : n1 ≤ u448 := ho448.elim (fun q => by rw [← q]; exact (nT hn1 sz_u447)) (fun q => nT hnY q)
  have N448 := Fr.app N447 Nq448
  have nst_b446 := Eb447.nostat
  have nst_u447 := own_Bnostat Bq447
  replace O1 := own_S2keep O1 Kp448 (allS (nT hn1 sz_b446) (allS (nT hn1 sz_u447) all0))
  replace O2 := own_S2keep O2 Kp448 (allS (nT hn1 sz_b446) (allS (nT hn1 sz_u447) all0))
  replace O3 := own_S2keep O3 Kp448 (allS (nT hn1 sz_b446) (allS (nT hn1 sz_u447) all0))
  replace O4 := own_S2keep O4 Kp448 (allS (nT hn1 sz_b446) (allS (nT hn1 sz_u447) all0))
  replace Z0 := nT Z0 Kp448.1
  replace E1 := E1.keep Kp448
  replace E2 := E2.keep Kp448
  replace E3 := E3.keep Kp448
  replace E4 := E4.keep Kp448
  replace SC := own_staKeep SC Kp448 (nsS nst_b446 (nsS nst_u447 ns0))
  replace SA := own_staKeep SA Kp448 (nsS nst_b446 (nsS nst_u447 ns0))
  replace SHI := own_staKeep SHI Kp448 (nsS nst_b446 (nsS nst_u447 ns0))
  replace SLO := own_staKeep SLO Kp448 (nsS nst_b446 (nsS nst_u447 ns0))
  replace SF := own_staKeep SF Kp448 (nsS nst_b446 (nsS nst_u447 ns0))
  replace hnY := nT hnY Kp448.1
  replace KK := KK.trans Kp448 (allS (Or.inr sz_b446) (allS (Or.inr sz_u447) all0))
  replace Eb447 := Eb447.keep Kp448
  have Eb448 := own_Bexa Bq448
  refine own_of (U' := (T448.setTop (mkF m 11 #[.val (.ref a1), .val (.ref a2), .val (.ref a3), .val (.ref a4)] [(.ref b446)]))) (fun _ k => st448.trans k) ?_
  refine own_bipush X448 hx hby 58 d14_11 rfl ?_
  obtain ⟨cq449, kq449, q449a, q449b, q449c⟩ := isOf hZ rfl Eb448
  obtain ⟨_, _, ⟨T449, L449, k449, n449⟩, -, X449, ⟨Lc449, hQ449, l449, y449, z449⟩, st449⟩ := X448.virtualBack hx (y := mN_37) (z := mN_37) hown (oV hZ hw 123 rfl) (oV hZ hw 124 rfl) (notFace_of_selects (args := #[]) (oV hZ hw 126 rfl)) (oV hZ hw 126 rfl) (oV hZ hw 125 rfl) (by decide) (backOf (W := 0) (rmsc l Z a0 hw [] b446 u448 (([] : List Int32) ++ ts) g1 rS T448.heap n0 Z0 Bq448 (by simp only [List.length_append, List.length_nil, List.length_cons]; omega) g_b446 g_u448 ne_b446_u448 SC hg1 SA SHI SLO SF hrS) hZ (own_w hw 127 rfl) (own_w hw 60 rfl) (by decide) (by decide)) q449a q449c (g := (mkF m 13 #[.val (.ref a1), .val (.ref a2), .val (.ref a3), .val (.ref a4)] [(.int 58), (.ref b446)])) rfl (by rw [hml]; rfl) (Steps.refl _) (argsL := [(.int 58)]) (rest := []) (lenOf pd_43 rfl) rfl (by exact oZ rfl) (hb hby d14_13) (fun _ _ => ⟨rfl, rfl, (by decide : 3 + 0 ≤ _), (by decide : 52 + 0 ≤ _)⟩)
  dsimp only [Pt.U, Pt.locs, Pt.cells, Pt.slots] at X449 l449 y449 z449 st449 hQ449
  rw [l449, y449, z449] at X449
  obtain ⟨rfl, Nq449, Kp449, u449, ho449, Bq449⟩ := hQ449
  have ne_a1_u449 : a1 ≠ u449 := own_neor ho449 ne_a1_u448 E1.lt
  have ne_a2_u449 : a2 ≠ u449 := own_neor ho449 ne_a2_u448 E2.lt
  have ne_a3_u449 : a3 ≠ u449 := own_neor ho449 ne_a3_u448 E3.lt
  have ne_a4_u449 : a4 ≠ u449 := own_neor ho449 ne_a4_u448 E4.lt
  have ne_b446_u449 : b446 ≠ u449 := own_neor ho449 ne_b446_u448 Eb448.lt
  have g_u449 : n0 ≤ u449 := ho449.elim (fun q => by rw [← q]; exact g_u448) (fun q => nT Z0 q)
  have mk_u449 : u449 ∈ ([] : List Addr) ∨ h0.size ≤ u449 := ho449.elim (fun q => by rw [← q]; exact mk_u448) (fun q => Or.inr (nT KK.1 q))
  have yy_u449 : n1 ≤ u449 := ho449.elim (fun q => by rw [← q]; exact yy_u448) (fun q => nT hnY q)
  have N449 := Fr.app N448 Nq449
  have nst_b446 := Eb448.nostat
  have nst_u448 := own_Bnostat Bq448
  replace O1 := own_S2keep O1 Kp449 (allS (nT hn1 sz_b446) (allS yy_u448 all0))
  replace O2 := own_S2keep O2 Kp449 (allS (nT hn1 sz_b446) (allS yy_u448 all0))
  replace O3 := own_S2keep O3 Kp449 (allS (nT hn1 sz_b446) (allS yy_u448 all0))
  replace O4 := own_S2keep O4 Kp449 (allS (nT hn1 sz_b446) (allS yy_u448 all0))
  replace Z0 := nT Z0 Kp449.1
  replace E1 := E1.keep Kp449
  replace E2 := E2.keep Kp449
  replace E3 := E3.keep Kp449
  replace E4 := E4.keep Kp449
  replace SC := own_staKeep SC Kp449 (nsS nst_b446 (nsS nst_u448 ns0))
  replace SA := own_staKeep SA Kp449 (nsS nst_b446 (nsS nst_u448 ns0))
  replace SHI := own_staKeep SHI Kp449 (nsS nst_b446 (nsS nst_u448 ns0))
  replace SLO := own_staKeep SLO Kp449 (nsS nst_b446 (nsS nst_u448 ns0))
  replace SF := own_staKeep SF Kp449 (nsS nst_b446 (nsS nst_u448 ns0))
  replace hnY := nT hnY Kp449.1
  replace KK := KK.trans Kp449 (allS (Or.inr sz_b446) (allS mk_u448 all0))
  replace Eb448 := Eb448.keep Kp449
  have Eb449 := own_Bexa Bq449
  refine own_of (U' := (T449.setTop (mkF m 16 #[.val (.ref a1), .val (.ref a2), .val (.ref a3), .val (.ref a4)] [(.ref b446)]))) (fun _ k => st449.trans k) ?_
  refine own_aloadN X449 hx hby d14_16 rfl rfl ?_
  obtain ⟨cq450, kq450, q450a, q450b, q450c⟩ := isOf hZ rfl Eb449
  obtain ⟨_, _, ⟨T450, L450, k450, n450⟩, -, X450, ⟨Lc450, hQ450, l450, y450, z450⟩, st450⟩ := X449.virtualBack hx (y := mN_35) (z := mN_35) hown (oV hZ hw 76 rfl) (oV hZ hw 77 rfl) (notFace_of_selects (args := #[]) (oV hZ hw 79 rfl)) (oV hZ hw 79 rfl) (oV hZ hw 78 rfl) (by decide) (backOf (W := 0) (rmsa l Z a0 hw [] b446 u449 ((([] : List Int32) ++ ts) ++ [58]) a2 ps n1 g1 rS T449.heap n0 Z0 Bq449 O2 (by simp only [List.length_append, List.length_nil, List.length_cons]; omega) c2 g_b446 g_u449 ne_b446_u449 (nT hn1 sz_b446) yy_u449 hnY SC hg1 SA SHI SLO SF hrS) hZ (own_w hw 80 rfl) (own_w hw 60 rfl) (by decide) (by decide)) q450a q450c (g := (mkF m 17 #[.val (.ref a1), .val (.ref a2), .val (.ref a3), .val (.ref a4)] [(.ref a2), (.ref b446)])) rfl (by rw [hml]; rfl) (Steps.refl _) (argsL := [(.ref a2)]) (rest := []) (lenOf pd_42 rfl) rfl (by exact oZ rfl) (hb hby d14_17) (fun _ _ => ⟨rfl, rfl, (by decide : 3 + 1 ≤ _), (by decide : 52 + 32 ≤ _)⟩)
  dsimp only [Pt.U, Pt.locs, Pt.cells, Pt.slots] at X450 l450 y450 z450 st450 hQ450
  rw [l450, y450, z450] at X450
  obtain ⟨rfl, Nq450, Kp450, u450, ho450, Bq450⟩ := hQ450
  have ne_a1_u450 : a1 ≠ u450 := own_neor ho450 ne_a1_u449 E1.lt
  have ne_a2_u450 : a2 ≠ u450 := own_neor ho450 ne_a2_u449 E2.lt
  have ne_a3_u450 : a3 ≠ u450 := own_neor ho450 ne_a3_u449 E3.lt
  have ne_a4_u450 : a4 ≠ u450 := own_neor ho450 ne_a4_u449 E4.lt
  have ne_b446_u450 : b446 ≠ u450 := own_neor ho450 ne_b446_u449 Eb449.lt
  have g_u450 : n0 ≤ u450 := ho450.elim (fun q => by rw [← q]; exact g_u449) (fun q => nT Z0 q)
  have mk_u450 : u450 ∈ ([] : List Addr) ∨ h0.size ≤ u450 := ho450.elim (fun q => by rw [← q]; exact mk_u449) (fun q => Or.inr (nT KK.1 q))
  have yy_u450 : n1 ≤ u450 := ho450.elim (fun q => by rw [← q]; exact yy_u449) (fun q => nT hnY q)
  have N450 := Fr.app N449 Nq450
  have nst_b446 := Eb449.nostat
  have nst_u449 := own_Bnostat Bq449
  replace O1 := own_S2keep O1 Kp450 (allS (nT hn1 sz_b446) (allS yy_u449 all0))
  replace O2 := own_S2keep O2 Kp450 (allS (nT hn1 sz_b446) (allS yy_u449 all0))
  replace O3 := own_S2keep O3 Kp450 (allS (nT hn1 sz_b446) (allS yy_u449 all0))
  replace O4 := own_S2keep O4 Kp450 (allS (nT hn1 sz_b446) (allS yy_u449 all0))
  replace Z0 := nT Z0 Kp450.1
  replace E1 := E1.keep Kp450
  replace E2 := E2.keep Kp450
  replace E3 := E3.keep Kp450
  replace E4 := E4.keep Kp450
  replace SC := own_staKeep SC Kp450 (nsS nst_b446 (nsS nst_u449 ns0))
  replace SA := own_staKeep SA Kp450 (nsS nst_b446 (nsS nst_u449 ns0))
  replace SHI := own_staKeep SHI Kp450 (nsS nst_b446 (nsS nst_u449 ns0))
  replace SLO := own_staKeep SLO Kp450 (nsS nst_b446 (nsS nst_u449 ns0))
  replace SF := own_staKeep SF Kp450 (nsS nst_b446 (nsS nst_u449 ns0))
  replace hnY := nT hnY Kp450.1
  replace KK := KK.trans Kp450 (allS (Or.inr sz_b446) (allS mk_u449 all0))
  replace Eb449 := Eb449.keep Kp450
  have Eb450 := own_Bexa Bq450
  refine own_of (U' := (T450.setTop (mkF m 20 #[.val (.ref a1), .val (.ref a2), .val (.ref a3), .val (.ref a4)] [(.ref b446)]))) (fun _ k => st450.trans k) ?_
  refine own_bipush X450 hx hby 58 d14_20 rfl ?_
  obtain ⟨cq451, kq451, q451a, q451b, q451c⟩ := isOf hZ rfl Eb450
  obtain ⟨_, _, ⟨T451, L451, k451, n451⟩, -, X451, ⟨Lc451, hQ451, l451, y451, z451⟩, st451⟩ := X450.virtualBack hx (y := mN_37) (z := mN_37) hown (oV hZ hw 123 rfl) (oV hZ hw 124 rfl) (notFace_of_selects (args := #[]) (oV hZ hw 126 rfl)) (oV hZ hw 126 rfl) (oV hZ hw 125 rfl) (by decide) (backOf (W := 0) (rmsc l Z a0 hw [] b446 u450 (((([] : List Int32) ++ ts) ++ [58]) ++ ps) g1 rS T450.heap n0 Z0 Bq450 (by simp only [List.length_append, List.length_nil, List.length_cons]; omega) g_b446 g_u450 ne_b446_u450 SC hg1 SA SHI SLO SF hrS) hZ (own_w hw 127 rfl) (own_w hw 60 rfl) (by decide) (by decide)) q451a q451c (g := (mkF m 22 #[.val (.ref a1), .val (.ref a2), .val (.ref a3), .val (.ref a4)] [(.int 58), (.ref b446)])) rfl (by rw [hml]; rfl) (Steps.refl _) (argsL := [(.int 58)]) (rest := []) (lenOf pd_43 rfl) rfl (by exact oZ rfl) (hb hby d14_22) (fun _ _ => ⟨rfl, rfl, (by decide : 4 + 0 ≤ _), (by decide : 84 + 0 ≤ _)⟩)
  dsimp only [Pt.U, Pt.locs, Pt.cells, Pt.slots] at X451 l451 y451 z451 st451 hQ451
  rw [l451, y451, z451] at X451
  obtain ⟨rfl, Nq451, Kp451, u451, ho451, Bq451⟩ := hQ451
  have ne_a1_u451 : a1 ≠ u451 := own_neor ho451 ne_a1_u450 E1.lt
  have ne_a2_u451 : a2 ≠ u451 := own_neor ho451 ne_a2_u450 E2.lt
  have ne_a3_u451 : a3 ≠ u451 := own_neor ho451 ne_a3_u450 E3.lt
  have ne_a4_u451 : a4 ≠ u451 := own_neor ho451 ne_a4_u450 E4.lt
  have ne_b446_u451 : b446 ≠ u451 := own_neor ho451 ne_b446_u450 Eb450.lt
  have g_u451 : n0 ≤ u451 := ho451.elim (fun q => by rw [← q]; exact g_u450) (fun q => nT Z0 q)
  have mk_u451 : u451 ∈ ([] : List Addr) ∨ h0.size ≤ u451 := ho451.elim (fun q => by rw [← q]; exact mk_u450) (fun q => Or.inr (nT KK.1 q))
  have yy_u451 : n1 ≤ u451 := ho451.elim (fun q => by rw [← q]; exact yy_u450) (fun q => nT hnY q)
  have N451 := Fr.app N450 Nq451
  have nst_b446 := Eb450.nostat
  have nst_u450 := own_Bnostat Bq450
  replace O1 := own_S2keep O1 Kp451 (allS (nT hn1 sz_b446) (allS yy_u450 all0))
  replace O2 := own_S2keep O2 Kp451 (allS (nT hn1 sz_b446) (allS yy_u450 all0))
  replace O3 := own_S2keep O3 Kp451 (allS (nT hn1 sz_b446) (allS yy_u450 all0))
  replace O4 := own_S2keep O4 Kp451 (allS (nT hn1 sz_b446) (allS yy_u450 all0))
  replace Z0 := nT Z0 Kp451.1
  replace E1 := E1.keep Kp451
  replace E2 := E2.keep Kp451
  replace E3 := E3.keep Kp451
  replace E4 := E4.keep Kp451
  replace SC := own_staKeep SC Kp451 (nsS nst_b446 (nsS nst_u450 ns0))
  replace SA := own_staKeep SA Kp451 (nsS nst_b446 (nsS nst_u450 ns0))
  replace SHI := own_staKeep SHI Kp451 (nsS nst_b446 (nsS nst_u450 ns0))
  replace SLO := own_staKeep SLO Kp451 (nsS nst_b446 (nsS nst_u450 ns0))
  replace SF := own_staKeep SF Kp451 (nsS nst_b446 (nsS nst_u450 ns0))
  replace hnY := nT hnY Kp451.1
  replace KK := KK.trans Kp451 (allS (Or.inr sz_b446) (allS mk_u450 all0))
  replace Eb450 := Eb450.keep Kp451
  have Eb451 := own_Bexa Bq451
  refine own_of (U' := (T451.setTop (mkF m 25 #[.val (.ref a1), .val (.ref a2), .val (.ref a3), .val (.ref a4)] [(.ref b446)]))) (fun _ k => st451.trans k) ?_
  refine own_aloadN X451 hx hby d14_25 rfl rfl ?_
  obtain ⟨cq452, kq452, q452a, q452b, q452c⟩ := isOf hZ rfl Eb451
  obtain ⟨_, _, ⟨T452, L452, k452, n452⟩, -, X452, ⟨Lc452, hQ452, l452, y452, z452⟩, st452⟩ := X451.virtualBack hx (y := mN_35) (z := mN_35) hown (oV hZ hw 76 rfl) (oV hZ hw 77 rfl) (notFace_of_selects (args := #[]) (oV hZ hw 79 rfl)) (oV hZ hw 79 rfl) (oV hZ hw 78 rfl) (by decide) (backOf (W := 0) (rmsa l Z a0 hw [] b446 u451 ((((([] : List Int32) ++ ts) ++ [58]) ++ ps) ++ [58]) a3 os n1 g1 rS T451.heap n0 Z0 Bq451 O3 (by simp only [List.length_append, List.length_nil, List.length_cons]; omega) c3 g_b446 g_u451 ne_b446_u451 (nT hn1 sz_b446) yy_u451 hnY SC hg1 SA SHI SLO SF hrS) hZ (own_w hw 80 rfl) (own_w hw 60 rfl) (by decide) (by decide)) q452a q452c (g := (mkF m 26 #[.val (.ref a1), .val (.ref a2), .val (.ref a3), .val (.ref a4)] [(.ref a3), (.ref b446)])) rfl (by rw [hml]; rfl) (Steps.refl _) (argsL := [(.ref a3)]) (rest := []) (lenOf pd_42 rfl) rfl (by exact oZ rfl) (hb hby d14_26) (fun _ _ => ⟨rfl, rfl, (by decide : 4 + 1 ≤ _), (by decide : 84 + 32 ≤ _)⟩)
  dsimp only [Pt.U, Pt.locs, Pt.cells, Pt.slots] at X452 l452 y452 z452 st452 hQ452
  rw [l452, y452, z452] at X452
  obtain ⟨rfl, Nq452, Kp452, u452, ho452, Bq452⟩ := hQ452
  have ne_a1_u452 : a1 ≠ u452 := own_neor ho452 ne_a1_u451 E1.lt
  have ne_a2_u452 : a2 ≠ u452 := own_neor ho452 ne_a2_u451 E2.lt
  have ne_a3_u452 : a3 ≠ u452 := own_neor ho452 ne_a3_u451 E3.lt
  have ne_a4_u452 : a4 ≠ u452 := own_neor ho452 ne_a4_u451 E4.lt
  have ne_b446_u452 : b446 ≠ u452 := own_neor ho452 ne_b446_u451 Eb451.lt
  have g_u452 : n0 ≤ u452 := ho452.elim (fun q => by rw [← q]; exact g_u451) (fun q => nT Z0 q)
  have mk_u452 : u452 ∈ ([] : List Addr) ∨ h0.size ≤ u452 := ho452.elim (fun q => by rw [← q]; exact mk_u451) (fun q => Or.inr (nT KK.1 q))
  have yy_u452 : n1 ≤ u452 := ho452.elim (fun q => by rw [← q]; exact yy_u451) (fun q => nT hnY q)
  have N452 := Fr.app N451 Nq452
  have nst_b446 := Eb451.nostat
  have nst_u451 := own_Bnostat Bq451
  replace O1 := own_S2keep O1 Kp452 (allS (nT hn1 sz_b446) (allS yy_u451 all0))
  replace O2 := own_S2keep O2 Kp452 (allS (nT hn1 sz_b446) (allS yy_u451 all0))
  replace O3 := own_S2keep O3 Kp452 (allS (nT hn1 sz_b446) (allS yy_u451 all0))
  replace O4 := own_S2keep O4 Kp452 (allS (nT hn1 sz_b446) (allS yy_u451 all0))
  replace Z0 := nT Z0 Kp452.1
  replace E1 := E1.keep Kp452
  replace E2 := E2.keep Kp452
  replace E3 := E3.keep Kp452
  replace E4 := E4.keep Kp452
  replace SC := own_staKeep SC Kp452 (nsS nst_b446 (nsS nst_u451 ns0))
  replace SA := own_staKeep SA Kp452 (nsS nst_b446 (nsS nst_u451 ns0))
  replace SHI := own_staKeep SHI Kp452 (nsS nst_b446 (nsS nst_u451 ns0))
  replace SLO := own_staKeep SLO Kp452 (nsS nst_b446 (nsS nst_u451 ns0))
  replace SF := own_staKeep SF Kp452 (nsS nst_b446 (nsS nst_u451 ns0))
  replace hnY := nT hnY Kp452.1
  replace KK := KK.trans Kp452 (allS (Or.inr sz_b446) (allS mk_u451 all0))
  replace Eb451 := Eb451.keep Kp452
  have Eb452 := own_Bexa Bq452
  refine own_of (U' := (T452.setTop (mkF m 29 #[.val (.ref a1), .val (.ref a2), .val (.ref a3), .val (.ref a4)] [(.ref b446)]))) (fun _ k => st452.trans k) ?_
  refine own_bipush X452 hx hby 58 d14_29 rfl ?_
  obtain ⟨cq453, kq453, q453a, q453b, q453c⟩ := isOf hZ rfl Eb452
  obtain ⟨_, _, ⟨T453, L453, k453, n453⟩, -, X453, ⟨Lc453, hQ453, l453, y453, z453⟩, st453⟩ := X452.virtualBack hx (y := mN_37) (z := mN_37) hown (oV hZ hw 123 rfl) (oV hZ hw 124 rfl) (notFace_of_selects (args := #[]) (oV hZ hw 126 rfl)) (oV hZ hw 126 rfl) (oV hZ hw 125 rfl) (by decide) (backOf (W := 0) (rmsc l Z a0 hw [] b446 u452 (((((([] : List Int32) ++ ts) ++ [58]) ++ ps) ++ [58]) ++ os) g1 rS T452.heap n0 Z0 Bq452 (by simp only [List.length_append, List.length_nil, List.length_cons]; omega) g_b446 g_u452 ne_b446_u452 SC hg1 SA SHI SLO SF hrS) hZ (own_w hw 127 rfl) (own_w hw 60 rfl) (by decide) (by decide)) q453a q453c (g := (mkF m 31 #[.val (.ref a1), .val (.ref a2), .val (.ref a3), .val (.ref a4)] [(.int 58), (.ref b446)])) rfl (by rw [hml]; rfl) (Steps.refl _) (argsL := [(.int 58)]) (rest := []) (lenOf pd_43 rfl) rfl (by exact oZ rfl) (hb hby d14_31) (fun _ _ => ⟨rfl, rfl, (by decide : 5 + 0 ≤ _), (by decide : 116 + 0 ≤ _)⟩)
  dsimp only [Pt.U, Pt.locs, Pt.cells, Pt.slots] at X453 l453 y453 z453 st453 hQ453
  rw [l453, y453, z453] at X453
  obtain ⟨rfl, Nq453, Kp453, u453, ho453, Bq453⟩ := hQ453
  have ne_a1_u453 : a1 ≠ u453 := own_neor ho453 ne_a1_u452 E1.lt
  have ne_a2_u453 : a2 ≠ u453 := own_neor ho453 ne_a2_u452 E2.lt
  have ne_a3_u453 : a3 ≠ u453 := own_neor ho453 ne_a3_u452 E3.lt
  have ne_a4_u453 : a4 ≠ u453 := own_neor ho453 ne_a4_u452 E4.lt
  have ne_b446_u453 : b446 ≠ u453 := own_neor ho453 ne_b446_u452 Eb452.lt
  have g_u453 : n0 ≤ u453 := ho453.elim (fun q => by rw [← q]; exact g_u452) (fun q => nT Z0 q)
  have mk_u453 : u453 ∈ ([] : List Addr) ∨ h0.size ≤ u453 := ho453.elim (fun q => by rw [← q]; exact mk_u452) (fun q => Or.inr (nT KK.1 q))
  have yy_u453 : n1 ≤ u453 := ho453.elim (fun q => by rw [← q]; exact yy_u452) (fun q => nT hnY q)
  have N453 := Fr.app N452 Nq453
  have nst_b446 := Eb452.nostat
  have nst_u452 := own_Bnostat Bq452
  replace O1 := own_S2keep O1 Kp453 (allS (nT hn1 sz_b446) (allS yy_u452 all0))
  replace O2 := own_S2keep O2 Kp453 (allS (nT hn1 sz_b446) (allS yy_u452 all0))
  replace O3 := own_S2keep O3 Kp453 (allS (nT hn1 sz_b446) (allS yy_u452 all0))
  replace O4 := own_S2keep O4 Kp453 (allS (nT hn1 sz_b446) (allS yy_u452 all0))
  replace Z0 := nT Z0 Kp453.1
  replace E1 := E1.keep Kp453
  replace E2 := E2.keep Kp453
  replace E3 := E3.keep Kp453
  replace E4 := E4.keep Kp453
  replace SC := own_staKeep SC Kp453 (nsS nst_b446 (nsS nst_u452 ns0))
  replace SA := own_staKeep SA Kp453 (nsS nst_b446 (nsS nst_u452 ns0))
  replace SHI := own_staKeep SHI Kp453 (nsS nst_b446 (nsS nst_u452 ns0))
  replace SLO := own_staKeep SLO Kp453 (nsS nst_b446 (nsS nst_u452 ns0))
  replace SF := own_staKeep SF Kp453 (nsS nst_b446 (nsS nst_u452 ns0))
  replace hnY := nT hnY Kp453.1
  replace KK := KK.trans Kp453 (allS (Or.inr sz_b446) (allS mk_u452 all0))
  replace Eb452 := Eb452.keep Kp453
  have Eb453 := own_Bexa Bq453
  refine own_of (U' := (T453.setTop (mkF m 34 #[.val (.ref a1), .val (.ref a2), .val (.ref a3), .val (.ref a4)] [(.ref b446)]))) (fun _ k => st453.trans k) ?_
  refine own_aloadN X453 hx hby d14_34 rfl rfl ?_
  obtain ⟨cq454, kq454, q454a, q454b, q454c⟩ := isOf hZ rfl Eb453
  obtain ⟨_, _, ⟨T454, L454, k454, n454⟩, -, X454, ⟨Lc454, hQ454, l454, y454, z454⟩, st454⟩ := X453.virtualBack hx (y := mN_35) (z := mN_35) hown (oV hZ hw 76 rfl) (oV hZ hw 77 rfl) (notFace_of_selects (args := #[]) (oV hZ hw 79 rfl)) (oV hZ hw 79 rfl) (oV hZ hw 78 rfl) (by decide) (backOf (W := 0) (rmsa l Z a0 hw [] b446 u453 ((((((([] : List Int32) ++ ts) ++ [58]) ++ ps) ++ [58]) ++ os) ++ [58]) a4 ls n1 g1 rS T453.heap n0 Z0 Bq453 O4 (by simp only [List.length_append, List.length_nil, List.length_cons]; omega) c4 g_b446 g_u453 ne_b446_u453 (nT hn1 sz_b446) yy_u453 hnY SC hg1 SA SHI SLO SF hrS) hZ (own_w hw 80 rfl) (own_w hw 60 rfl) (by decide) (by decide)) q454a q454c (g := (mkF m 35 #[.val (.ref a1), .val (.ref a2), .val (.ref a3), .val (.ref a4)] [(.ref a4), (.ref b446)])) rfl (by rw [hml]; rfl) (Steps.refl _) (argsL := [(.ref a4)]) (rest := []) (lenOf pd_42 rfl) rfl (by exact oZ rfl) (hb hby d14_35) (fun _ _ => ⟨rfl, rfl, (by decide : 5 + 1 ≤ _), (by decide : 116 + 32 ≤ _)⟩)
  dsimp only [Pt.U, Pt.locs, Pt.cells, Pt.slots] at X454 l454 y454 z454 st454 hQ454
  rw [l454, y454, z454] at X454
  obtain ⟨rfl, Nq454, Kp454, u454, ho454, Bq454⟩ := hQ454
  have ne_a1_u454 : a1 ≠ u454 := own_neor ho454 ne_a1_u453 E1.lt
  have ne_a2_u454 : a2 ≠ u454 := own_neor ho454 ne_a2_u453 E2.lt
  have ne_a3_u454 : a3 ≠ u454 := own_neor ho454 ne_a3_u453 E3.lt
  have ne_a4_u454 : a4 ≠ u454 := own_neor ho454 ne_a4_u453 E4.lt
  have ne_b446_u454 : b446 ≠ u454 := own_neor ho454 ne_b446_u453 Eb453.lt
  have g_u454 : n0 ≤ u454 := ho454.elim (fun q => by rw [← q]; exact g_u453) (fun q => nT Z0 q)
  have mk_u454 : u454 ∈ ([] : List Addr) ∨ h0.size ≤ u454 := ho454.elim (fun q => by rw [← q]; exact mk_u453) (fun q => Or.inr (nT KK.1 q))
  have yy_u454 : n1 ≤ u454 := ho454.elim (fun q => by rw [← q]; exact yy_u453) (fun q => nT hnY q)
  have N454 := Fr.app N453 Nq454
  have nst_b446 := Eb453.nostat
  have nst_u453 := own_Bnostat Bq453
  replace O1 := own_S2keep O1 Kp454 (allS (nT hn1 sz_b446) (allS yy_u453 all0))
  replace O2 := own_S2keep O2 Kp454 (allS (nT hn1 sz_b446) (allS yy_u453 all0))
  replace O3 := own_S2keep O3 Kp454 (allS (nT hn1 sz_b446) (allS yy_u453 all0))
  replace O4 := own_S2keep O4 Kp454 (allS (nT hn1 sz_b446) (allS yy_u453 all0))
  replace Z0 := nT Z0 Kp454.1
  replace E1 := E1.keep Kp454
  replace E2 := E2.keep Kp454
  replace E3 := E3.keep Kp454
  replace E4 := E4.keep Kp454
  replace SC := own_staKeep SC Kp454 (nsS nst_b446 (nsS nst_u453 ns0))
  replace SA := own_staKeep SA Kp454 (nsS nst_b446 (nsS nst_u453 ns0))
  replace SHI := own_staKeep SHI Kp454 (nsS nst_b446 (nsS nst_u453 ns0))
  replace SLO := own_staKeep SLO Kp454 (nsS nst_b446 (nsS nst_u453 ns0))
  replace SF := own_staKeep SF Kp454 (nsS nst_b446 (nsS nst_u453 ns0))
  replace hnY := nT hnY Kp454.1
  replace KK := KK.trans Kp454 (allS (Or.inr sz_b446) (allS mk_u453 all0))
  replace Eb453 := Eb453.keep Kp454
  have Eb454 := own_Bexa Bq454
  refine own_of (U' := (T454.setTop (mkF m 38 #[.val (.ref a1), .val (.ref a2), .val (.ref a3), .val (.ref a4)] [(.ref b446)]))) (fun _ k => st454.trans k) ?_
  obtain ⟨cq455, kq455, q455a, q455b, q455c⟩ := isOf hZ rfl Eb454
  obtain ⟨_, _, ⟨T455, L455, k455, n455⟩, -, X455, ⟨Lc455, hQ455, l455, y455, z455⟩, st455⟩ := X454.virtualBack hx (y := mN_45) (z := mN_45) hown (oV hZ hw 138 rfl) (oV hZ hw 139 rfl) (notFace_of_selects (args := #[]) (oV hZ hw 141 rfl)) (oV hZ hw 141 rfl) (oV hZ hw 140 rfl) (by decide) (backOf (W := 0) (rmts l Z a0 hw [] g1 b446 u454 (((((((([] : List Int32) ++ ts) ++ [58]) ++ ps) ++ [58]) ++ os) ++ [58]) ++ ls) T454.heap n0 Z0 Bq454 (by simp only [List.length_append, List.length_nil, List.length_cons]; omega) ne_b446_u454 SC hg1) hZ (own_w hw 142 rfl) (own_w hw 60 rfl) (by decide) (by decide)) q455a q455c (g := (mkF m 38 #[.val (.ref a1), .val (.ref a2), .val (.ref a3), .val (.ref a4)] [(.ref b446)])) rfl (by rw [hml]; rfl) (Steps.refl _) (argsL := []) (rest := []) (lenOf pd_44 rfl) rfl (by exact oZ rfl) (hb hby d14_38) (fun _ _ => ⟨rfl, rfl, (by decide : 6 + 2 ≤ _), (by decide : 148 + 26 ≤ _)⟩)
  dsimp only [Pt.U, Pt.locs, Pt.cells, Pt.slots] at X455 l455 y455 z455 st455 hQ455
  rw [l455, y455, z455] at X455
  obtain ⟨a455, rfl, Nq455, Kp455, ga455, Oq455⟩ := hQ455
  have g_a455 : n0 ≤ a455 := nT Z0 ga455
  have sz_a455 : h0.size ≤ a455 := nT KK.1 ga455
  have ne_a1_a455 : a1 ≠ a455 := nL E1.lt ga455
  have ne_a2_a455 : a2 ≠ a455 := nL E2.lt ga455
  have ne_a3_a455 : a3 ≠ a455 := nL E3.lt ga455
  have ne_a4_a455 : a4 ≠ a455 := nL E4.lt ga455
  have ne_b446_a455 : b446 ≠ a455 := nL Eb454.lt ga455
  have N455 := Fr.app N454 Nq455
  replace O1 := own_S2keep O1 Kp455 all0
  replace O2 := own_S2keep O2 Kp455 all0
  replace O3 := own_S2keep O3 Kp455 all0
  replace O4 := own_S2keep O4 Kp455 all0
  replace Z0 := nT Z0 Kp455.1
  replace E1 := E1.keep Kp455
  replace E2 := E2.keep Kp455
  replace E3 := E3.keep Kp455
  replace E4 := E4.keep Kp455
  replace SC := own_staKeep SC Kp455 ns0
  replace SA := own_staKeep SA Kp455 ns0
  replace SHI := own_staKeep SHI Kp455 ns0
  replace SLO := own_staKeep SLO Kp455 ns0
  replace SF := own_staKeep SF Kp455 ns0
  replace hnY := nT hnY Kp455.1
  replace KK := KK.trans Kp455 all0
  replace Eb454 := Eb454.keep Kp455
  have Es455 := own_S2exa Oq455
  refine own_of (U' := (T455.setTop (mkF m 41 #[.val (.ref a1), .val (.ref a2), .val (.ref a3), .val (.ref a4)] [(.ref a455)]))) (fun _ k => st455.trans k) ?_
  exact own_retA X455 hx hlk hrt rfl rfl (hb hby d14_41) (by decide) (by decide) (⟨a455, rfl, N455, KK, sz_a455, Oq455⟩)
abbrev mN_73 : MethodName := ⟨"com/example/pools_to_qrels/poolstoqrels/CitationIds", "post", "(Ljava/lang/String;)Ljava/lang/String;"⟩
theorem pd_45 : parseMethodDescriptor "(II)Ljava/lang/String;" = some ⟨[.int, .int], some (.object "java/lang/String")⟩ := by decide +kernel
theorem d38_0 : decode c_73 0 = .ok (.aload_n 0, 1) := by decide +kernel
theorem d38_1 : decode c_73 1 = .ok (.iconst 0, 1) := by decide +kernel
theorem d38_2 : decode c_73 2 = .ok (.aload_n 0, 1) := by decide +kernel
theorem d38_3 : decode c_73 3 = .ok (.bipush 58, 2) := by decide +kernel
theorem d38_5 : decode c_73 5 = .ok (.aload_n 0, 1) := by decide +kernel
theorem d38_6 : decode c_73 6 = .ok (.bipush 58, 2) := by decide +kernel
theorem d38_8 : decode c_73 8 = .ok (.invokevirtual 57, 3) := by decide +kernel
theorem d38_11 : decode c_73 11 = .ok (.iconst 1, 1) := by decide +kernel
theorem d38_12 : decode c_73 12 = .ok (.iadd, 1) := by decide +kernel
theorem d38_13 : decode c_73 13 = .ok (.invokevirtual 61, 3) := by decide +kernel
theorem d38_16 : decode c_73 16 = .ok (.invokevirtual 64, 3) := by decide +kernel
theorem d38_19 : decode c_73 19 = .ok (.areturn, 1) := by decide +kernel
theorem ef_po (m : MethodId) (x0 : Addr) : entryFrame m #[(.ref x0)] 1 = mkF m 0 #[.val (.ref x0)] [] := by first | (simp [entryFrame, mkF, argsToLocals, Value.category]; done) | rfl
theorem rmpo (l : Launch) (Z : State) (a0 : Array Value) (hw : ∀ d ∈ tables_1, d.before a0 Z = true) (ws : List Jvm.Cond) (a1 : Addr) (cs : List Int32) (n1 j1 j2 : Nat) (g1 : Int32) (rS : Value) (h0 : Heap) (n0 : Nat) (Z0 : n0 ≤ h0.size) (O1 : own_S2 Z h0 n1 a1 cs) (hcs : own_chs cs) (hlen : cs.length ≤ 100) (h1l : j1 < j2) (hjl : j2 < cs.length) (hjc : j2 ≤ 5) (hj1 : cs.getD j1 0 = 58) (hj2 : cs.getD j2 0 = 58) (hno1 : ∀ i, 0 ≤ i → i < j1 → ¬ (cs.getD i 0 = 58)) (hno2 : ∀ i, j1 + 1 ≤ i → i < j2 → ¬ (cs.getD i 0 = 58)) (SC : Sta Z h0 "java/lang/String" "COMPACT_STRINGS" "Z" (.int g1)) (hg1 : ¬ (g1 = (0 : Int32))) (SA : Sta Z h0 "java/lang/StringUTF16" "$assertionsDisabled" "Z" (.int 1)) (SHI : Sta Z h0 "java/lang/StringUTF16" "HI_BYTE_SHIFT" "I" (.int 0)) (SLO : Sta Z h0 "java/lang/StringUTF16" "LO_BYTE_SHIFT" "I" (.int 8)) (SF : Sta Z h0 "jdk/internal/util/Preconditions" "SIOOBE_FORMATTER" "Ljava/util/function/BiFunction;" rS) (hrS : rS.isRef = true) : own_M l mN_73 prog_5_method_4_code 1 (some (.object "java/lang/String")) ws ({ frames := 7, cells := 3, slots := 31, locals := 110 } : Room) Z h0 #[(.ref a1)] (Qs2 Z (cs.take j2) h0 n0) := by
  refine own_go #[.val (.ref a1)] (plainFor_of_name pn_8) (fun m => ef_po m a1) ?_
  intro p e s m below meth c s₁ hx hby hml hown hnm hlk X0 e0 hZ hrt
  have N0 := Fr.nil n0
  have KK := Keep.refl h0 []
  have E1 := own_S2exa O1
  refine own_aloadN X0 hx hby d38_0 rfl rfl ?_
  refine own_iconst X0 hx hby 0 d38_1 rfl ?_
  refine own_aloadN X0 hx hby d38_2 rfl rfl ?_
  refine own_bipush X0 hx hby 58 d38_3 rfl ?_
  refine own_aloadN X0 hx hby d38_5 rfl rfl ?_
  refine own_bipush X0 hx hby 58 d38_6 rfl ?_
  obtain ⟨cq456, kq456, q456a, q456b, q456c⟩ := isOf hZ e0 E1
  obtain ⟨_, _, ⟨T456, L456, k456, n456⟩, -, X456, ⟨Lc456, hQ456, l456, y456, z456⟩, st456⟩ := X0.virtualBack hx (y := mN_61) (z := mN_61) hown (oV hZ hw 182 rfl) (oV hZ hw 183 rfl) (notFace_of_selects (args := #[]) (oV hZ hw 185 rfl)) (oV hZ hw 185 rfl) (oV hZ hw 184 rfl) (by decide) (backOf (W := 4) (rmiz l Z a0 hw [] a1 cs n1 j1 g1 rS h0 n0 Z0 O1 (by omega) hj1 hno1 hlen hcs SC hg1 SA SHI SLO SF hrS) hZ (own_w hw 186 rfl) (own_w hw 12 rfl) (by decide) (by decide)) q456a q456c (g := (mkF m 8 #[.val (.ref a1)] [(.int 58), (.ref a1), (.int 58), (.ref a1), (.int 0), (.ref a1)])) rfl (by rw [hml]; rfl) (Steps.refl _) (argsL := [(.int 58)]) (rest := [(.int 58), (.ref a1), (.int 0), (.ref a1)]) (lenOf pd_8 rfl) rfl (by exact oZ rfl) (hb hby d38_8) (fun _ _ => ⟨rfl, e0, (by decide : 0 + 0 ≤ _), (by decide : 0 + 0 ≤ _)⟩)
  dsimp only [Pt.U, Pt.locs, Pt.cells, Pt.slots] at X456 l456 y456 z456 st456 hQ456
  rw [l456, y456, z456] at X456
  obtain ⟨r456, rfl, Nq456, e456, hr456⟩ := hQ456
  have N456 := Fr.app N0 Nq456
  refine own_of (U' := (T456.setTop (mkF m 11 #[.val (.ref a1)] [(.int r456), (.int 58), (.ref a1), (.int 0), (.ref a1)]))) (fun _ k => st456.trans k) ?_
  refine own_iconst X456 hx hby 1 d38_11 rfl ?_
  refine own_iadd X456 hx hby d38_12 ?_
  obtain ⟨cq457, kq457, q457a, q457b, q457c⟩ := isOf hZ e456 E1
  obtain ⟨_, _, ⟨T457, L457, k457, n457⟩, -, X457, ⟨Lc457, hQ457, l457, y457, z457⟩, st457⟩ := X456.virtualBack hx (y := mN_60) (z := mN_60) hown (oV hZ hw 211 rfl) (oV hZ hw 188 rfl) (notFace_of_selects (args := #[]) (oV hZ hw 190 rfl)) (oV hZ hw 190 rfl) (oV hZ hw 189 rfl) (by decide) (backOf (W := 2) (rmix l Z a0 hw [] a1 (r456 + (1 : Int32)) cs n1 (j1 + 1) j2 g1 rS h0 n0 Z0 O1 (own_inc hr456 (by omega)) (by omega) hjl hj2 hno2 hlen hcs SC hg1 SA SHI SLO SF hrS) hZ (own_w hw 191 rfl) (own_w hw 12 rfl) (by decide) (by decide)) q457a q457c (g := (mkF m 13 #[.val (.ref a1)] [(.int (r456 + (1 : Int32))), (.int 58), (.ref a1), (.int 0), (.ref a1)])) rfl (by rw [hml]; rfl) (Steps.refl _) (argsL := [(.int 58), (.int (r456 + (1 : Int32)))]) (rest := [(.int 0), (.ref a1)]) (lenOf pd_23 rfl) rfl (by exact oZ rfl) (hb hby d38_13) (fun _ _ => ⟨rfl, e456, (by decide : 0 + 0 ≤ _), (by decide : 0 + 0 ≤ _)⟩)
  dsimp only [Pt.U, Pt.locs, Pt.cells, Pt.slots] at X457 l457 y457 z457 st457 hQ457
  rw [l457, y457, z457] at X457
  obtain ⟨r457, rfl, Nq457, e457, hr457⟩ := hQ457
  have N457 := Fr.app N456 Nq457
  refine own_of (U' := (T457.setTop (mkF m 16 #[.val (.ref a1)] [(.int r457), (.int 0), (.ref a1)]))) (fun _ k => st457.trans k) ?_
  obtain ⟨cq458, kq458, q458a, q458b, q458c⟩ := isOf hZ e457 E1
  obtain ⟨_, _, ⟨T458, L458, k458, n458⟩, -, X458, ⟨Lc458, hQ458, l458, y458, z458⟩, st458⟩ := X457.virtualBack hx (y := mN_66) (z := mN_66) hown (oV hZ hw 212 rfl) (oV hZ hw 213 rfl) (notFace_of_selects (args := #[]) (oV hZ hw 215 rfl)) (oV hZ hw 215 rfl) (oV hZ hw 214 rfl) (by decide) (backOf (W := 0) (rmsb l Z a0 hw [] a1 r457 cs n1 j2 g1 rS h0 n0 Z0 O1 hr457 (by omega) hjl hjc hcs hlen SC hg1 SA SHI SLO SF hrS) hZ (own_w hw 216 rfl) (own_w hw 12 rfl) (by decide) (by decide)) q458a q458c (g := (mkF m 16 #[.val (.ref a1)] [(.int r457), (.int 0), (.ref a1)])) rfl (by rw [hml]; rfl) (Steps.refl _) (argsL := [(.int 0), (.int r457)]) (rest := []) (lenOf pd_45 rfl) rfl (by exact oZ rfl) (hb hby d38_16) (fun _ _ => ⟨rfl, e457, (by decide : 0 + 3 ≤ _), (by decide : 0 + 31 ≤ _)⟩)
  dsimp only [Pt.U, Pt.locs, Pt.cells, Pt.slots] at X458 l458 y458 z458 st458 hQ458
  rw [l458, y458, z458] at X458
  obtain ⟨a458, rfl, Nq458, Kp458, ga458, Oq458⟩ := hQ458
  have g_a458 : n0 ≤ a458 := nT Z0 ga458
  have sz_a458 : h0.size ≤ a458 := nT KK.1 ga458
  have ne_a1_a458 : a1 ≠ a458 := nL E1.lt ga458
  have N458 := Fr.app N457 Nq458
  replace O1 := own_S2keep O1 Kp458 all0
  replace Z0 := nT Z0 Kp458.1
  replace E1 := E1.keep Kp458
  replace SC := own_staKeep SC Kp458 ns0
  replace SA := own_staKeep SA Kp458 ns0
  replace SHI := own_staKeep SHI Kp458 ns0
  replace SLO := own_staKeep SLO Kp458 ns0
  replace SF := own_staKeep SF Kp458 ns0
  replace KK := KK.trans Kp458 all0
  have Es458 := own_S2exa Oq458
  refine own_of (U' := (T458.setTop (mkF m 19 #[.val (.ref a1)] [(.ref a458)]))) (fun _ k => st458.trans k) ?_
  exact own_retA X458 hx hlk hrt rfl rfl (hb hby d38_19) (by decide) (by decide) (⟨a458, rfl, N458, KK, sz_a458, Oq458⟩)
theorem own_01 {x y : Int32} (h : x = if y = (0 : Int32) then (0 : Int32) else (1 : Int32)) : x = 0 ∨ x = 1 := by
  by_cases q : y = 0
  · rw [if_pos q] at h; exact Or.inl h
  · rw [if_neg q] at h; exact Or.inr h
theorem own_ptl {two c0 c1 tl : Int32} (h01 : two = 0 ∨ two = 1) (h : tl = if two = (0 : Int32) then (1 : Int32) else (2 : Int32)) : tl.toInt = (own_pt two c0 c1).length ∧ (own_pt two c0 c1).length ≤ 2 ∧ 1 ≤ (own_pt two c0 c1).length := by
  unfold own_pt
  rcases h01 with rfl | rfl
  · rw [if_pos rfl] at h ⊢; rw [h]; exact ⟨rfl, Nat.le_of_ble_eq_true rfl, Nat.le_refl _⟩
  · rw [if_neg (by decide)] at h ⊢; rw [h]; exact ⟨rfl, Nat.le_refl _, Nat.le_of_ble_eq_true rfl⟩
theorem own_ptc {two c0 c1 : Int32} (b0 : 0 ≤ c0.toInt ∧ c0.toInt < 65536) (b1 : 0 ≤ c1.toInt ∧ c1.toInt < 65536) : own_chs (own_pt two c0 c1) := by
  unfold own_pt
  split
  · exact fun c hc => by rw [List.mem_singleton.mp hc]; exact b0
  · exact own_chs2 b0 b1
theorem own_ptn {two c0 c1 : Int32} (b0 : ¬ (c0 = 58)) (b1 : ¬ (c1 = 58)) : ∀ c ∈ own_pt two c0 c1, ¬ (c = 58) := by
  unfold own_pt
  split
  · exact fun c hc => by rw [List.mem_singleton.mp hc]; exact b0
  · intro c hc
    rcases List.mem_cons.mp hc with rfl | hc
    · exact b0
    · rw [List.mem_singleton.mp hc]; exact b1
theorem own_cc58 (x : Int32) : ¬ (own_cc x = 58) := by
  have e0 : own_cc x = (if (x &&& (255 : Int32)) = 58 then (256 : Int32) else (x &&& (255 : Int32))).toUInt32.toUInt16.toUInt32.toInt32 := own_nar2 _
  rw [e0]
  intro e
  have m := c_mask x 255 8 (by decide) (by decide)
  rw [show ((2 ^ 8 : Nat) : Int) = 256 from rfl] at m
  by_cases q : (x &&& (255 : Int32)) = 58
  · rw [if_pos q] at e; exact absurd e (by decide)
  · rw [if_neg q] at e
    have h := c_i2c (x &&& (255 : Int32))
    rw [e, show (58 : Int32).toInt = 58 by decide] at h
    exact q (Int32.toInt_inj.mp (by rw [show (58 : Int32).toInt = 58 by decide]; omega))
theorem own_get_app {a b : List Int32} {i : Nat} (h : i < a.length) : (a ++ b).getD i 0 = a.getD i 0 := by
  rw [List.getD_eq_getElem?_getD, List.getD_eq_getElem?_getD, List.getElem?_append_left h]
theorem own_get_mid {a b : List Int32} {c : Int32} {i : Nat} (h : i = a.length) : ((a ++ [c]) ++ b).getD i 0 = c := by
  rw [h, own_get_app (by rw [List.length_append]; exact Nat.lt_succ_self _), List.getD_eq_getElem?_getD, List.getElem?_append_right (Nat.le_refl _), Nat.sub_self]; rfl
/-- the places of the first two colons -/
theorem own_colons {ts ps os ls : List Int32} (ht : ∀ c ∈ ts, ¬ (c = 58)) (hp : ∀ c ∈ ps, ¬ (c = 58)) : let cs := ((((((([] ++ ts) ++ [58]) ++ ps) ++ [58]) ++ os) ++ [58]) ++ ls)
    cs.getD ts.length 0 = 58 ∧ cs.getD (ts.length + 1 + ps.length) 0 = 58 ∧ (∀ i, 0 ≤ i → i < ts.length → ¬ (cs.getD i 0 = 58)) ∧ (∀ i, ts.length + 1 ≤ i → i < ts.length + 1 + ps.length → ¬ (cs.getD i 0 = 58)) ∧ cs.take (ts.length + 1 + ps.length) = (ts ++ [58]) ++ ps := by
  intro cs
  have e : cs = (ts ++ [58]) ++ (ps ++ ([58] ++ (os ++ ([58] ++ ls)))) := by show ((((((([] ++ ts) ++ [58]) ++ ps) ++ [58]) ++ os) ++ [58]) ++ ls) = _; simp only [List.nil_append, List.append_assoc]
  have e2 : cs = (((ts ++ [58]) ++ ps) ++ [58]) ++ (os ++ ([58] ++ ls)) := by rw [e]; simp only [List.append_assoc]
  have l2 : ((ts ++ [58]) ++ ps).length = ts.length + 1 + ps.length := by simp only [List.length_append, List.length_cons, List.length_nil]
  refine ⟨?_, ?_, fun i _ hi => ?_, fun i h1 h2 => ?_, ?_⟩
  · rw [e]; exact own_get_mid rfl
  · rw [e2]; exact own_get_mid l2.symm
  · rw [e, List.append_assoc, own_get_app hi]; exact ht _ (own_getmem hi)
  · rw [e2, List.append_assoc, own_get_app (by rw [l2]; exact h2), List.getD_eq_getElem?_getD, List.getElem?_append_right (by rw [List.length_append]; exact h1), ← List.getD_eq_getElem?_getD]
    exact hp _ (own_getmem (by rw [List.length_append]; show i - (ts.length + 1) < _; omega))
  · rw [e2, List.append_assoc, List.take_append_of_le_length (by rw [l2]; exact Nat.le_refl _), List.take_of_length_le (by rw [l2]; exact Nat.le_refl _)]
theorem own_pt2 {two c0 c1 : Int32} (h01 : two = 0 ∨ two = 1) : (own_pt two c0 c1).length ≤ 2 := by
  unfold own_pt
  split
  · exact Nat.le_of_ble_eq_true rfl
  · exact Nat.le_refl _
theorem pd_46 : parseMethodDescriptor "(I)C" = some ⟨[.int], some .char⟩ := by decide +kernel
theorem pd_47 : parseMethodDescriptor "(ZCC)Ljava/lang/String;" = some ⟨[.boolean, .char, .char], some (.object "java/lang/String")⟩ := by decide +kernel
theorem pd_48 : parseMethodDescriptor "(Ljava/lang/String;Ljava/lang/String;Ljava/lang/String;Ljava/lang/String;)Ljava/lang/String;" = some ⟨[(.object "java/lang/String"), (.object "java/lang/String"), (.object "java/lang/String"), (.object "java/lang/String")], some (.object "java/lang/String")⟩ := by decide +kernel
theorem pd_49 : parseMethodDescriptor "(Ljava/lang/String;)Ljava/lang/String;" = some ⟨[(.object "java/lang/String")], some (.object "java/lang/String")⟩ := by decide +kernel
theorem pd_50 : parseMethodDescriptor "(Ljava/lang/Object;)Z" = some ⟨[(.object "java/lang/Object")], some .boolean⟩ := by decide +kernel
theorem ef_0 (m : MethodId) (x0 : Int32) (x1 : Int32) (x2 : Int32) (x3 : Int32) : entryFrame m #[(.int x0), (.int x1), (.int x2), (.int x3)] maxLocals = mkF m 0 #[.val (.int x0), .val (.int x1), .val (.int x2), .val (.int x3), .unset, .unset, .unset, .unset, .unset, .unset, .unset, .unset, .unset, .unset, .unset, .unset, .unset, .unset, .unset, .unset, .unset, .unset, .unset, .unset, .unset, .unset] [] := by first | (simp [entryFrame, mkF, argsToLocals, Value.category, maxLocals]; done) | rfl
def Q0 (n0 : Nat) (v : Option Value) (h : Heap) (L : List Loc) : Prop := v = some (.int 1) ∧ Fr n0 L
theorem rm0 (l : Launch) (Z : State) (a0 : Array Value) (hw : ∀ d ∈ tables_1, d.before a0 Z = true) (ws : List Jvm.Cond) (v1 v2 v3 v4 g1 : Int32) (rS : Value) (h0 : Heap) (n0 : Nat) (Z0 : n0 ≤ h0.size) (SC : Sta Z h0 "java/lang/String" "COMPACT_STRINGS" "Z" (.int g1)) (hg1 : ¬ (g1 = (0 : Int32))) (SA : Sta Z h0 "java/lang/StringUTF16" "$assertionsDisabled" "Z" (.int 1)) (SHI : Sta Z h0 "java/lang/StringUTF16" "HI_BYTE_SHIFT" "I" (.int 0)) (SLO : Sta Z h0 "java/lang/StringUTF16" "LO_BYTE_SHIFT" "I" (.int 8)) (SF : Sta Z h0 "jdk/internal/util/Preconditions" "SIOOBE_FORMATTER" "Ljava/util/function/BiFunction;" rS) (hrS : rS.isRef = true) :
    MetFree l x (head1 (Jvm.Cond.code x code maxLocals ret :: ws) room_1) (fun a U => a = #[(.int v1), (.int v2), (.int v3), (.int v4)] ∧ Z.Warmed39 U.vm ∧ U.heap = h0) (fun _ _ _ _ _ => True) (fun _ U o U' => ∃ v L, o = .returned v ∧ (Q0 n0) v U'.heap L ∧ FrameEnd U o U' L 56 384) := by
  refine MetFree.of_bodySF (plainFor_of_name pn_7) hisR ?_
  intro p e s m args below meth c s₁ Bd hml0 hP hK
  obtain ⟨rfl, hZ, hh⟩ := hP
  have hx := Bd.exec
  have hby := Bd.bytes
  have hml : c.maxLocals = 26 := hml0
  have hown : s.vm.findClass "com/example/pools_to_qrels/poolstoqrels/CitationIdsPostPinLaw" = some m.cls := findClass_of_methodNamed Bd.named
  have hnm := (name_of_methodNamed Bd.named Bd.method).1
  have hlk := Bd.notSynchronized
  have X0 : Stand p l e room_1 s m #[(.int v1), (.int v2), (.int v3), (.int v4)] below meth c s₁ [] 0 0 := Stand.of_body Bd
  have e0 : s₁.heap = h0 := by rw [← hh, Bd.state]; rfl
  have N0 := Fr.nil n0
  show own_Ends p e below s FrameEnd (Q0 n0) 56 384 (s₁.setTop (entryFrame m #[(.int v1), (.int v2), (.int v3), (.int v4)] maxLocals))
  refine own_of (U' := (s₁.setTop (mkF m 0 #[.val (.int v1), .val (.int v2), .val (.int v3), .val (.int v4), .unset, .unset, .unset, .unset, .unset, .unset, .unset, .unset, .unset, .unset, .unset, .unset, .unset, .unset, .unset, .unset, .unset, .unset, .unset, .unset, .unset, .unset] []))) (fun _ k => castTop (ef_0 m v1 v2 v3 v4) k) ?_
  refine own_iloadN X0 hx hby at_0 rfl ?_
  refine own_iconst X0 hx hby 1 at_1 rfl ?_
  refine own_iand X0 hx hby at_2 ?_
  obtain ⟨tw, htw⟩ : ∃ z : Int32, z = (if (v4 &&& (1 : Int32)) = (0 : Int32) then (0 : Int32) else (1 : Int32)) := ⟨_, rfl⟩
  suffices key3 : own_Ends p e below s FrameEnd (Q0 n0) 56 384 (s₁.setTop (mkF m 11 #[.val (.int v1), .val (.int v2), .val (.int v3), .val (.int v4), .unset, .unset, .unset, .unset, .unset, .unset, .unset, .unset, .unset, .unset, .unset, .unset, .unset, .unset, .unset, .unset, .unset, .unset, .unset, .unset, .unset, .unset] [(.int tw)])) by
    by_cases hc3_459 : (v4 &&& (1 : Int32)) = (0 : Int32)
    · skip
      refine own_ifYes X0 hx hby 3 10 at_3 ((if0 _ _).trans (teq hc3_459).1) (by decide) (by decide) ?_
      refine own_iconst X0 hx hby 0 at_10 rfl ?_
      have ttw : tw = (0 : Int32) := by rw [htw, if_pos hc3_459]
      exact own_eq (by rw [ttw]) key3
    · skip
      refine own_ifNo X0 hx hby at_3 ((if0 _ _).trans (feq hc3_459).1) ?_
      refine own_iconst X0 hx hby 1 at_6 rfl ?_
      refine own_goto X0 hx hby 7 11 at_7 (by decide) (by decide) ?_
      have ttw : tw = (1 : Int32) := by rw [htw, if_neg hc3_459]
      exact own_eq (by rw [ttw]) key3
  refine own_istore X0 hx hby at_11 (l' := #[.val (.int v1), .val (.int v2), .val (.int v3), .val (.int v4), .val (.int tw), .unset, .unset, .unset, .unset, .unset, .unset, .unset, .unset, .unset, .unset, .unset, .unset, .unset, .unset, .unset, .unset, .unset, .unset, .unset, .unset, .unset]) rfl ?_
  refine own_iloadN X0 hx hby at_13 rfl ?_
  refine own_iconst X0 hx hby 2 at_14 rfl ?_
  refine own_iand X0 hx hby at_15 ?_
  obtain ⟨pw, hpw⟩ : ∃ z : Int32, z = (if (v4 &&& (2 : Int32)) = (0 : Int32) then (0 : Int32) else (1 : Int32)) := ⟨_, rfl⟩
  suffices key16 : own_Ends p e below s FrameEnd (Q0 n0) 56 384 (s₁.setTop (mkF m 24 #[.val (.int v1), .val (.int v2), .val (.int v3), .val (.int v4), .val (.int tw), .unset, .unset, .unset, .unset, .unset, .unset, .unset, .unset, .unset, .unset, .unset, .unset, .unset, .unset, .unset, .unset, .unset, .unset, .unset, .unset, .unset] [(.int pw)])) by
    by_cases hc16_460 : (v4 &&& (2 : Int32)) = (0 : Int32)
    · skip
      refine own_ifYes X0 hx hby 16 23 at_16 ((if0 _ _).trans (teq hc16_460).1) (by decide) (by decide) ?_
      refine own_iconst X0 hx hby 0 at_23 rfl ?_
      have tpw : pw = (0 : Int32) := by rw [hpw, if_pos hc16_460]
      exact own_eq (by rw [tpw]) key16
    · skip
      refine own_ifNo X0 hx hby at_16 ((if0 _ _).trans (feq hc16_460).1) ?_
      refine own_iconst X0 hx hby 1 at_19 rfl ?_
      refine own_goto X0 hx hby 20 24 at_20 (by decide) (by decide) ?_
      have tpw : pw = (1 : Int32) := by rw [hpw, if_neg hc16_460]
      exact own_eq (by rw [tpw]) key16
  refine own_istore X0 hx hby at_24 (l' := #[.val (.int v1), .val (.int v2), .val (.int v3), .val (.int v4), .val (.int tw), .val (.int pw), .unset, .unset, .unset, .unset, .unset, .unset, .unset, .unset, .unset, .unset, .unset, .unset, .unset, .unset, .unset, .unset, .unset, .unset, .unset, .unset]) rfl ?_
  refine own_iloadN X0 hx hby at_26 rfl ?_
  refine own_iconst X0 hx hby 4 at_27 rfl ?_
  refine own_iand X0 hx hby at_28 ?_
  obtain ⟨ow, how⟩ : ∃ z : Int32, z = (if (v4 &&& (4 : Int32)) = (0 : Int32) then (0 : Int32) else (1 : Int32)) := ⟨_, rfl⟩
  suffices key29 : own_Ends p e below s FrameEnd (Q0 n0) 56 384 (s₁.setTop (mkF m 37 #[.val (.int v1), .val (.int v2), .val (.int v3), .val (.int v4), .val (.int tw), .val (.int pw), .unset, .unset, .unset, .unset, .unset, .unset, .unset, .unset, .unset, .unset, .unset, .unset, .unset, .unset, .unset, .unset, .unset, .unset, .unset, .unset] [(.int ow)])) by
    by_cases hc29_461 : (v4 &&& (4 : Int32)) = (0 : Int32)
    · skip
      refine own_ifYes X0 hx hby 29 36 at_29 ((if0 _ _).trans (teq hc29_461).1) (by decide) (by decide) ?_
      refine own_iconst X0 hx hby 0 at_36 rfl ?_
      have tow : ow = (0 : Int32) := by rw [how, if_pos hc29_461]
      exact own_eq (by rw [tow]) key29
    · skip
      refine own_ifNo X0 hx hby at_29 ((if0 _ _).trans (feq hc29_461).1) ?_
      refine own_iconst X0 hx hby 1 at_32 rfl ?_
      refine own_goto X0 hx hby 33 37 at_33 (by decide) (by decide) ?_
      have tow : ow = (1 : Int32) := by rw [how, if_neg hc29_461]
      exact own_eq (by rw [tow]) key29
  refine own_istore X0 hx hby at_37 (l' := #[.val (.int v1), .val (.int v2), .val (.int v3), .val (.int v4), .val (.int tw), .val (.int pw), .val (.int ow), .unset, .unset, .unset, .unset, .unset, .unset, .unset, .unset, .unset, .unset, .unset, .unset, .unset, .unset, .unset, .unset, .unset, .unset, .unset]) rfl ?_
  refine own_iloadN X0 hx hby at_39 rfl ?_
  refine own_bipush X0 hx hby 8 at_40 rfl ?_
  refine own_iand X0 hx hby at_42 ?_
  obtain ⟨lw, hlw⟩ : ∃ z : Int32, z = (if (v4 &&& (8 : Int32)) = (0 : Int32) then (0 : Int32) else (1 : Int32)) := ⟨_, rfl⟩
  suffices key43 : own_Ends p e below s FrameEnd (Q0 n0) 56 384 (s₁.setTop (mkF m 51 #[.val (.int v1), .val (.int v2), .val (.int v3), .val (.int v4), .val (.int tw), .val (.int pw), .val (.int ow), .unset, .unset, .unset, .unset, .unset, .unset, .unset, .unset, .unset, .unset, .unset, .unset, .unset, .unset, .unset, .unset, .unset, .unset, .unset] [(.int lw)])) by
    by_cases hc43_462 : (v4 &&& (8 : Int32)) = (0 : Int32)
    · skip
      refine own_ifYes X0 hx hby 43 50 at_43 ((if0 _ _).trans (teq hc43_462).1) (by decide) (by decide) ?_
      refine own_iconst X0 hx hby 0 at_50 rfl ?_
      have tlw : lw = (0 : Int32) := by rw [hlw, if_pos hc43_462]
      exact own_eq (by rw [tlw]) key43
    · skip
      refine own_ifNo X0 hx hby at_43 ((if0 _ _).trans (feq hc43_462).1) ?_
      refine own_iconst X0 hx hby 1 at_46 rfl ?_
      refine own_goto X0 hx hby 47 51 at_47 (by decide) (by decide) ?_
      have tlw : lw = (1 : Int32) := by rw [hlw, if_neg hc43_462]
      exact own_eq (by rw [tlw]) key43
  refine own_istore X0 hx hby at_51 (l' := #[.val (.int v1), .val (.int v2), .val (.int v3), .val (.int v4), .val (.int tw), .val (.int pw), .val (.int ow), .val (.int lw), .unset, .unset, .unset, .unset, .unset, .unset, .unset, .unset, .unset, .unset, .unset, .unset, .unset, .unset, .unset, .unset, .unset, .unset]) rfl ?_
  refine own_iloadN X0 hx hby at_53 rfl ?_
  obtain ⟨_, _, ⟨T463, L463, k463, n463⟩, -, X463, ⟨Lc463, hQ463, l463, y463, z463⟩, st463⟩ := Jvm.LawKit.callS X0 hx (y := mN_69) hown (oV hZ hw 0 rfl) (oV hZ hw 1 rfl) (oV hZ hw 2 rfl) (oV hZ hw 3 rfl) (by decide) (backOf (W := 0) (rmch l Z a0 hw [] v1 h0 n0 Z0 ) hZ (own_w hw 3 rfl) (own_w hw 2 rfl) (by decide) (by decide)) (g := (mkF m 54 #[.val (.int v1), .val (.int v2), .val (.int v3), .val (.int v4), .val (.int tw), .val (.int pw), .val (.int ow), .val (.int lw), .unset, .unset, .unset, .unset, .unset, .unset, .unset, .unset, .unset, .unset, .unset, .unset, .unset, .unset, .unset, .unset, .unset, .unset] [(.int v1)])) rfl (by rw [hml]; rfl) (argsL := [(.int v1)]) (rest := []) (lenOf pd_46 rfl) rfl (by exact oZ rfl) (hb hby at_54) (fun _ _ => ⟨rfl, e0, (by decide : 0 + 0 ≤ _), (by decide : 0 + 0 ≤ _)⟩)
  dsimp only [Pt.U, Pt.locs, Pt.cells, Pt.slots] at X463 l463 y463 z463 st463 hQ463
  rw [l463, y463, z463] at X463
  obtain ⟨rfl, Nq463, e463⟩ := hQ463
  have N463 := Fr.app N0 Nq463
  refine own_of (U' := (T463.setTop (mkF m 57 #[.val (.int v1), .val (.int v2), .val (.int v3), .val (.int v4), .val (.int tw), .val (.int pw), .val (.int ow), .val (.int lw), .unset, .unset, .unset, .unset, .unset, .unset, .unset, .unset, .unset, .unset, .unset, .unset, .unset, .unset, .unset, .unset, .unset, .unset] [(.int (own_cc v1))]))) (st463) ?_
  obtain ⟨t0, ht0⟩ : ∃ z, z = (own_cc v1) := ⟨_, rfl⟩
  refine own_eq (U' := (T463.setTop (mkF m 57 #[.val (.int v1), .val (.int v2), .val (.int v3), .val (.int v4), .val (.int tw), .val (.int pw), .val (.int ow), .val (.int lw), .unset, .unset, .unset, .unset, .unset, .unset, .unset, .unset, .unset, .unset, .unset, .unset, .unset, .unset, .unset, .unset, .unset, .unset] [(.int t0)]))) (by rw [ht0]) ?_
  refine own_istore X463 hx hby at_57 (l' := #[.val (.int v1), .val (.int v2), .val (.int v3), .val (.int v4), .val (.int tw), .val (.int pw), .val (.int ow), .val (.int lw), .val (.int t0), .unset, .unset, .unset, .unset, .unset, .unset, .unset, .unset, .unset, .unset, .unset, .unset, .unset, .unset, .unset, .unset, .unset]) rfl ?_
  have bt0 : 0 ≤ t0.toInt ∧ t0.toInt < 65536 := by rw [ht0]; exact own_char_bd _
  have mt0 : nar .char t0 = t0 := by rw [ht0]; exact own_nar2 _
  refine own_iloadN X463 hx hby at_59 rfl ?_
  refine own_bipush X463 hx hby 8 at_60 rfl ?_
  refine own_iushr X463 hx hby at_62 ?_
  obtain ⟨_, _, ⟨T464, L464, k464, n464⟩, -, X464, ⟨Lc464, hQ464, l464, y464, z464⟩, st464⟩ := Jvm.LawKit.callS X463 hx (y := mN_69) hown (oV hZ hw 0 rfl) (oV hZ hw 1 rfl) (oV hZ hw 2 rfl) (oV hZ hw 3 rfl) (by decide) (backOf (W := 0) (rmch l Z a0 hw [] (XT.ushr v1 (8 : Int32)) h0 n0 Z0 ) hZ (own_w hw 3 rfl) (own_w hw 2 rfl) (by decide) (by decide)) (g := (mkF m 63 #[.val (.int v1), .val (.int v2), .val (.int v3), .val (.int v4), .val (.int tw), .val (.int pw), .val (.int ow), .val (.int lw), .val (.int t0), .unset, .unset, .unset, .unset, .unset, .unset, .unset, .unset, .unset, .unset, .unset, .unset, .unset, .unset, .unset, .unset, .unset] [(.int (XT.ushr v1 (8 : Int32)))])) rfl (by rw [hml]; rfl) (argsL := [(.int (XT.ushr v1 (8 : Int32)))]) (rest := []) (lenOf pd_46 rfl) rfl (by exact oZ rfl) (hb hby at_63) (fun _ _ => ⟨rfl, e463, (by decide : 0 + 0 ≤ _), (by decide : 0 + 0 ≤ _)⟩)
  dsimp only [Pt.U, Pt.locs, Pt.cells, Pt.slots] at X464 l464 y464 z464 st464 hQ464
  rw [l464, y464, z464] at X464
  obtain ⟨rfl, Nq464, e464⟩ := hQ464
  have N464 := Fr.app N463 Nq464
  refine own_of (U' := (T464.setTop (mkF m 66 #[.val (.int v1), .val (.int v2), .val (.int v3), .val (.int v4), .val (.int tw), .val (.int pw), .val (.int ow), .val (.int lw), .val (.int t0), .unset, .unset, .unset, .unset, .unset, .unset, .unset, .unset, .unset, .unset, .unset, .unset, .unset, .unset, .unset, .unset, .unset] [(.int (own_cc (XT.ushr v1 (8 : Int32))))]))) (st464) ?_
  obtain ⟨t1, ht1⟩ : ∃ z, z = (own_cc (XT.ushr v1 (8 : Int32))) := ⟨_, rfl⟩
  refine own_eq (U' := (T464.setTop (mkF m 66 #[.val (.int v1), .val (.int v2), .val (.int v3), .val (.int v4), .val (.int tw), .val (.int pw), .val (.int ow), .val (.int lw), .val (.int t0), .unset, .unset, .unset, .unset, .unset, .unset, .unset, .unset, .unset, .unset, .unset, .unset, .unset, .unset, .unset, .unset, .unset] [(.int t1)]))) (by rw [ht1]) ?_
  refine own_istore X464 hx hby at_66 (l' := #[.val (.int v1), .val (.int v2), .val (.int v3), .val (.int v4), .val (.int tw), .val (.int pw), .val (.int ow), .val (.int lw), .val (.int t0), .val (.int t1), .unset, .unset, .unset, .unset, .unset, .unset, .unset, .unset, .unset, .unset, .unset, .unset, .unset, .unset, .unset, .unset]) rfl ?_
  have bt1 : 0 ≤ t1.toInt ∧ t1.toInt < 65536 := by rw [ht1]; exact own_char_bd _
  have mt1 : nar .char t1 = t1 := by rw [ht1]; exact own_nar2 _
  refine own_iloadN X464 hx hby at_68 rfl ?_
  obtain ⟨_, _, ⟨T465, L465, k465, n465⟩, -, X465, ⟨Lc465, hQ465, l465, y465, z465⟩, st465⟩ := Jvm.LawKit.callS X464 hx (y := mN_69) hown (oV hZ hw 0 rfl) (oV hZ hw 1 rfl) (oV hZ hw 2 rfl) (oV hZ hw 3 rfl) (by decide) (backOf (W := 0) (rmch l Z a0 hw [] v2 h0 n0 Z0 ) hZ (own_w hw 3 rfl) (own_w hw 2 rfl) (by decide) (by decide)) (g := (mkF m 69 #[.val (.int v1), .val (.int v2), .val (.int v3), .val (.int v4), .val (.int tw), .val (.int pw), .val (.int ow), .val (.int lw), .val (.int t0), .val (.int t1), .unset, .unset, .unset, .unset, .unset, .unset, .unset, .unset, .unset, .unset, .unset, .unset, .unset, .unset, .unset, .unset] [(.int v2)])) rfl (by rw [hml]; rfl) (argsL := [(.int v2)]) (rest := []) (lenOf pd_46 rfl) rfl (by exact oZ rfl) (hb hby at_69) (fun _ _ => ⟨rfl, e464, (by decide : 0 + 0 ≤ _), (by decide : 0 + 0 ≤ _)⟩)
  dsimp only [Pt.U, Pt.locs, Pt.cells, Pt.slots] at X465 l465 y465 z465 st465 hQ465
  rw [l465, y465, z465] at X465
  obtain ⟨rfl, Nq465, e465⟩ := hQ465
  have N465 := Fr.app N464 Nq465
  refine own_of (U' := (T465.setTop (mkF m 72 #[.val (.int v1), .val (.int v2), .val (.int v3), .val (.int v4), .val (.int tw), .val (.int pw), .val (.int ow), .val (.int lw), .val (.int t0), .val (.int t1), .unset, .unset, .unset, .unset, .unset, .unset, .unset, .unset, .unset, .unset, .unset, .unset, .unset, .unset, .unset, .unset] [(.int (own_cc v2))]))) (st465) ?_
  obtain ⟨p0, hp0⟩ : ∃ z, z = (own_cc v2) := ⟨_, rfl⟩
  refine own_eq (U' := (T465.setTop (mkF m 72 #[.val (.int v1), .val (.int v2), .val (.int v3), .val (.int v4), .val (.int tw), .val (.int pw), .val (.int ow), .val (.int lw), .val (.int t0), .val (.int t1), .unset, .unset, .unset, .unset, .unset, .unset, .unset, .unset, .unset, .unset, .unset, .unset, .unset, .unset, .unset, .unset] [(.int p0)]))) (by rw [hp0]) ?_
  refine own_istore X465 hx hby at_72 (l' := #[.val (.int v1), .val (.int v2), .val (.int v3), .val (.int v4), .val (.int tw), .val (.int pw), .val (.int ow), .val (.int lw), .val (.int t0), .val (.int t1), .val (.int p0), .unset, .unset, .unset, .unset, .unset, .unset, .unset, .unset, .unset, .unset, .unset, .unset, .unset, .unset, .unset]) rfl ?_
  have bp0 : 0 ≤ p0.toInt ∧ p0.toInt < 65536 := by rw [hp0]; exact own_char_bd _
  have mp0 : nar .char p0 = p0 := by rw [hp0]; exact own_nar2 _
  refine own_iloadN X465 hx hby at_74 rfl ?_
  refine own_bipush X465 hx hby 8 at_75 rfl ?_
  refine own_iushr X465 hx hby at_77 ?_
  obtain ⟨_, _, ⟨T466, L466, k466, n466⟩, -, X466, ⟨Lc466, hQ466, l466, y466, z466⟩, st466⟩ := Jvm.LawKit.callS X465 hx (y := mN_69) hown (oV hZ hw 0 rfl) (oV hZ hw 1 rfl) (oV hZ hw 2 rfl) (oV hZ hw 3 rfl) (by decide) (backOf (W := 0) (rmch l Z a0 hw [] (XT.ushr v2 (8 : Int32)) h0 n0 Z0 ) hZ (own_w hw 3 rfl) (own_w hw 2 rfl) (by decide) (by decide)) (g := (mkF m 78 #[.val (.int v1), .val (.int v2), .val (.int v3), .val (.int v4), .val (.int tw), .val (.int pw), .val (.int ow), .val (.int lw), .val (.int t0), .val (.int t1), .val (.int p0), .unset, .unset, .unset, .unset, .unset, .unset, .unset, .unset, .unset, .unset, .unset, .unset, .unset, .unset, .unset] [(.int (XT.ushr v2 (8 : Int32)))])) rfl (by rw [hml]; rfl) (argsL := [(.int (XT.ushr v2 (8 : Int32)))]) (rest := []) (lenOf pd_46 rfl) rfl (by exact oZ rfl) (hb hby at_78) (fun _ _ => ⟨rfl, e465, (by decide : 0 + 0 ≤ _), (by decide : 0 + 0 ≤ _)⟩)
  dsimp only [Pt.U, Pt.locs, Pt.cells, Pt.slots] at X466 l466 y466 z466 st466 hQ466
  rw [l466, y466, z466] at X466
  obtain ⟨rfl, Nq466, e466⟩ := hQ466
  have N466 := Fr.app N465 Nq466
  refine own_of (U' := (T466.setTop (mkF m 81 #[.val (.int v1), .val (.int v2), .val (.int v3), .val (.int v4), .val (.int tw), .val (.int pw), .val (.int ow), .val (.int lw), .val (.int t0), .val (.int t1), .val (.int p0), .unset, .unset, .unset, .unset, .unset, .unset, .unset, .unset, .unset, .unset, .unset, .unset, .unset, .unset, .unset] [(.int (own_cc (XT.ushr v2 (8 : Int32))))]))) (st466) ?_
  obtain ⟨p1, hp1⟩ : ∃ z, z = (own_cc (XT.ushr v2 (8 : Int32))) := ⟨_, rfl⟩
  refine own_eq (U' := (T466.setTop (mkF m 81 #[.val (.int v1), .val (.int v2), .val (.int v3), .val (.int v4), .val (.int tw), .val (.int pw), .val (.int ow), .val (.int lw), .val (.int t0), .val (.int t1), .val (.int p0), .unset, .unset, .unset, .unset, .unset, .unset, .unset, .unset, .unset, .unset, .unset, .unset, .unset, .unset, .unset] [(.int p1)]))) (by rw [hp1]) ?_
  refine own_istore X466 hx hby at_81 (l' := #[.val (.int v1), .val (.int v2), .val (.int v3), .val (.int v4), .val (.int tw), .val (.int pw), .val (.int ow), .val (.int lw), .val (.int t0), .val (.int t1), .val (.int p0), .val (.int p1), .unset, .unset, .unset, .unset, .unset, .unset, .unset, .unset, .unset, .unset, .unset, .unset, .unset, .unset]) rfl ?_
  have bp1 : 0 ≤ p1.toInt ∧ p1.toInt < 65536 := by rw [hp1]; exact own_char_bd _
  have mp1 : nar .char p1 = p1 := by rw [hp1]; exact own_nar2 _
  refine own_iloadN X466 hx hby at_83 rfl ?_
  obtain ⟨_, _, ⟨T467, L467, k467, n467⟩, -, X467, ⟨Lc467, hQ467, l467, y467, z467⟩, st467⟩ := Jvm.LawKit.callS X466 hx (y := mN_70) hown (oV hZ hw 4 rfl) (oV hZ hw 5 rfl) (oV hZ hw 2 rfl) (oV hZ hw 6 rfl) (by decide) (backOf (W := 0) (rmdg l Z a0 hw [] v3 h0 n0 Z0 ) hZ (own_w hw 6 rfl) (own_w hw 2 rfl) (by decide) (by decide)) (g := (mkF m 84 #[.val (.int v1), .val (.int v2), .val (.int v3), .val (.int v4), .val (.int tw), .val (.int pw), .val (.int ow), .val (.int lw), .val (.int t0), .val (.int t1), .val (.int p0), .val (.int p1), .unset, .unset, .unset, .unset, .unset, .unset, .unset, .unset, .unset, .unset, .unset, .unset, .unset, .unset] [(.int v3)])) rfl (by rw [hml]; rfl) (argsL := [(.int v3)]) (rest := []) (lenOf pd_46 rfl) rfl (by exact oZ rfl) (hb hby at_84) (fun _ _ => ⟨rfl, e466, (by decide : 0 + 0 ≤ _), (by decide : 0 + 0 ≤ _)⟩)
  dsimp only [Pt.U, Pt.locs, Pt.cells, Pt.slots] at X467 l467 y467 z467 st467 hQ467
  rw [l467, y467, z467] at X467
  obtain ⟨rfl, Nq467, e467⟩ := hQ467
  have N467 := Fr.app N466 Nq467
  refine own_of (U' := (T467.setTop (mkF m 87 #[.val (.int v1), .val (.int v2), .val (.int v3), .val (.int v4), .val (.int tw), .val (.int pw), .val (.int ow), .val (.int lw), .val (.int t0), .val (.int t1), .val (.int p0), .val (.int p1), .unset, .unset, .unset, .unset, .unset, .unset, .unset, .unset, .unset, .unset, .unset, .unset, .unset, .unset] [(.int (own_dg v3))]))) (st467) ?_
  obtain ⟨o0, ho0⟩ : ∃ z, z = (own_dg v3) := ⟨_, rfl⟩
  refine own_eq (U' := (T467.setTop (mkF m 87 #[.val (.int v1), .val (.int v2), .val (.int v3), .val (.int v4), .val (.int tw), .val (.int pw), .val (.int ow), .val (.int lw), .val (.int t0), .val (.int t1), .val (.int p0), .val (.int p1), .unset, .unset, .unset, .unset, .unset, .unset, .unset, .unset, .unset, .unset, .unset, .unset, .unset, .unset] [(.int o0)]))) (by rw [ho0]) ?_
  refine own_istore X467 hx hby at_87 (l' := #[.val (.int v1), .val (.int v2), .val (.int v3), .val (.int v4), .val (.int tw), .val (.int pw), .val (.int ow), .val (.int lw), .val (.int t0), .val (.int t1), .val (.int p0), .val (.int p1), .val (.int o0), .unset, .unset, .unset, .unset, .unset, .unset, .unset, .unset, .unset, .unset, .unset, .unset, .unset]) rfl ?_
  have bo0 : 0 ≤ o0.toInt ∧ o0.toInt < 65536 := by rw [ho0]; exact own_char_bd _
  have mo0 : nar .char o0 = o0 := by rw [ho0]; exact own_nar2 _
  refine own_iloadN X467 hx hby at_89 rfl ?_
  refine own_bipush X467 hx hby 8 at_90 rfl ?_
  refine own_iushr X467 hx hby at_92 ?_
  obtain ⟨_, _, ⟨T468, L468, k468, n468⟩, -, X468, ⟨Lc468, hQ468, l468, y468, z468⟩, st468⟩ := Jvm.LawKit.callS X467 hx (y := mN_70) hown (oV hZ hw 4 rfl) (oV hZ hw 5 rfl) (oV hZ hw 2 rfl) (oV hZ hw 6 rfl) (by decide) (backOf (W := 0) (rmdg l Z a0 hw [] (XT.ushr v3 (8 : Int32)) h0 n0 Z0 ) hZ (own_w hw 6 rfl) (own_w hw 2 rfl) (by decide) (by decide)) (g := (mkF m 93 #[.val (.int v1), .val (.int v2), .val (.int v3), .val (.int v4), .val (.int tw), .val (.int pw), .val (.int ow), .val (.int lw), .val (.int t0), .val (.int t1), .val (.int p0), .val (.int p1), .val (.int o0), .unset, .unset, .unset, .unset, .unset, .unset, .unset, .unset, .unset, .unset, .unset, .unset, .unset] [(.int (XT.ushr v3 (8 : Int32)))])) rfl (by rw [hml]; rfl) (argsL := [(.int (XT.ushr v3 (8 : Int32)))]) (rest := []) (lenOf pd_46 rfl) rfl (by exact oZ rfl) (hb hby at_93) (fun _ _ => ⟨rfl, e467, (by decide : 0 + 0 ≤ _), (by decide : 0 + 0 ≤ _)⟩)
  dsimp only [Pt.U, Pt.locs, Pt.cells, Pt.slots] at X468 l468 y468 z468 st468 hQ468
  rw [l468, y468, z468] at X468
  obtain ⟨rfl, Nq468, e468⟩ := hQ468
  have N468 := Fr.app N467 Nq468
  refine own_of (U' := (T468.setTop (mkF m 96 #[.val (.int v1), .val (.int v2), .val (.int v3), .val (.int v4), .val (.int tw), .val (.int pw), .val (.int ow), .val (.int lw), .val (.int t0), .val (.int t1), .val (.int p0), .val (.int p1), .val (.int o0), .unset, .unset, .unset, .unset, .unset, .unset, .unset, .unset, .unset, .unset, .unset, .unset, .unset] [(.int (own_dg (XT.ushr v3 (8 : Int32))))]))) (st468) ?_
  obtain ⟨o1, ho1⟩ : ∃ z, z = (own_dg (XT.ushr v3 (8 : Int32))) := ⟨_, rfl⟩
  refine own_eq (U' := (T468.setTop (mkF m 96 #[.val (.int v1), .val (.int v2), .val (.int v3), .val (.int v4), .val (.int tw), .val (.int pw), .val (.int ow), .val (.int lw), .val (.int t0), .val (.int t1), .val (.int p0), .val (.int p1), .val (.int o0), .unset, .unset, .unset, .unset, .unset, .unset, .unset, .unset, .unset, .unset, .unset, .unset, .unset] [(.int o1)]))) (by rw [ho1]) ?_
  refine own_istore X468 hx hby at_96 (l' := #[.val (.int v1), .val (.int v2), .val (.int v3), .val (.int v4), .val (.int tw), .val (.int pw), .val (.int ow), .val (.int lw), .val (.int t0), .val (.int t1), .val (.int p0), .val (.int p1), .val (.int o0), .val (.int o1), .unset, .unset, .unset, .unset, .unset, .unset, .unset, .unset, .unset, .unset, .unset, .unset]) rfl ?_
  have bo1 : 0 ≤ o1.toInt ∧ o1.toInt < 65536 := by rw [ho1]; exact own_char_bd _
  have mo1 : nar .char o1 = o1 := by rw [ho1]; exact own_nar2 _
  refine own_iloadN X468 hx hby at_98 rfl ?_
  refine own_bipush X468 hx hby 16 at_99 rfl ?_
  refine own_iushr X468 hx hby at_101 ?_
  obtain ⟨_, _, ⟨T469, L469, k469, n469⟩, -, X469, ⟨Lc469, hQ469, l469, y469, z469⟩, st469⟩ := Jvm.LawKit.callS X468 hx (y := mN_70) hown (oV hZ hw 4 rfl) (oV hZ hw 5 rfl) (oV hZ hw 2 rfl) (oV hZ hw 6 rfl) (by decide) (backOf (W := 0) (rmdg l Z a0 hw [] (XT.ushr v3 (16 : Int32)) h0 n0 Z0 ) hZ (own_w hw 6 rfl) (own_w hw 2 rfl) (by decide) (by decide)) (g := (mkF m 102 #[.val (.int v1), .val (.int v2), .val (.int v3), .val (.int v4), .val (.int tw), .val (.int pw), .val (.int ow), .val (.int lw), .val (.int t0), .val (.int t1), .val (.int p0), .val (.int p1), .val (.int o0), .val (.int o1), .unset, .unset, .unset, .unset, .unset, .unset, .unset, .unset, .unset, .unset, .unset, .unset] [(.int (XT.ushr v3 (16 : Int32)))])) rfl (by rw [hml]; rfl) (argsL := [(.int (XT.ushr v3 (16 : Int32)))]) (rest := []) (lenOf pd_46 rfl) rfl (by exact oZ rfl) (hb hby at_102) (fun _ _ => ⟨rfl, e468, (by decide : 0 + 0 ≤ _), (by decide : 0 + 0 ≤ _)⟩)
  dsimp only [Pt.U, Pt.locs, Pt.cells, Pt.slots] at X469 l469 y469 z469 st469 hQ469
  rw [l469, y469, z469] at X469
  obtain ⟨rfl, Nq469, e469⟩ := hQ469
  have N469 := Fr.app N468 Nq469
  refine own_of (U' := (T469.setTop (mkF m 105 #[.val (.int v1), .val (.int v2), .val (.int v3), .val (.int v4), .val (.int tw), .val (.int pw), .val (.int ow), .val (.int lw), .val (.int t0), .val (.int t1), .val (.int p0), .val (.int p1), .val (.int o0), .val (.int o1), .unset, .unset, .unset, .unset, .unset, .unset, .unset, .unset, .unset, .unset, .unset, .unset] [(.int (own_dg (XT.ushr v3 (16 : Int32))))]))) (st469) ?_
  obtain ⟨l0, hl0⟩ : ∃ z, z = (own_dg (XT.ushr v3 (16 : Int32))) := ⟨_, rfl⟩
  refine own_eq (U' := (T469.setTop (mkF m 105 #[.val (.int v1), .val (.int v2), .val (.int v3), .val (.int v4), .val (.int tw), .val (.int pw), .val (.int ow), .val (.int lw), .val (.int t0), .val (.int t1), .val (.int p0), .val (.int p1), .val (.int o0), .val (.int o1), .unset, .unset, .unset, .unset, .unset, .unset, .unset, .unset, .unset, .unset, .unset, .unset] [(.int l0)]))) (by rw [hl0]) ?_
  refine own_istore X469 hx hby at_105 (l' := #[.val (.int v1), .val (.int v2), .val (.int v3), .val (.int v4), .val (.int tw), .val (.int pw), .val (.int ow), .val (.int lw), .val (.int t0), .val (.int t1), .val (.int p0), .val (.int p1), .val (.int o0), .val (.int o1), .val (.int l0), .unset, .unset, .unset, .unset, .unset, .unset, .unset, .unset, .unset, .unset, .unset]) rfl ?_
  have bl0 : 0 ≤ l0.toInt ∧ l0.toInt < 65536 := by rw [hl0]; exact own_char_bd _
  have ml0 : nar .char l0 = l0 := by rw [hl0]; exact own_nar2 _
  refine own_iloadN X469 hx hby at_107 rfl ?_
  refine own_bipush X469 hx hby 24 at_108 rfl ?_
  refine own_iushr X469 hx hby at_110 ?_
  obtain ⟨_, _, ⟨T470, L470, k470, n470⟩, -, X470, ⟨Lc470, hQ470, l470, y470, z470⟩, st470⟩ := Jvm.LawKit.callS X469 hx (y := mN_70) hown (oV hZ hw 4 rfl) (oV hZ hw 5 rfl) (oV hZ hw 2 rfl) (oV hZ hw 6 rfl) (by decide) (backOf (W := 0) (rmdg l Z a0 hw [] (XT.ushr v3 (24 : Int32)) h0 n0 Z0 ) hZ (own_w hw 6 rfl) (own_w hw 2 rfl) (by decide) (by decide)) (g := (mkF m 111 #[.val (.int v1), .val (.int v2), .val (.int v3), .val (.int v4), .val (.int tw), .val (.int pw), .val (.int ow), .val (.int lw), .val (.int t0), .val (.int t1), .val (.int p0), .val (.int p1), .val (.int o0), .val (.int o1), .val (.int l0), .unset, .unset, .unset, .unset, .unset, .unset, .unset, .unset, .unset, .unset, .unset] [(.int (XT.ushr v3 (24 : Int32)))])) rfl (by rw [hml]; rfl) (argsL := [(.int (XT.ushr v3 (24 : Int32)))]) (rest := []) (lenOf pd_46 rfl) rfl (by exact oZ rfl) (hb hby at_111) (fun _ _ => ⟨rfl, e469, (by decide : 0 + 0 ≤ _), (by decide : 0 + 0 ≤ _)⟩)
  dsimp only [Pt.U, Pt.locs, Pt.cells, Pt.slots] at X470 l470 y470 z470 st470 hQ470
  rw [l470, y470, z470] at X470
  obtain ⟨rfl, Nq470, e470⟩ := hQ470
  have N470 := Fr.app N469 Nq470
  refine own_of (U' := (T470.setTop (mkF m 114 #[.val (.int v1), .val (.int v2), .val (.int v3), .val (.int v4), .val (.int tw), .val (.int pw), .val (.int ow), .val (.int lw), .val (.int t0), .val (.int t1), .val (.int p0), .val (.int p1), .val (.int o0), .val (.int o1), .val (.int l0), .unset, .unset, .unset, .unset, .unset, .unset, .unset, .unset, .unset, .unset, .unset] [(.int (own_dg (XT.ushr v3 (24 : Int32))))]))) (st470) ?_
  obtain ⟨l1, hl1⟩ : ∃ z, z = (own_dg (XT.ushr v3 (24 : Int32))) := ⟨_, rfl⟩
  refine own_eq (U' := (T470.setTop (mkF m 114 #[.val (.int v1), .val (.int v2), .val (.int v3), .val (.int v4), .val (.int tw), .val (.int pw), .val (.int ow), .val (.int lw), .val (.int t0), .val (.int t1), .val (.int p0), .val (.int p1), .val (.int o0), .val (.int o1), .val (.int l0), .unset, .unset, .unset, .unset, .unset, .unset, .unset, .unset, .unset, .unset, .unset] [(.int l1)]))) (by rw [hl1]) ?_
  refine own_istore X470 hx hby at_114 (l' := #[.val (.int v1), .val (.int v2), .val (.int v3), .val (.int v4), .val (.int tw), .val (.int pw), .val (.int ow), .val (.int lw), .val (.int t0), .val (.int t1), .val (.int p0), .val (.int p1), .val (.int o0), .val (.int o1), .val (.int l0), .val (.int l1), .unset, .unset, .unset, .unset, .unset, .unset, .unset, .unset, .unset, .unset]) rfl ?_
  have bl1 : 0 ≤ l1.toInt ∧ l1.toInt < 65536 := by rw [hl1]; exact own_char_bd _
  have ml1 : nar .char l1 = l1 := by rw [hl1]; exact own_nar2 _
  refine own_iload X470 hx hby at_116 rfl ?_
  refine own_iload X470 hx hby at_118 rfl ?_
  refine own_iload X470 hx hby at_120 rfl ?_
  obtain ⟨_, _, ⟨T471, L471, k471, n471⟩, -, X471, ⟨Lc471, hQ471, l471, y471, z471⟩, st471⟩ := Jvm.LawKit.callS X470 hx (y := mN_71) hown (oV hZ hw 7 rfl) (oV hZ hw 8 rfl) (oV hZ hw 2 rfl) (oV hZ hw 9 rfl) (by decide) (backOf (W := 0) (rmpt l Z a0 hw [] tw t0 t1 g1 h0 n0 Z0 (own_01 htw) bt0 bt1 mt0 mt1 SC hg1 SA SHI SLO) hZ (own_w hw 9 rfl) (own_w hw 2 rfl) (by decide) (by decide)) (g := (mkF m 122 #[.val (.int v1), .val (.int v2), .val (.int v3), .val (.int v4), .val (.int tw), .val (.int pw), .val (.int ow), .val (.int lw), .val (.int t0), .val (.int t1), .val (.int p0), .val (.int p1), .val (.int o0), .val (.int o1), .val (.int l0), .val (.int l1), .unset, .unset, .unset, .unset, .unset, .unset, .unset, .unset, .unset, .unset] [(.int t1), (.int t0), (.int tw)])) rfl (by rw [hml]; rfl) (argsL := [(.int tw), (.int t0), (.int t1)]) (rest := []) (lenOf pd_47 rfl) rfl (by exact oZ rfl) (hb hby at_122) (fun _ _ => ⟨rfl, e470, (by decide : 0 + 4 ≤ _), (by decide : 0 + 21 ≤ _)⟩)
  dsimp only [Pt.U, Pt.locs, Pt.cells, Pt.slots] at X471 l471 y471 z471 st471 hQ471
  rw [l471, y471, z471] at X471
  obtain ⟨a471, rfl, Nq471, Kp471, ga471, Oq471⟩ := hQ471
  have g_a471 : n0 ≤ a471 := nT Z0 ga471
  have N471 := Fr.app N470 Nq471
  replace Z0 := nT Z0 Kp471.1
  replace SC := own_staKeep SC Kp471 ns0
  replace SA := own_staKeep SA Kp471 ns0
  replace SHI := own_staKeep SHI Kp471 ns0
  replace SLO := own_staKeep SLO Kp471 ns0
  replace SF := own_staKeep SF Kp471 ns0
  have Es471 := own_S2exa Oq471
  refine own_of (U' := (T471.setTop (mkF m 125 #[.val (.int v1), .val (.int v2), .val (.int v3), .val (.int v4), .val (.int tw), .val (.int pw), .val (.int ow), .val (.int lw), .val (.int t0), .val (.int t1), .val (.int p0), .val (.int p1), .val (.int o0), .val (.int o1), .val (.int l0), .val (.int l1), .unset, .unset, .unset, .unset, .unset, .unset, .unset, .unset, .unset, .unset] [(.ref a471)]))) (st471) ?_
  refine own_astore X471 hx hby at_125 rfl (l' := #[.val (.int v1), .val (.int v2), .val (.int v3), .val (.int v4), .val (.int tw), .val (.int pw), .val (.int ow), .val (.int lw), .val (.int t0), .val (.int t1), .val (.int p0), .val (.int p1), .val (.int o0), .val (.int o1), .val (.int l0), .val (.int l1), .val (.ref a471), .unset, .unset, .unset, .unset, .unset, .unset, .unset, .unset, .unset]) rfl ?_
  refine own_iload X471 hx hby at_127 rfl ?_
  refine own_iload X471 hx hby at_129 rfl ?_
  refine own_iload X471 hx hby at_131 rfl ?_
  obtain ⟨_, _, ⟨T472, L472, k472, n472⟩, -, X472, ⟨Lc472, hQ472, l472, y472, z472⟩, st472⟩ := Jvm.LawKit.callS X471 hx (y := mN_71) hown (oV hZ hw 7 rfl) (oV hZ hw 8 rfl) (oV hZ hw 2 rfl) (oV hZ hw 9 rfl) (by decide) (backOf (W := 0) (rmpt l Z a0 hw [] pw p0 p1 g1 T471.heap n0 Z0 (own_01 hpw) bp0 bp1 mp0 mp1 SC hg1 SA SHI SLO) hZ (own_w hw 9 rfl) (own_w hw 2 rfl) (by decide) (by decide)) (g := (mkF m 133 #[.val (.int v1), .val (.int v2), .val (.int v3), .val (.int v4), .val (.int tw), .val (.int pw), .val (.int ow), .val (.int lw), .val (.int t0), .val (.int t1), .val (.int p0), .val (.int p1), .val (.int o0), .val (.int o1), .val (.int l0), .val (.int l1), .val (.ref a471), .unset, .unset, .unset, .unset, .unset, .unset, .unset, .unset, .unset] [(.int p1), (.int p0), (.int pw)])) rfl (by rw [hml]; rfl) (argsL := [(.int pw), (.int p0), (.int p1)]) (rest := []) (lenOf pd_47 rfl) rfl (by exact oZ rfl) (hb hby at_133) (fun _ _ => ⟨rfl, rfl, (by decide : 4 + 4 ≤ _), (by decide : 21 + 21 ≤ _)⟩)
  dsimp only [Pt.U, Pt.locs, Pt.cells, Pt.slots] at X472 l472 y472 z472 st472 hQ472
  rw [l472, y472, z472] at X472
  obtain ⟨a472, rfl, Nq472, Kp472, ga472, Oq472⟩ := hQ472
  have g_a472 : n0 ≤ a472 := nT Z0 ga472
  have ne_a471_a472 : a471 ≠ a472 := nL Es471.lt ga472
  have N472 := Fr.app N471 Nq472
  replace Oq471 := own_S2keep Oq471 Kp472 all0
  replace Z0 := nT Z0 Kp472.1
  replace SC := own_staKeep SC Kp472 ns0
  replace SA := own_staKeep SA Kp472 ns0
  replace SHI := own_staKeep SHI Kp472 ns0
  replace SLO := own_staKeep SLO Kp472 ns0
  replace SF := own_staKeep SF Kp472 ns0
  replace Es471 := Es471.keep Kp472
  have Es472 := own_S2exa Oq472
  replace Oq471 := own_S2mono Oq471 (nT (Nat.le_refl _) Kp472.1)
  refine own_of (U' := (T472.setTop (mkF m 136 #[.val (.int v1), .val (.int v2), .val (.int v3), .val (.int v4), .val (.int tw), .val (.int pw), .val (.int ow), .val (.int lw), .val (.int t0), .val (.int t1), .val (.int p0), .val (.int p1), .val (.int o0), .val (.int o1), .val (.int l0), .val (.int l1), .val (.ref a471), .unset, .unset, .unset, .unset, .unset, .unset, .unset, .unset, .unset] [(.ref a472)]))) (st472) ?_
  refine own_astore X472 hx hby at_136 rfl (l' := #[.val (.int v1), .val (.int v2), .val (.int v3), .val (.int v4), .val (.int tw), .val (.int pw), .val (.int ow), .val (.int lw), .val (.int t0), .val (.int t1), .val (.int p0), .val (.int p1), .val (.int o0), .val (.int o1), .val (.int l0), .val (.int l1), .val (.ref a471), .val (.ref a472), .unset, .unset, .unset, .unset, .unset, .unset, .unset, .unset]) rfl ?_
  refine own_iload X472 hx hby at_138 rfl ?_
  refine own_iload X472 hx hby at_140 rfl ?_
  refine own_iload X472 hx hby at_142 rfl ?_
  obtain ⟨_, _, ⟨T473, L473, k473, n473⟩, -, X473, ⟨Lc473, hQ473, l473, y473, z473⟩, st473⟩ := Jvm.LawKit.callS X472 hx (y := mN_71) hown (oV hZ hw 7 rfl) (oV hZ hw 8 rfl) (oV hZ hw 2 rfl) (oV hZ hw 9 rfl) (by decide) (backOf (W := 0) (rmpt l Z a0 hw [] ow o0 o1 g1 T472.heap n0 Z0 (own_01 how) bo0 bo1 mo0 mo1 SC hg1 SA SHI SLO) hZ (own_w hw 9 rfl) (own_w hw 2 rfl) (by decide) (by decide)) (g := (mkF m 144 #[.val (.int v1), .val (.int v2), .val (.int v3), .val (.int v4), .val (.int tw), .val (.int pw), .val (.int ow), .val (.int lw), .val (.int t0), .val (.int t1), .val (.int p0), .val (.int p1), .val (.int o0), .val (.int o1), .val (.int l0), .val (.int l1), .val (.ref a471), .val (.ref a472), .unset, .unset, .unset, .unset, .unset, .unset, .unset, .unset] [(.int o1), (.int o0), (.int ow)])) rfl (by rw [hml]; rfl) (argsL := [(.int ow), (.int o0), (.int o1)]) (rest := []) (lenOf pd_47 rfl) rfl (by exact oZ rfl) (hb hby at_144) (fun _ _ => ⟨rfl, rfl, (by decide : 8 + 4 ≤ _), (by decide : 42 + 21 ≤ _)⟩)
  dsimp only [Pt.U, Pt.locs, Pt.cells, Pt.slots] at X473 l473 y473 z473 st473 hQ473
  rw [l473, y473, z473] at X473
  obtain ⟨a473, rfl, Nq473, Kp473, ga473, Oq473⟩ := hQ473
  have g_a473 : n0 ≤ a473 := nT Z0 ga473
  have ne_a471_a473 : a471 ≠ a473 := nL Es471.lt ga473
  have ne_a472_a473 : a472 ≠ a473 := nL Es472.lt ga473
  have N473 := Fr.app N472 Nq473
  replace Oq471 := own_S2keep Oq471 Kp473 all0
  replace Oq472 := own_S2keep Oq472 Kp473 all0
  replace Z0 := nT Z0 Kp473.1
  replace SC := own_staKeep SC Kp473 ns0
  replace SA := own_staKeep SA Kp473 ns0
  replace SHI := own_staKeep SHI Kp473 ns0
  replace SLO := own_staKeep SLO Kp473 ns0
  replace SF := own_staKeep SF Kp473 ns0
  replace Es471 := Es471.keep Kp473
  replace Es472 := Es472.keep Kp473
  have Es473 := own_S2exa Oq473
  replace Oq471 := own_S2mono Oq471 (nT (Nat.le_refl _) Kp473.1)
  replace Oq472 := own_S2mono Oq472 (nT (Nat.le_refl _) Kp473.1)
  refine own_of (U' := (T473.setTop (mkF m 147 #[.val (.int v1), .val (.int v2), .val (.int v3), .val (.int v4), .val (.int tw), .val (.int pw), .val (.int ow), .val (.int lw), .val (.int t0), .val (.int t1), .val (.int p0), .val (.int p1), .val (.int o0), .val (.int o1), .val (.int l0), .val (.int l1), .val (.ref a471), .val (.ref a472), .unset, .unset, .unset, .unset, .unset, .unset, .unset, .unset] [(.ref a473)]))) (st473) ?_
  refine own_astore X473 hx hby at_147 rfl (l' := #[.val (.int v1), .val (.int v2), .val (.int v3), .val (.int v4), .val (.int tw), .val (.int pw), .val (.int ow), .val (.int lw), .val (.int t0), .val (.int t1), .val (.int p0), .val (.int p1), .val (.int o0), .val (.int o1), .val (.int l0), .val (.int l1), .val (.ref a471), .val (.ref a472), .val (.ref a473), .unset, .unset, .unset, .unset, .unset, .unset, .unset]) rfl ?_
  refine own_iload X473 hx hby at_149 rfl ?_
  refine own_iload X473 hx hby at_151 rfl ?_
  refine own_iload X473 hx hby at_153 rfl ?_
  obtain ⟨_, _, ⟨T474, L474, k474, n474⟩, -, X474, ⟨Lc474, hQ474, l474, y474, z474⟩, st474⟩ := Jvm.LawKit.callS X473 hx (y := mN_71) hown (oV hZ hw 7 rfl) (oV hZ hw 8 rfl) (oV hZ hw 2 rfl) (oV hZ hw 9 rfl) (by decide) (backOf (W := 0) (rmpt l Z a0 hw [] lw l0 l1 g1 T473.heap n0 Z0 (own_01 hlw) bl0 bl1 ml0 ml1 SC hg1 SA SHI SLO) hZ (own_w hw 9 rfl) (own_w hw 2 rfl) (by decide) (by decide)) (g := (mkF m 155 #[.val (.int v1), .val (.int v2), .val (.int v3), .val (.int v4), .val (.int tw), .val (.int pw), .val (.int ow), .val (.int lw), .val (.int t0), .val (.int t1), .val (.int p0), .val (.int p1), .val (.int o0), .val (.int o1), .val (.int l0), .val (.int l1), .val (.ref a471), .val (.ref a472), .val (.ref a473), .unset, .unset, .unset, .unset, .unset, .unset, .unset] [(.int l1), (.int l0), (.int lw)])) rfl (by rw [hml]; rfl) (argsL := [(.int lw), (.int l0), (.int l1)]) (rest := []) (lenOf pd_47 rfl) rfl (by exact oZ rfl) (hb hby at_155) (fun _ _ => ⟨rfl, rfl, (by decide : 12 + 4 ≤ _), (by decide : 63 + 21 ≤ _)⟩)
  dsimp only [Pt.U, Pt.locs, Pt.cells, Pt.slots] at X474 l474 y474 z474 st474 hQ474
  rw [l474, y474, z474] at X474
  obtain ⟨a474, rfl, Nq474, Kp474, ga474, Oq474⟩ := hQ474
  have g_a474 : n0 ≤ a474 := nT Z0 ga474
  have ne_a471_a474 : a471 ≠ a474 := nL Es471.lt ga474
  have ne_a472_a474 : a472 ≠ a474 := nL Es472.lt ga474
  have ne_a473_a474 : a473 ≠ a474 := nL Es473.lt ga474
  have N474 := Fr.app N473 Nq474
  replace Oq471 := own_S2keep Oq471 Kp474 all0
  replace Oq472 := own_S2keep Oq472 Kp474 all0
  replace Oq473 := own_S2keep Oq473 Kp474 all0
  replace Z0 := nT Z0 Kp474.1
  replace SC := own_staKeep SC Kp474 ns0
  replace SA := own_staKeep SA Kp474 ns0
  replace SHI := own_staKeep SHI Kp474 ns0
  replace SLO := own_staKeep SLO Kp474 ns0
  replace SF := own_staKeep SF Kp474 ns0
  replace Es471 := Es471.keep Kp474
  replace Es472 := Es472.keep Kp474
  replace Es473 := Es473.keep Kp474
  have Es474 := own_S2exa Oq474
  replace Oq471 := own_S2mono Oq471 (nT (Nat.le_refl _) Kp474.1)
  replace Oq472 := own_S2mono Oq472 (nT (Nat.le_refl _) Kp474.1)
  replace Oq473 := own_S2mono Oq473 (nT (Nat.le_refl _) Kp474.1)
  refine own_of (U' := (T474.setTop (mkF m 158 #[.val (.int v1), .val (.int v2), .val (.int v3), .val (.int v4), .val (.int tw), .val (.int pw), .val (.int ow), .val (.int lw), .val (.int t0), .val (.int t1), .val (.int p0), .val (.int p1), .val (.int o0), .val (.int o1), .val (.int l0), .val (.int l1), .val (.ref a471), .val (.ref a472), .val (.ref a473), .unset, .unset, .unset, .unset, .unset, .unset, .unset] [(.ref a474)]))) (st474) ?_
  refine own_astore X474 hx hby at_158 rfl (l' := #[.val (.int v1), .val (.int v2), .val (.int v3), .val (.int v4), .val (.int tw), .val (.int pw), .val (.int ow), .val (.int lw), .val (.int t0), .val (.int t1), .val (.int p0), .val (.int p1), .val (.int o0), .val (.int o1), .val (.int l0), .val (.int l1), .val (.ref a471), .val (.ref a472), .val (.ref a473), .val (.ref a474), .unset, .unset, .unset, .unset, .unset, .unset]) rfl ?_
  refine own_iload X474 hx hby at_160 rfl ?_
  obtain ⟨tl, htl⟩ : ∃ z : Int32, z = (if tw = (0 : Int32) then (1 : Int32) else (2 : Int32)) := ⟨_, rfl⟩
  suffices key162 : own_Ends p e below s FrameEnd (Q0 n0) 56 384 (T474.setTop (mkF m 170 #[.val (.int v1), .val (.int v2), .val (.int v3), .val (.int v4), .val (.int tw), .val (.int pw), .val (.int ow), .val (.int lw), .val (.int t0), .val (.int t1), .val (.int p0), .val (.int p1), .val (.int o0), .val (.int o1), .val (.int l0), .val (.int l1), .val (.ref a471), .val (.ref a472), .val (.ref a473), .val (.ref a474), .unset, .unset, .unset, .unset, .unset, .unset] [(.int tl)])) by
    by_cases hc162_475 : tw = (0 : Int32)
    · skip
      refine own_ifYes X474 hx hby 162 169 at_162 ((if0 _ _).trans (teq hc162_475).1) (by decide) (by decide) ?_
      refine own_iconst X474 hx hby 1 at_169 rfl ?_
      have ttl : tl = (1 : Int32) := by rw [htl, if_pos hc162_475]
      exact own_eq (by rw [ttl]) key162
    · skip
      refine own_ifNo X474 hx hby at_162 ((if0 _ _).trans (feq hc162_475).1) ?_
      refine own_iconst X474 hx hby 2 at_165 rfl ?_
      refine own_goto X474 hx hby 166 170 at_166 (by decide) (by decide) ?_
      have ttl : tl = (2 : Int32) := by rw [htl, if_neg hc162_475]
      exact own_eq (by rw [ttl]) key162
  refine own_istore X474 hx hby at_170 (l' := #[.val (.int v1), .val (.int v2), .val (.int v3), .val (.int v4), .val (.int tw), .val (.int pw), .val (.int ow), .val (.int lw), .val (.int t0), .val (.int t1), .val (.int p0), .val (.int p1), .val (.int o0), .val (.int o1), .val (.int l0), .val (.int l1), .val (.ref a471), .val (.ref a472), .val (.ref a473), .val (.ref a474), .val (.int tl), .unset, .unset, .unset, .unset, .unset]) rfl ?_
  refine own_iload X474 hx hby at_172 rfl ?_
  obtain ⟨pl, hpl⟩ : ∃ z : Int32, z = (if pw = (0 : Int32) then (1 : Int32) else (2 : Int32)) := ⟨_, rfl⟩
  suffices key174 : own_Ends p e below s FrameEnd (Q0 n0) 56 384 (T474.setTop (mkF m 182 #[.val (.int v1), .val (.int v2), .val (.int v3), .val (.int v4), .val (.int tw), .val (.int pw), .val (.int ow), .val (.int lw), .val (.int t0), .val (.int t1), .val (.int p0), .val (.int p1), .val (.int o0), .val (.int o1), .val (.int l0), .val (.int l1), .val (.ref a471), .val (.ref a472), .val (.ref a473), .val (.ref a474), .val (.int tl), .unset, .unset, .unset, .unset, .unset] [(.int pl)])) by
    by_cases hc174_476 : pw = (0 : Int32)
    · skip
      refine own_ifYes X474 hx hby 174 181 at_174 ((if0 _ _).trans (teq hc174_476).1) (by decide) (by decide) ?_
      refine own_iconst X474 hx hby 1 at_181 rfl ?_
      have tpl : pl = (1 : Int32) := by rw [hpl, if_pos hc174_476]
      exact own_eq (by rw [tpl]) key174
    · skip
      refine own_ifNo X474 hx hby at_174 ((if0 _ _).trans (feq hc174_476).1) ?_
      refine own_iconst X474 hx hby 2 at_177 rfl ?_
      refine own_goto X474 hx hby 178 182 at_178 (by decide) (by decide) ?_
      have tpl : pl = (2 : Int32) := by rw [hpl, if_neg hc174_476]
      exact own_eq (by rw [tpl]) key174
  refine own_istore X474 hx hby at_182 (l' := #[.val (.int v1), .val (.int v2), .val (.int v3), .val (.int v4), .val (.int tw), .val (.int pw), .val (.int ow), .val (.int lw), .val (.int t0), .val (.int t1), .val (.int p0), .val (.int p1), .val (.int o0), .val (.int o1), .val (.int l0), .val (.int l1), .val (.ref a471), .val (.ref a472), .val (.ref a473), .val (.ref a474), .val (.int tl), .val (.int pl), .unset, .unset, .unset, .unset]) rfl ?_
  have hT := own_ptl (c0 := t0) (c1 := t1) (own_01 htw) htl
  have hP := own_ptl (c0 := p0) (c1 := p1) (own_01 hpw) hpl
  have hnY : T474.heap.size ≤ T474.heap.size := Nat.le_refl _
  refine own_iload X474 hx hby at_184 rfl ?_
  refine own_iconst X474 hx hby 1 at_186 rfl ?_
  refine own_iadd X474 hx hby at_187 ?_
  refine own_iload X474 hx hby at_188 rfl ?_
  refine own_iadd X474 hx hby at_190 ?_
  obtain ⟨ne, hne⟩ : ∃ z, z = ((tl + (1 : Int32)) + pl) := ⟨_, rfl⟩
  refine own_eq (U' := (T474.setTop (mkF m 191 #[.val (.int v1), .val (.int v2), .val (.int v3), .val (.int v4), .val (.int tw), .val (.int pw), .val (.int ow), .val (.int lw), .val (.int t0), .val (.int t1), .val (.int p0), .val (.int p1), .val (.int o0), .val (.int o1), .val (.int l0), .val (.int l1), .val (.ref a471), .val (.ref a472), .val (.ref a473), .val (.ref a474), .val (.int tl), .val (.int pl), .unset, .unset, .unset, .unset] [(.int ne)]))) (by rw [hne]) ?_
  have hne' : ne.toInt = (own_pt tw t0 t1).length + 1 + ((own_pt pw p0 p1).length : Int) := by rw [hne, own_addI (by rw [own_addI (by rw [own_i1]; omega) (by rw [own_i1]; omega), own_i1]; omega) (by rw [own_addI (by rw [own_i1]; omega) (by rw [own_i1]; omega), own_i1]; omega), own_addI (by rw [own_i1]; omega) (by rw [own_i1]; omega), own_i1]; omega
  obtain ⟨T477, h477, k477, X477, e477, E477, A477, st477⟩ := newP X474 hx hZ (own_w hw 13 rfl) rfl (g := (mkF m 191 #[.val (.int v1), .val (.int v2), .val (.int v3), .val (.int v4), .val (.int tw), .val (.int pw), .val (.int ow), .val (.int lw), .val (.int t0), .val (.int t1), .val (.int p0), .val (.int p1), .val (.int o0), .val (.int o1), .val (.int l0), .val (.int l1), .val (.ref a471), .val (.ref a472), .val (.ref a473), .val (.ref a474), .val (.int tl), .val (.int pl), .unset, .unset, .unset, .unset] [(.int ne)])) rfl (hb hby at_191) rfl (own_ge0 (by omega)) (cap := 5) (own_Nle (by rw [hne']; omega)) (by decide) (by decide) (by decide)
  obtain ⟨b477, gz477⟩ : ∃ z, z = T474.heap.size := ⟨_, rfl⟩
  rw [← gz477] at A477 st477
  have g_b477 : n0 ≤ b477 := nT Z0 (nE gz477.symm)
  have ne_a471_b477 : a471 ≠ b477 := Nat.ne_of_lt (Nat.lt_of_lt_of_le Es471.lt (nE gz477.symm))
  have ne_a472_b477 : a472 ≠ b477 := Nat.ne_of_lt (Nat.lt_of_lt_of_le Es472.lt (nE gz477.symm))
  have ne_a473_b477 : a473 ≠ b477 := Nat.ne_of_lt (Nat.lt_of_lt_of_le Es473.lt (nE gz477.symm))
  have ne_a474_b477 : a474 ≠ b477 := Nat.ne_of_lt (Nat.lt_of_lt_of_le Es474.lt (nE gz477.symm))
  replace Oq471 := own_S2ext Oq471 E477
  replace Oq472 := own_S2ext Oq472 E477
  replace Oq473 := own_S2ext Oq473 E477
  replace Oq474 := own_S2ext Oq474 E477
  replace Z0 := nT Z0 E477.1
  replace SC := SC.ext E477
  replace SA := SA.ext E477
  replace SHI := SHI.ext E477
  replace SLO := SLO.ext E477
  replace SF := SF.ext E477
  replace Es471 := Es471.ext E477
  replace Es472 := Es472.ext E477
  replace Es473 := Es473.ext E477
  replace Es474 := Es474.ext E477
  replace hnY := nT hnY E477.1
  have V477 : Arv Z h477 b477 k477 .char ne (List.map Value.int ([] : List Int32)) (.int 0) := Arv.new A477 (own_ge0 (by omega))
  refine own_of (U' := (T477.setTop (mkF m 193 #[.val (.int v1), .val (.int v2), .val (.int v3), .val (.int v4), .val (.int tw), .val (.int pw), .val (.int ow), .val (.int lw), .val (.int t0), .val (.int t1), .val (.int p0), .val (.int p1), .val (.int o0), .val (.int o1), .val (.int l0), .val (.int l1), .val (.ref a471), .val (.ref a472), .val (.ref a473), .val (.ref a474), .val (.int tl), .val (.int pl), .unset, .unset, .unset, .unset] [(.ref b477)]))) (st477) ?_
  refine own_astore X477 hx hby at_193 rfl (l' := #[.val (.int v1), .val (.int v2), .val (.int v3), .val (.int v4), .val (.int tw), .val (.int pw), .val (.int ow), .val (.int lw), .val (.int t0), .val (.int t1), .val (.int p0), .val (.int p1), .val (.int o0), .val (.int o1), .val (.int l0), .val (.int l1), .val (.ref a471), .val (.ref a472), .val (.ref a473), .val (.ref a474), .val (.int tl), .val (.int pl), .val (.ref b477), .unset, .unset, .unset]) rfl ?_
  replace V477 := Arv.pad V477 (own_padk ([] : List Int32) 1)
  replace V477 : Arv Z h477 b477 k477 .char ne (List.map Value.int (([] : List Int32) ++ [(0 : Int32)])) (.int 0) := V477
  refine own_aload X477 hx hby at_195 rfl rfl ?_
  refine own_iconst X477 hx hby 0 at_197 rfl ?_
  refine own_iload X477 hx hby at_198 rfl ?_
  obtain ⟨cl478, Ar478, qa478, Sa478, Na478, Ha478, Ga478⟩ := V477
  have hin478 : ¬ ((0 : Int32) < 0 ∨ cl478.slots.size ≤ ((0 : Int32)).toNatClampNeg) := inb_of Sa478 ⟨own_ge0 (by rw [(show (0 : Int32).toInt = ((([] : List Int32)).length : Int) from rfl)]; omega), by rw [own_ltI, (show (0 : Int32).toInt = ((([] : List Int32)).length : Int) from rfl), hne']; (try simp only [List.length_append, List.length_cons, List.length_nil]) <;> omega⟩
  obtain ⟨T478, h478, X478, e478, W478, st478⟩ := stC X477 hx hZ e477 Ar478 (j := (0 : Int32)) hin478 (g := (mkF m 200 #[.val (.int v1), .val (.int v2), .val (.int v3), .val (.int v4), .val (.int tw), .val (.int pw), .val (.int ow), .val (.int lw), .val (.int t0), .val (.int t1), .val (.int p0), .val (.int p1), .val (.int o0), .val (.int o1), .val (.int l0), .val (.int l1), .val (.ref a471), .val (.ref a472), .val (.ref a473), .val (.ref a474), .val (.int tl), .val (.int pl), .val (.ref b477), .unset, .unset, .unset] [(.int t0), (.int 0), (.ref b477)])) rfl rfl (hb hby at_200)
  replace V477 : Arv Z h478 b477 k477 .char ne (List.map Value.int (([] : List Int32) ++ [t0])) (.int 0) := by have q := Arv.set Ar478 qa478 Sa478 Na478 Ha478 Ga478 (fits_nar_char _) W478 (([] : List Int32).length + 0) (own_clamp (by rw [(show (0 : Int32).toInt = ((([] : List Int32)).length : Int) from rfl)]; rfl)) (by rw [List.length_map]; (try simp only [List.length_append, List.length_cons, List.length_nil]) <;> omega); rw [mt0, ← List.map_set, List.set_append_right _ _ (Nat.le_add_right _ _), Nat.add_sub_cancel_left] at q; exact q
  replace Oq471 := own_S2keep Oq471 (Keep.of_wr W478) (allS (nE gz477.symm) all0)
  replace Oq472 := own_S2keep Oq472 (Keep.of_wr W478) (allS (nE gz477.symm) all0)
  replace Oq473 := own_S2keep Oq473 (Keep.of_wr W478) (allS (nE gz477.symm) all0)
  replace Oq474 := own_S2keep Oq474 (Keep.of_wr W478) (allS (nE gz477.symm) all0)
  replace Z0 := nT Z0 (Keep.of_wr W478).1
  replace SC := SC.wr W478
  replace SA := SA.wr W478
  replace SHI := SHI.wr W478
  replace SLO := SLO.wr W478
  replace SF := SF.wr W478
  replace Es471 := Es471.wr W478
  replace Es472 := Es472.wr W478
  replace Es473 := Es473.wr W478
  replace Es474 := Es474.wr W478
  replace hnY := nT hnY (Keep.of_wr W478).1
  have N478 := Fr.snoc X478 N474 g_b477
  refine own_of (U' := (T478.setTop (mkF m 201 #[.val (.int v1), .val (.int v2), .val (.int v3), .val (.int v4), .val (.int tw), .val (.int pw), .val (.int ow), .val (.int lw), .val (.int t0), .val (.int t1), .val (.int p0), .val (.int p1), .val (.int o0), .val (.int o1), .val (.int l0), .val (.int l1), .val (.ref a471), .val (.ref a472), .val (.ref a473), .val (.ref a474), .val (.int tl), .val (.int pl), .val (.ref b477), .unset, .unset, .unset] []))) (st478) ?_
  replace V477 : Arv Z h478 b477 k477 .char ne (List.map Value.int [t0]) (.int 0) := V477
  refine own_iload X478 hx hby at_201 rfl ?_
  suffices key479 : ∀ (T479 : State) (L479 : List Loc) (hq479 : Heap) , Stand p l e room_1 s m #[(.int v1), (.int v2), (.int v3), (.int v4)] below meth c T479 L479 17 89 → T479.heap = hq479 → Fr n0 L479 → (n0 ≤ hq479.size) → (Sta Z hq479 "java/lang/String" "COMPACT_STRINGS" "Z" (.int g1)) → (Sta Z hq479 "java/lang/StringUTF16" "$assertionsDisabled" "Z" (.int 1)) → (Sta Z hq479 "java/lang/StringUTF16" "HI_BYTE_SHIFT" "I" (.int 0)) → (Sta Z hq479 "java/lang/StringUTF16" "LO_BYTE_SHIFT" "I" (.int 8)) → (Sta Z hq479 "jdk/internal/util/Preconditions" "SIOOBE_FORMATTER" "Ljava/util/function/BiFunction;" rS) → (Exa Z hq479 a471 "java/lang/String") → (own_S2 Z hq479 T474.heap.size a471 (own_pt tw t0 t1)) → (Exa Z hq479 a472 "java/lang/String") → (own_S2 Z hq479 T474.heap.size a472 (own_pt pw p0 p1)) → (Exa Z hq479 a473 "java/lang/String") → (own_S2 Z hq479 T474.heap.size a473 (own_pt ow o0 o1)) → (Exa Z hq479 a474 "java/lang/String") → (own_S2 Z hq479 T474.heap.size a474 (own_pt lw l0 l1)) → (T474.heap.size ≤ hq479.size) → (Arv Z hq479 b477 k477 .char ne (List.map Value.int (own_pt tw t0 t1)) (.int 0)) → (True) → own_Ends p e below s FrameEnd (Q0 n0) 56 384 (T479.setTop (mkF m 212 #[.val (.int v1), .val (.int v2), .val (.int v3), .val (.int v4), .val (.int tw), .val (.int pw), .val (.int ow), .val (.int lw), .val (.int t0), .val (.int t1), .val (.int p0), .val (.int p1), .val (.int o0), .val (.int o1), .val (.int l0), .val (.int l1), .val (.ref a471), .val (.ref a472), .val (.ref a473), .val (.ref a474), .val (.int tl), .val (.int pl), .val (.ref b477), .unset, .unset, .unset] [])) by
    by_cases hc203_480 : tw = (0 : Int32)
    · skip
      refine own_ifYes X478 hx hby 203 212 at_203 ((if0 _ _).trans (teq hc203_480).1) (by decide) (by decide) ?_
      replace V477 : Arv Z h478 b477 k477 .char ne (List.map Value.int (own_pt tw t0 t1)) (.int 0) := by unfold own_pt; rw [if_pos hc203_480]; exact V477
      exact key479 _ _ _  X478 e478 N478 Z0 SC SA SHI SLO SF Es471 Oq471 Es472 Oq472 Es473 Oq473 Es474 Oq474 hnY V477 trivial
    · skip
      refine own_ifNo X478 hx hby at_203 ((if0 _ _).trans (feq hc203_480).1) ?_
      replace V477 := Arv.pad V477 (own_padk [t0] 1)
      replace V477 : Arv Z h478 b477 k477 .char ne (List.map Value.int ([t0] ++ [(0 : Int32)])) (.int 0) := V477
      refine own_aload X478 hx hby at_206 rfl rfl ?_
      refine own_iconst X478 hx hby 1 at_208 rfl ?_
      refine own_iload X478 hx hby at_209 rfl ?_
      obtain ⟨cl481, Ar481, qa481, Sa481, Na481, Ha481, Ga481⟩ := V477
      have hin481 : ¬ ((1 : Int32) < 0 ∨ cl481.slots.size ≤ ((1 : Int32)).toNatClampNeg) := inb_of Sa481 ⟨own_ge0 (by rw [(show (1 : Int32).toInt = (([t0] : List Int32).length : Int) from rfl)]; omega), by rw [own_ltI, (show (1 : Int32).toInt = (([t0] : List Int32).length : Int) from rfl), hne']; (try simp only [List.length_append, List.length_cons, List.length_nil]) <;> omega⟩
      obtain ⟨T481, h481, X481, e481, W481, st481⟩ := stC X478 hx hZ e478 Ar481 (j := (1 : Int32)) hin481 (g := (mkF m 211 #[.val (.int v1), .val (.int v2), .val (.int v3), .val (.int v4), .val (.int tw), .val (.int pw), .val (.int ow), .val (.int lw), .val (.int t0), .val (.int t1), .val (.int p0), .val (.int p1), .val (.int o0), .val (.int o1), .val (.int l0), .val (.int l1), .val (.ref a471), .val (.ref a472), .val (.ref a473), .val (.ref a474), .val (.int tl), .val (.int pl), .val (.ref b477), .unset, .unset, .unset] [(.int t1), (.int 1), (.ref b477)])) rfl rfl (hb hby at_211)
      replace V477 : Arv Z h481 b477 k477 .char ne (List.map Value.int ([t0] ++ [t1])) (.int 0) := by have q := Arv.set Ar481 qa481 Sa481 Na481 Ha481 Ga481 (fits_nar_char _) W481 ([t0].length + 0) (own_clamp (by rw [(show (1 : Int32).toInt = (([t0] : List Int32).length : Int) from rfl)]; rfl)) (by rw [List.length_map]; (try simp only [List.length_append, List.length_cons, List.length_nil]) <;> omega); rw [mt1, ← List.map_set, List.set_append_right _ _ (Nat.le_add_right _ _), Nat.add_sub_cancel_left] at q; exact q
      replace Oq471 := own_S2keep Oq471 (Keep.of_wr W481) (allS (nE gz477.symm) all0)
      replace Oq472 := own_S2keep Oq472 (Keep.of_wr W481) (allS (nE gz477.symm) all0)
      replace Oq473 := own_S2keep Oq473 (Keep.of_wr W481) (allS (nE gz477.symm) all0)
      replace Oq474 := own_S2keep Oq474 (Keep.of_wr W481) (allS (nE gz477.symm) all0)
      replace Z0 := nT Z0 (Keep.of_wr W481).1
      replace SC := SC.wr W481
      replace SA := SA.wr W481
      replace SHI := SHI.wr W481
      replace SLO := SLO.wr W481
      replace SF := SF.wr W481
      replace Es471 := Es471.wr W481
      replace Es472 := Es472.wr W481
      replace Es473 := Es473.wr W481
      replace Es474 := Es474.wr W481
      replace hnY := nT hnY (Keep.of_wr W481).1
      have N481 := Fr.snoc X481 N478 g_b477
      refine own_of (U' := (T481.setTop (mkF m 212 #[.val (.int v1), .val (.int v2), .val (.int v3), .val (.int v4), .val (.int tw), .val (.int pw), .val (.int ow), .val (.int lw), .val (.int t0), .val (.int t1), .val (.int p0), .val (.int p1), .val (.int o0), .val (.int o1), .val (.int l0), .val (.int l1), .val (.ref a471), .val (.ref a472), .val (.ref a473), .val (.ref a474), .val (.int tl), .val (.int pl), .val (.ref b477), .unset, .unset, .unset] []))) (st481) ?_
      replace V477 : Arv Z h481 b477 k477 .char ne (List.map Value.int (own_pt tw t0 t1)) (.int 0) := by unfold own_pt; rw [if_neg hc203_480]; exact V477
      exact key479 _ _ _  X481 e481 N481 Z0 SC SA SHI SLO SF Es471 Oq471 Es472 Oq472 Es473 Oq473 Es474 Oq474 hnY V477 trivial
  intro T479 L479 hq479  X479 e479 N479 Z0 SC SA SHI SLO SF Es471 Oq471 Es472 Oq472 Es473 Oq473 Es474 Oq474 hnY V477 _
  replace V477 := Arv.pad V477 (own_padk (own_pt tw t0 t1) 1)
  replace V477 : Arv Z hq479 b477 k477 .char ne (List.map Value.int ((own_pt tw t0 t1) ++ [(0 : Int32)])) (.int 0) := V477
  refine own_aload X479 hx hby at_212 rfl rfl ?_
  refine own_iload X479 hx hby at_214 rfl ?_
  refine own_bipush X479 hx hby 58 at_216 rfl ?_
  obtain ⟨cl482, Ar482, qa482, Sa482, Na482, Ha482, Ga482⟩ := V477
  have hin482 : ¬ (tl < 0 ∨ cl482.slots.size ≤ (tl).toNatClampNeg) := inb_of Sa482 ⟨own_ge0 (by rw [hT.1]; omega), by rw [own_ltI, hT.1, hne']; (try simp only [List.length_append, List.length_cons, List.length_nil]) <;> omega⟩
  obtain ⟨T482, h482, X482, e482, W482, st482⟩ := stC X479 hx hZ e479 Ar482 (j := tl) hin482 (g := (mkF m 218 #[.val (.int v1), .val (.int v2), .val (.int v3), .val (.int v4), .val (.int tw), .val (.int pw), .val (.int ow), .val (.int lw), .val (.int t0), .val (.int t1), .val (.int p0), .val (.int p1), .val (.int o0), .val (.int o1), .val (.int l0), .val (.int l1), .val (.ref a471), .val (.ref a472), .val (.ref a473), .val (.ref a474), .val (.int tl), .val (.int pl), .val (.ref b477), .unset, .unset, .unset] [(.int 58), (.int tl), (.ref b477)])) rfl rfl (hb hby at_218)
  replace V477 : Arv Z h482 b477 k477 .char ne (List.map Value.int ((own_pt tw t0 t1) ++ [58])) (.int 0) := by have q := Arv.set Ar482 qa482 Sa482 Na482 Ha482 Ga482 (fits_nar_char _) W482 ((own_pt tw t0 t1).length + 0) (own_clamp (by rw [hT.1]; rfl)) (by rw [List.length_map]; (try simp only [List.length_append, List.length_cons, List.length_nil]) <;> omega); rw [show nar .char (58 : Int32) = 58 by decide, ← List.map_set, List.set_append_right _ _ (Nat.le_add_right _ _), Nat.add_sub_cancel_left] at q; exact q
  replace Oq471 := own_S2keep Oq471 (Keep.of_wr W482) (allS (nE gz477.symm) all0)
  replace Oq472 := own_S2keep Oq472 (Keep.of_wr W482) (allS (nE gz477.symm) all0)
  replace Oq473 := own_S2keep Oq473 (Keep.of_wr W482) (allS (nE gz477.symm) all0)
  replace Oq474 := own_S2keep Oq474 (Keep.of_wr W482) (allS (nE gz477.symm) all0)
  replace Z0 := nT Z0 (Keep.of_wr W482).1
  replace SC := SC.wr W482
  replace SA := SA.wr W482
  replace SHI := SHI.wr W482
  replace SLO := SLO.wr W482
  replace SF := SF.wr W482
  replace Es471 := Es471.wr W482
  replace Es472 := Es472.wr W482
  replace Es473 := Es473.wr W482
  replace Es474 := Es474.wr W482
  replace hnY := nT hnY (Keep.of_wr W482).1
  have N482 := Fr.snoc X482 N479 g_b477
  refine own_of (U' := (T482.setTop (mkF m 219 #[.val (.int v1), .val (.int v2), .val (.int v3), .val (.int v4), .val (.int tw), .val (.int pw), .val (.int ow), .val (.int lw), .val (.int t0), .val (.int t1), .val (.int p0), .val (.int p1), .val (.int o0), .val (.int o1), .val (.int l0), .val (.int l1), .val (.ref a471), .val (.ref a472), .val (.ref a473), .val (.ref a474), .val (.int tl), .val (.int pl), .val (.ref b477), .unset, .unset, .unset] []))) (st482) ?_
  have ix1 : (tl + (1 : Int32)).toInt = ((((own_pt tw t0 t1) ++ [58])).length : Int) := by rw [own_inc hT.1 (by omega), List.length_append]; rfl
  replace V477 := Arv.pad V477 (own_padk ((own_pt tw t0 t1) ++ [58]) 1)
  replace V477 : Arv Z h482 b477 k477 .char ne (List.map Value.int (((own_pt tw t0 t1) ++ [58]) ++ [(0 : Int32)])) (.int 0) := V477
  refine own_aload X482 hx hby at_219 rfl rfl ?_
  refine own_iload X482 hx hby at_221 rfl ?_
  refine own_iconst X482 hx hby 1 at_223 rfl ?_
  refine own_iadd X482 hx hby at_224 ?_
  refine own_iload X482 hx hby at_225 rfl ?_
  obtain ⟨cl483, Ar483, qa483, Sa483, Na483, Ha483, Ga483⟩ := V477
  have hin483 : ¬ ((tl + (1 : Int32)) < 0 ∨ cl483.slots.size ≤ ((tl + (1 : Int32))).toNatClampNeg) := inb_of Sa483 ⟨own_ge0 (by rw [ix1]; omega), by rw [own_ltI, ix1, hne']; (try simp only [List.length_append, List.length_cons, List.length_nil]) <;> omega⟩
  obtain ⟨T483, h483, X483, e483, W483, st483⟩ := stC X482 hx hZ e482 Ar483 (j := (tl + (1 : Int32))) hin483 (g := (mkF m 227 #[.val (.int v1), .val (.int v2), .val (.int v3), .val (.int v4), .val (.int tw), .val (.int pw), .val (.int ow), .val (.int lw), .val (.int t0), .val (.int t1), .val (.int p0), .val (.int p1), .val (.int o0), .val (.int o1), .val (.int l0), .val (.int l1), .val (.ref a471), .val (.ref a472), .val (.ref a473), .val (.ref a474), .val (.int tl), .val (.int pl), .val (.ref b477), .unset, .unset, .unset] [(.int p0), (.int (tl + (1 : Int32))), (.ref b477)])) rfl rfl (hb hby at_227)
  replace V477 : Arv Z h483 b477 k477 .char ne (List.map Value.int (((own_pt tw t0 t1) ++ [58]) ++ [p0])) (.int 0) := by have q := Arv.set Ar483 qa483 Sa483 Na483 Ha483 Ga483 (fits_nar_char _) W483 (((own_pt tw t0 t1) ++ [58]).length + 0) (own_clamp (by rw [ix1]; rfl)) (by rw [List.length_map]; (try simp only [List.length_append, List.length_cons, List.length_nil]) <;> omega); rw [mp0, ← List.map_set, List.set_append_right _ _ (Nat.le_add_right _ _), Nat.add_sub_cancel_left] at q; exact q
  replace Oq471 := own_S2keep Oq471 (Keep.of_wr W483) (allS (nE gz477.symm) all0)
  replace Oq472 := own_S2keep Oq472 (Keep.of_wr W483) (allS (nE gz477.symm) all0)
  replace Oq473 := own_S2keep Oq473 (Keep.of_wr W483) (allS (nE gz477.symm) all0)
  replace Oq474 := own_S2keep Oq474 (Keep.of_wr W483) (allS (nE gz477.symm) all0)
  replace Z0 := nT Z0 (Keep.of_wr W483).1
  replace SC := SC.wr W483
  replace SA := SA.wr W483
  replace SHI := SHI.wr W483
  replace SLO := SLO.wr W483
  replace SF := SF.wr W483
  replace Es471 := Es471.wr W483
  replace Es472 := Es472.wr W483
  replace Es473 := Es473.wr W483
  replace Es474 := Es474.wr W483
  replace hnY := nT hnY (Keep.of_wr W483).1
  have N483 := Fr.snoc X483 N482 g_b477
  refine own_of (U' := (T483.setTop (mkF m 228 #[.val (.int v1), .val (.int v2), .val (.int v3), .val (.int v4), .val (.int tw), .val (.int pw), .val (.int ow), .val (.int lw), .val (.int t0), .val (.int t1), .val (.int p0), .val (.int p1), .val (.int o0), .val (.int o1), .val (.int l0), .val (.int l1), .val (.ref a471), .val (.ref a472), .val (.ref a473), .val (.ref a474), .val (.int tl), .val (.int pl), .val (.ref b477), .unset, .unset, .unset] []))) (st483) ?_
  refine own_iload X483 hx hby at_228 rfl ?_
  suffices key484 : ∀ (T484 : State) (L484 : List Loc) (hq484 : Heap) , Stand p l e room_1 s m #[(.int v1), (.int v2), (.int v3), (.int v4)] below meth c T484 L484 17 89 → T484.heap = hq484 → Fr n0 L484 → (n0 ≤ hq484.size) → (Sta Z hq484 "java/lang/String" "COMPACT_STRINGS" "Z" (.int g1)) → (Sta Z hq484 "java/lang/StringUTF16" "$assertionsDisabled" "Z" (.int 1)) → (Sta Z hq484 "java/lang/StringUTF16" "HI_BYTE_SHIFT" "I" (.int 0)) → (Sta Z hq484 "java/lang/StringUTF16" "LO_BYTE_SHIFT" "I" (.int 8)) → (Sta Z hq484 "jdk/internal/util/Preconditions" "SIOOBE_FORMATTER" "Ljava/util/function/BiFunction;" rS) → (Exa Z hq484 a471 "java/lang/String") → (own_S2 Z hq484 T474.heap.size a471 (own_pt tw t0 t1)) → (Exa Z hq484 a472 "java/lang/String") → (own_S2 Z hq484 T474.heap.size a472 (own_pt pw p0 p1)) → (Exa Z hq484 a473 "java/lang/String") → (own_S2 Z hq484 T474.heap.size a473 (own_pt ow o0 o1)) → (Exa Z hq484 a474 "java/lang/String") → (own_S2 Z hq484 T474.heap.size a474 (own_pt lw l0 l1)) → (T474.heap.size ≤ hq484.size) → (Arv Z hq484 b477 k477 .char ne (List.map Value.int (((own_pt tw t0 t1) ++ [58]) ++ own_pt pw p0 p1)) (.int 0)) → (True) → own_Ends p e below s FrameEnd (Q0 n0) 56 384 (T484.setTop (mkF m 242 #[.val (.int v1), .val (.int v2), .val (.int v3), .val (.int v4), .val (.int tw), .val (.int pw), .val (.int ow), .val (.int lw), .val (.int t0), .val (.int t1), .val (.int p0), .val (.int p1), .val (.int o0), .val (.int o1), .val (.int l0), .val (.int l1), .val (.ref a471), .val (.ref a472), .val (.ref a473), .val (.ref a474), .val (.int tl), .val (.int pl), .val (.ref b477), .unset, .unset, .unset] [])) by
    by_cases hc230_485 : pw = (0 : Int32)
    · skip
      refine own_ifYes X483 hx hby 230 242 at_230 ((if0 _ _).trans (teq hc230_485).1) (by decide) (by decide) ?_
      replace V477 : Arv Z h483 b477 k477 .char ne (List.map Value.int (((own_pt tw t0 t1) ++ [58]) ++ own_pt pw p0 p1)) (.int 0) := by rw [show own_pt pw p0 p1 = [p0] from by unfold own_pt; rw [if_pos hc230_485]]; exact V477
      exact key484 _ _ _  X483 e483 N483 Z0 SC SA SHI SLO SF Es471 Oq471 Es472 Oq472 Es473 Oq473 Es474 Oq474 hnY V477 trivial
    · skip
      refine own_ifNo X483 hx hby at_230 ((if0 _ _).trans (feq hc230_485).1) ?_
      have hP2 : (own_pt pw p0 p1).length = 2 := by unfold own_pt; rw [if_neg hc230_485]; rfl
      have ix2 : (tl + (2 : Int32)).toInt = (((((own_pt tw t0 t1) ++ [58]) ++ [p0])).length : Int) := by rw [own_addI (by rw [show (2 : Int32).toInt = 2 by decide]; omega) (by rw [show (2 : Int32).toInt = 2 by decide]; omega), show (2 : Int32).toInt = 2 by decide, hT.1]; simp only [List.length_append, List.length_cons, List.length_nil]; omega
      replace V477 := Arv.pad V477 (own_padk (((own_pt tw t0 t1) ++ [58]) ++ [p0]) 1)
      replace V477 : Arv Z h483 b477 k477 .char ne (List.map Value.int ((((own_pt tw t0 t1) ++ [58]) ++ [p0]) ++ [(0 : Int32)])) (.int 0) := V477
      refine own_aload X483 hx hby at_233 rfl rfl ?_
      refine own_iload X483 hx hby at_235 rfl ?_
      refine own_iconst X483 hx hby 2 at_237 rfl ?_
      refine own_iadd X483 hx hby at_238 ?_
      refine own_iload X483 hx hby at_239 rfl ?_
      obtain ⟨cl486, Ar486, qa486, Sa486, Na486, Ha486, Ga486⟩ := V477
      have hin486 : ¬ ((tl + (2 : Int32)) < 0 ∨ cl486.slots.size ≤ ((tl + (2 : Int32))).toNatClampNeg) := inb_of Sa486 ⟨own_ge0 (by rw [ix2]; omega), by rw [own_ltI, ix2, hne']; (try simp only [List.length_append, List.length_cons, List.length_nil]) <;> omega⟩
      obtain ⟨T486, h486, X486, e486, W486, st486⟩ := stC X483 hx hZ e483 Ar486 (j := (tl + (2 : Int32))) hin486 (g := (mkF m 241 #[.val (.int v1), .val (.int v2), .val (.int v3), .val (.int v4), .val (.int tw), .val (.int pw), .val (.int ow), .val (.int lw), .val (.int t0), .val (.int t1), .val (.int p0), .val (.int p1), .val (.int o0), .val (.int o1), .val (.int l0), .val (.int l1), .val (.ref a471), .val (.ref a472), .val (.ref a473), .val (.ref a474), .val (.int tl), .val (.int pl), .val (.ref b477), .unset, .unset, .unset] [(.int p1), (.int (tl + (2 : Int32))), (.ref b477)])) rfl rfl (hb hby at_241)
      replace V477 : Arv Z h486 b477 k477 .char ne (List.map Value.int ((((own_pt tw t0 t1) ++ [58]) ++ [p0]) ++ [p1])) (.int 0) := by have q := Arv.set Ar486 qa486 Sa486 Na486 Ha486 Ga486 (fits_nar_char _) W486 ((((own_pt tw t0 t1) ++ [58]) ++ [p0]).length + 0) (own_clamp (by rw [ix2]; rfl)) (by rw [List.length_map]; (try simp only [List.length_append, List.length_cons, List.length_nil]) <;> omega); rw [mp1, ← List.map_set, List.set_append_right _ _ (Nat.le_add_right _ _), Nat.add_sub_cancel_left] at q; exact q
      replace Oq471 := own_S2keep Oq471 (Keep.of_wr W486) (allS (nE gz477.symm) all0)
      replace Oq472 := own_S2keep Oq472 (Keep.of_wr W486) (allS (nE gz477.symm) all0)
      replace Oq473 := own_S2keep Oq473 (Keep.of_wr W486) (allS (nE gz477.symm) all0)
      replace Oq474 := own_S2keep Oq474 (Keep.of_wr W486) (allS (nE gz477.symm) all0)
      replace Z0 := nT Z0 (Keep.of_wr W486).1
      replace SC := SC.wr W486
      replace SA := SA.wr W486
      replace SHI := SHI.wr W486
      replace SLO := SLO.wr W486
      replace SF := SF.wr W486
      replace Es471 := Es471.wr W486
      replace Es472 := Es472.wr W486
      replace Es473 := Es473.wr W486
      replace Es474 := Es474.wr W486
      replace hnY := nT hnY (Keep.of_wr W486).1
      have N486 := Fr.snoc X486 N483 g_b477
      refine own_of (U' := (T486.setTop (mkF m 242 #[.val (.int v1), .val (.int v2), .val (.int v3), .val (.int v4), .val (.int tw), .val (.int pw), .val (.int ow), .val (.int lw), .val (.int t0), .val (.int t1), .val (.int p0), .val (.int p1), .val (.int o0), .val (.int o1), .val (.int l0), .val (.int l1), .val (.ref a471), .val (.ref a472), .val (.ref a473), .val (.ref a474), .val (.int tl), .val (.int pl), .val (.ref b477), .unset, .unset, .unset] []))) (st486) ?_
      replace V477 : Arv Z h486 b477 k477 .char ne (List.map Value.int (((own_pt tw t0 t1) ++ [58]) ++ own_pt pw p0 p1)) (.int 0) := by rw [show own_pt pw p0 p1 = [p0, p1] from by unfold own_pt; rw [if_neg hc230_485]]; exact (by have q := V477; rw [List.append_assoc] at q; exact q)
      exact key484 _ _ _  X486 e486 N486 Z0 SC SA SHI SLO SF Es471 Oq471 Es472 Oq472 Es473 Oq473 Es474 Oq474 hnY V477 trivial
  intro T484 L484 hq484  X484 e484 N484 Z0 SC SA SHI SLO SF Es471 Oq471 Es472 Oq472 Es473 Oq473 Es474 Oq474 hnY V477 _
  have hnYo := hnY
  obtain ⟨T487, h487, X487, e487, E487, A487, D487, -, st487⟩ := newO X484 hx hZ hown (own_w hw 10 rfl) (own_w hw 11 rfl) (own_w hw 12 rfl) e484 (g := (mkF m 242 #[.val (.int v1), .val (.int v2), .val (.int v3), .val (.int v4), .val (.int tw), .val (.int pw), .val (.int ow), .val (.int lw), .val (.int t0), .val (.int t1), .val (.int p0), .val (.int p1), .val (.int o0), .val (.int o1), .val (.int l0), .val (.int l1), .val (.ref a471), .val (.ref a472), .val (.ref a473), .val (.ref a474), .val (.int tl), .val (.int pl), .val (.ref b477), .unset, .unset, .unset] [])) rfl (hb hby at_242) (by decide) (by decide)
  obtain ⟨b487, gz487⟩ : ∃ z, z = hq484.size := ⟨_, rfl⟩
  rw [← gz487] at A487 D487 st487
  have g_b487 : n0 ≤ b487 := nT Z0 (nE gz487.symm)
  have ne_a471_b487 : a471 ≠ b487 := Nat.ne_of_lt (Nat.lt_of_lt_of_le Es471.lt (nE gz487.symm))
  have ne_a472_b487 : a472 ≠ b487 := Nat.ne_of_lt (Nat.lt_of_lt_of_le Es472.lt (nE gz487.symm))
  have ne_a473_b487 : a473 ≠ b487 := Nat.ne_of_lt (Nat.lt_of_lt_of_le Es473.lt (nE gz487.symm))
  have ne_a474_b487 : a474 ≠ b487 := Nat.ne_of_lt (Nat.lt_of_lt_of_le Es474.lt (nE gz487.symm))
  have ne_b477_b487 : b477 ≠ b487 := Nat.ne_of_lt (Nat.lt_of_lt_of_le V477.lt (nE gz487.symm))
  replace Oq471 := own_S2ext Oq471 E487
  replace Oq472 := own_S2ext Oq472 E487
  replace Oq473 := own_S2ext Oq473 E487
  replace Oq474 := own_S2ext Oq474 E487
  replace Z0 := nT Z0 E487.1
  replace SC := SC.ext E487
  replace SA := SA.ext E487
  replace SHI := SHI.ext E487
  replace SLO := SLO.ext E487
  replace SF := SF.ext E487
  replace Es471 := Es471.ext E487
  replace Es472 := Es472.ext E487
  replace Es473 := Es473.ext E487
  replace Es474 := Es474.ext E487
  replace hnY := nT hnY E487.1
  replace V477 := V477.ext E487
  have F487_coder : Fld Z h487 b487 "java/lang/String" "coder" "B" (.int 0) := D487 (Or.inr (own_w hw 37 rfl)) (ty := .byte) (by decide)
  have F487_value : Fld Z h487 b487 "java/lang/String" "value" "[B" .null := D487 (Or.inr (own_w hw 39 rfl)) (ty := (.array .byte)) (by decide)
  refine own_of (U' := (T487.setTop (mkF m 245 #[.val (.int v1), .val (.int v2), .val (.int v3), .val (.int v4), .val (.int tw), .val (.int pw), .val (.int ow), .val (.int lw), .val (.int t0), .val (.int t1), .val (.int p0), .val (.int p1), .val (.int o0), .val (.int o1), .val (.int l0), .val (.int l1), .val (.ref a471), .val (.ref a472), .val (.ref a473), .val (.ref a474), .val (.int tl), .val (.int pl), .val (.ref b477), .unset, .unset, .unset] [(.ref b487)]))) (st487) ?_
  refine own_dup X487 hx hby at_245 rfl ?_
  refine own_aload X487 hx hby at_246 rfl rfl ?_
  obtain ⟨_, _, ⟨T488, L488, k488, n488⟩, -, X488, ⟨Lc488, hQ488, l488, y488, z488⟩, st488⟩ := X487.specialBack hx (y := mN_51) rfl hown (oV hZ hw 14 rfl) (oV hZ hw 15 rfl) (oV hZ hw 16 rfl) (by decide) (backOf (W := 1) (rmsi l Z a0 hw [] b487 b477 k477 ne (((own_pt tw t0 t1) ++ [58]) ++ own_pt pw p0 p1) g1 h487 n0 Z0 A487 F487_coder F487_value V477 g_b487 (by rw [hne']; simp only [List.length_append, List.length_cons, List.length_nil]; omega) (by simp only [List.length_append, List.length_cons, List.length_nil]; omega) (by simp only [List.length_append, List.length_cons, List.length_nil]; omega) (own_chsapp (own_chsapp (own_ptc bt0 bt1) own_chs58) (own_ptc bp0 bp1)) SC hg1 SA SHI SLO) hZ (own_w hw 16 rfl) (own_w hw 12 rfl) (by decide) (by decide)) (g := (mkF m 248 #[.val (.int v1), .val (.int v2), .val (.int v3), .val (.int v4), .val (.int tw), .val (.int pw), .val (.int ow), .val (.int lw), .val (.int t0), .val (.int t1), .val (.int p0), .val (.int p1), .val (.int o0), .val (.int o1), .val (.int l0), .val (.int l1), .val (.ref a471), .val (.ref a472), .val (.ref a473), .val (.ref a474), .val (.int tl), .val (.int pl), .val (.ref b477), .unset, .unset, .unset] [(.ref b477), (.ref b487), (.ref b487)])) rfl (by rw [hml]; rfl) (Steps.refl _) (a := b487) (argsL := [(.ref b477)]) (rest := [(.ref b487)]) (lenOf pd_41 rfl) rfl (by exact oZ rfl) (hb hby at_248) (fun _ _ => ⟨rfl, e487, (by decide : 18 + 2 ≤ _), (by decide : 93 + 15 ≤ _)⟩)
  dsimp only [Pt.U, Pt.locs, Pt.cells, Pt.slots] at X488 l488 y488 z488 st488 hQ488
  rw [l488, y488, z488] at X488
  obtain ⟨rfl, Nq488, Kp488, u488, ku488, cd488, zu488, gq488, Cq488, Fq488, Rq488⟩ := hQ488
  have g_u488 : n0 ≤ u488 := nT Z0 gq488
  have ne_a471_u488 : a471 ≠ u488 := nL Es471.lt gq488
  have ne_a472_u488 : a472 ≠ u488 := nL Es472.lt gq488
  have ne_a473_u488 : a473 ≠ u488 := nL Es473.lt gq488
  have ne_a474_u488 : a474 ≠ u488 := nL Es474.lt gq488
  have ne_b477_u488 : b477 ≠ u488 := nL V477.lt gq488
  have ne_b487_u488 : b487 ≠ u488 := nL A487.lt gq488
  have N488 := Fr.app N484 Nq488
  have nst_b487 := A487.nostat
  replace Oq471 := own_S2keep Oq471 Kp488 (allS (nT hnYo (nE gz487.symm)) all0)
  replace Oq472 := own_S2keep Oq472 Kp488 (allS (nT hnYo (nE gz487.symm)) all0)
  replace Oq473 := own_S2keep Oq473 Kp488 (allS (nT hnYo (nE gz487.symm)) all0)
  replace Oq474 := own_S2keep Oq474 Kp488 (allS (nT hnYo (nE gz487.symm)) all0)
  replace Z0 := nT Z0 Kp488.1
  replace SC := own_staKeep SC Kp488 (nsS nst_b487 ns0)
  replace SA := own_staKeep SA Kp488 (nsS nst_b487 ns0)
  replace SHI := own_staKeep SHI Kp488 (nsS nst_b487 ns0)
  replace SLO := own_staKeep SLO Kp488 (nsS nst_b487 ns0)
  replace SF := own_staKeep SF Kp488 (nsS nst_b487 ns0)
  replace Es471 := Es471.keep Kp488
  replace Es472 := Es472.keep Kp488
  replace Es473 := Es473.keep Kp488
  replace Es474 := Es474.keep Kp488
  replace hnY := nT hnY Kp488.1
  replace V477 := V477.keep Kp488 (ninS ne_b477_b487 nin0)
  replace A487 := A487.keep Kp488
  have Oq488 : own_S2 Z T488.heap T488.heap.size b487 (((own_pt tw t0 t1) ++ [58]) ++ own_pt pw p0 p1) := ⟨u488, ku488, cd488, zu488, A487.lt, own_Replt Rq488, A487, Cq488, Fq488, Rq488⟩
  replace Oq471 := own_S2mono Oq471 hnY
  replace Oq472 := own_S2mono Oq472 hnY
  replace Oq473 := own_S2mono Oq473 hnY
  replace Oq474 := own_S2mono Oq474 hnY
  refine own_of (U' := (T488.setTop (mkF m 251 #[.val (.int v1), .val (.int v2), .val (.int v3), .val (.int v4), .val (.int tw), .val (.int pw), .val (.int ow), .val (.int lw), .val (.int t0), .val (.int t1), .val (.int p0), .val (.int p1), .val (.int o0), .val (.int o1), .val (.int l0), .val (.int l1), .val (.ref a471), .val (.ref a472), .val (.ref a473), .val (.ref a474), .val (.int tl), .val (.int pl), .val (.ref b477), .unset, .unset, .unset] [(.ref b487)]))) (fun _ k => st488.trans k) ?_
  refine own_astore X488 hx hby at_251 rfl (l' := #[.val (.int v1), .val (.int v2), .val (.int v3), .val (.int v4), .val (.int tw), .val (.int pw), .val (.int ow), .val (.int lw), .val (.int t0), .val (.int t1), .val (.int p0), .val (.int p1), .val (.int o0), .val (.int o1), .val (.int l0), .val (.int l1), .val (.ref a471), .val (.ref a472), .val (.ref a473), .val (.ref a474), .val (.int tl), .val (.int pl), .val (.ref b477), .val (.ref b487), .unset, .unset]) rfl ?_
  refine own_aload X488 hx hby at_253 rfl rfl ?_
  refine own_aload X488 hx hby at_255 rfl rfl ?_
  refine own_aload X488 hx hby at_257 rfl rfl ?_
  refine own_aload X488 hx hby at_259 rfl rfl ?_
  obtain ⟨_, _, ⟨T489, L489, k489, n489⟩, -, X489, ⟨Lc489, hQ489, l489, y489, z489⟩, st489⟩ := Jvm.LawKit.callS X488 hx (y := mN_72) hown (oV hZ hw 54 rfl) (oV hZ hw 55 rfl) (oV hZ hw 56 rfl) (oV hZ hw 57 rfl) (by decide) (backOf (W := 0) (rmof l Z a0 hw [] a471 a472 a473 a474 (own_pt tw t0 t1) (own_pt pw p0 p1) (own_pt ow o0 o1) (own_pt lw l0 l1) T488.heap.size g1 rS T488.heap n0 Z0 Oq471 (own_pt2 (own_01 htw)) (own_ptc bt0 bt1) Oq472 (own_pt2 (own_01 hpw)) (own_ptc bp0 bp1) Oq473 (own_pt2 (own_01 how)) (own_ptc bo0 bo1) Oq474 (own_pt2 (own_01 hlw)) (own_ptc bl0 bl1) (Nat.le_refl _) SC hg1 SA SHI SLO SF hrS) hZ (own_w hw 57 rfl) (own_w hw 56 rfl) (by decide) (by decide)) (g := (mkF m 261 #[.val (.int v1), .val (.int v2), .val (.int v3), .val (.int v4), .val (.int tw), .val (.int pw), .val (.int ow), .val (.int lw), .val (.int t0), .val (.int t1), .val (.int p0), .val (.int p1), .val (.int o0), .val (.int o1), .val (.int l0), .val (.int l1), .val (.ref a471), .val (.ref a472), .val (.ref a473), .val (.ref a474), .val (.int tl), .val (.int pl), .val (.ref b477), .val (.ref b487), .unset, .unset] [(.ref a474), (.ref a473), (.ref a472), (.ref a471)])) rfl (by rw [hml]; rfl) (argsL := [(.ref a471), (.ref a472), (.ref a473), (.ref a474)]) (rest := []) (lenOf pd_48 rfl) rfl (by exact oZ rfl) (hb hby at_261) (fun _ _ => ⟨rfl, rfl, (by decide : 20 + 8 ≤ _), (by decide : 108 + 174 ≤ _)⟩)
  dsimp only [Pt.U, Pt.locs, Pt.cells, Pt.slots] at X489 l489 y489 z489 st489 hQ489
  rw [l489, y489, z489] at X489
  obtain ⟨a489, rfl, Nq489, Kp489, ga489, Oq489⟩ := hQ489
  have g_a489 : n0 ≤ a489 := nT Z0 ga489
  have ne_a471_a489 : a471 ≠ a489 := nL Es471.lt ga489
  have ne_a472_a489 : a472 ≠ a489 := nL Es472.lt ga489
  have ne_a473_a489 : a473 ≠ a489 := nL Es473.lt ga489
  have ne_a474_a489 : a474 ≠ a489 := nL Es474.lt ga489
  have ne_b477_a489 : b477 ≠ a489 := nL V477.lt ga489
  have ne_b487_a489 : b487 ≠ a489 := nL A487.lt ga489
  have N489 := Fr.app N488 Nq489
  replace Oq471 := own_S2keep Oq471 Kp489 all0
  replace Oq472 := own_S2keep Oq472 Kp489 all0
  replace Oq473 := own_S2keep Oq473 Kp489 all0
  replace Oq474 := own_S2keep Oq474 Kp489 all0
  replace Oq488 := own_S2keep Oq488 Kp489 all0
  replace Z0 := nT Z0 Kp489.1
  replace SC := own_staKeep SC Kp489 ns0
  replace SA := own_staKeep SA Kp489 ns0
  replace SHI := own_staKeep SHI Kp489 ns0
  replace SLO := own_staKeep SLO Kp489 ns0
  replace SF := own_staKeep SF Kp489 ns0
  replace Es471 := Es471.keep Kp489
  replace Es472 := Es472.keep Kp489
  replace Es473 := Es473.keep Kp489
  replace Es474 := Es474.keep Kp489
  replace V477 := V477.keep Kp489 nin0
  replace A487 := A487.keep Kp489
  have Es489 := own_S2exa Oq489
  replace Oq471 := own_S2mono Oq471 (nT (Nat.le_refl _) Kp489.1)
  replace Oq472 := own_S2mono Oq472 (nT (Nat.le_refl _) Kp489.1)
  replace Oq473 := own_S2mono Oq473 (nT (Nat.le_refl _) Kp489.1)
  replace Oq474 := own_S2mono Oq474 (nT (Nat.le_refl _) Kp489.1)
  replace Oq488 := own_S2mono Oq488 (nT (Nat.le_refl _) Kp489.1)
  refine own_of (U' := (T489.setTop (mkF m 264 #[.val (.int v1), .val (.int v2), .val (.int v3), .val (.int v4), .val (.int tw), .val (.int pw), .val (.int ow), .val (.int lw), .val (.int t0), .val (.int t1), .val (.int p0), .val (.int p1), .val (.int o0), .val (.int o1), .val (.int l0), .val (.int l1), .val (.ref a471), .val (.ref a472), .val (.ref a473), .val (.ref a474), .val (.int tl), .val (.int pl), .val (.ref b477), .val (.ref b487), .unset, .unset] [(.ref a489)]))) (st489) ?_
  refine own_astore X489 hx hby at_264 rfl (l' := #[.val (.int v1), .val (.int v2), .val (.int v3), .val (.int v4), .val (.int tw), .val (.int pw), .val (.int ow), .val (.int lw), .val (.int t0), .val (.int t1), .val (.int p0), .val (.int p1), .val (.int o0), .val (.int o1), .val (.int l0), .val (.int l1), .val (.ref a471), .val (.ref a472), .val (.ref a473), .val (.ref a474), .val (.int tl), .val (.int pl), .val (.ref b477), .val (.ref b487), .val (.ref a489), .unset]) rfl ?_
  have hC := own_colons (ts := (own_pt tw t0 t1)) (ps := (own_pt pw p0 p1)) (os := (own_pt ow o0 o1)) (ls := (own_pt lw l0 l1)) (own_ptn (by rw [ht0]; exact own_cc58 _) (by rw [ht1]; exact own_cc58 _)) (own_ptn (by rw [hp0]; exact own_cc58 _) (by rw [hp1]; exact own_cc58 _))
  have lO := own_pt2 (c0 := o0) (c1 := o1) (own_01 how)
  have lL := own_pt2 (c0 := l0) (c1 := l1) (own_01 hlw)
  refine own_aload X489 hx hby at_266 rfl rfl ?_
  obtain ⟨_, _, ⟨T490, L490, k490, n490⟩, -, X490, ⟨Lc490, hQ490, l490, y490, z490⟩, st490⟩ := Jvm.LawKit.callS X489 hx (y := mN_73) hown (oV hZ hw 179 rfl) (oV hZ hw 180 rfl) (oV hZ hw 56 rfl) (oV hZ hw 181 rfl) (by decide) (backOf (W := 0) (rmpo l Z a0 hw [] a489 ((((((([] ++ (own_pt tw t0 t1)) ++ [58]) ++ (own_pt pw p0 p1)) ++ [58]) ++ (own_pt ow o0 o1)) ++ [58]) ++ (own_pt lw l0 l1)) T489.heap.size ((own_pt tw t0 t1)).length (((own_pt tw t0 t1)).length + 1 + ((own_pt pw p0 p1)).length) g1 rS T489.heap n0 Z0 Oq489 (own_chsapp (own_chsapp (own_chsapp (own_chsapp (own_chsapp (own_chsapp (own_chsapp (fun _ q => nomatch q) (own_ptc bt0 bt1)) own_chs58) (own_ptc bp0 bp1)) own_chs58) (own_ptc bo0 bo1)) own_chs58) (own_ptc bl0 bl1)) (by simp only [List.length_append, List.length_cons, List.length_nil]; omega) (by omega) (by simp only [List.length_append, List.length_cons, List.length_nil]; omega) (by omega) hC.1 hC.2.1 hC.2.2.1 hC.2.2.2.1 SC hg1 SA SHI SLO SF hrS) hZ (own_w hw 181 rfl) (own_w hw 56 rfl) (by decide) (by decide)) (g := (mkF m 268 #[.val (.int v1), .val (.int v2), .val (.int v3), .val (.int v4), .val (.int tw), .val (.int pw), .val (.int ow), .val (.int lw), .val (.int t0), .val (.int t1), .val (.int p0), .val (.int p1), .val (.int o0), .val (.int o1), .val (.int l0), .val (.int l1), .val (.ref a471), .val (.ref a472), .val (.ref a473), .val (.ref a474), .val (.int tl), .val (.int pl), .val (.ref b477), .val (.ref b487), .val (.ref a489), .unset] [(.ref a489)])) rfl (by rw [hml]; rfl) (argsL := [(.ref a489)]) (rest := []) (lenOf pd_49 rfl) rfl (by exact oZ rfl) (hb hby at_268) (fun _ _ => ⟨rfl, rfl, (by decide : 28 + 3 ≤ _), (by decide : 282 + 31 ≤ _)⟩)
  dsimp only [Pt.U, Pt.locs, Pt.cells, Pt.slots] at X490 l490 y490 z490 st490 hQ490
  rw [l490, y490, z490] at X490
  obtain ⟨a490, rfl, Nq490, Kp490, ga490, Oq490⟩ := hQ490
  have g_a490 : n0 ≤ a490 := nT Z0 ga490
  have ne_a471_a490 : a471 ≠ a490 := nL Es471.lt ga490
  have ne_a472_a490 : a472 ≠ a490 := nL Es472.lt ga490
  have ne_a473_a490 : a473 ≠ a490 := nL Es473.lt ga490
  have ne_a474_a490 : a474 ≠ a490 := nL Es474.lt ga490
  have ne_b477_a490 : b477 ≠ a490 := nL V477.lt ga490
  have ne_b487_a490 : b487 ≠ a490 := nL A487.lt ga490
  have ne_a489_a490 : a489 ≠ a490 := nL Es489.lt ga490
  have N490 := Fr.app N489 Nq490
  replace Oq471 := own_S2keep Oq471 Kp490 all0
  replace Oq472 := own_S2keep Oq472 Kp490 all0
  replace Oq473 := own_S2keep Oq473 Kp490 all0
  replace Oq474 := own_S2keep Oq474 Kp490 all0
  replace Oq488 := own_S2keep Oq488 Kp490 all0
  replace Oq489 := own_S2keep Oq489 Kp490 all0
  replace Z0 := nT Z0 Kp490.1
  replace SC := own_staKeep SC Kp490 ns0
  replace SA := own_staKeep SA Kp490 ns0
  replace SHI := own_staKeep SHI Kp490 ns0
  replace SLO := own_staKeep SLO Kp490 ns0
  replace SF := own_staKeep SF Kp490 ns0
  replace Es471 := Es471.keep Kp490
  replace Es472 := Es472.keep Kp490
  replace Es473 := Es473.keep Kp490
  replace Es474 := Es474.keep Kp490
  replace V477 := V477.keep Kp490 nin0
  replace A487 := A487.keep Kp490
  replace Es489 := Es489.keep Kp490
  have Es490 := own_S2exa Oq490
  replace Oq471 := own_S2mono Oq471 (nT (Nat.le_refl _) Kp490.1)
  replace Oq472 := own_S2mono Oq472 (nT (Nat.le_refl _) Kp490.1)
  replace Oq473 := own_S2mono Oq473 (nT (Nat.le_refl _) Kp490.1)
  replace Oq474 := own_S2mono Oq474 (nT (Nat.le_refl _) Kp490.1)
  replace Oq488 := own_S2mono Oq488 (nT (Nat.le_refl _) Kp490.1)
  replace Oq489 := own_S2mono Oq489 (nT (Nat.le_refl _) Kp490.1)
  refine own_of (U' := (T490.setTop (mkF m 271 #[.val (.int v1), .val (.int v2), .val (.int v3), .val (.int v4), .val (.int tw), .val (.int pw), .val (.int ow), .val (.int lw), .val (.int t0), .val (.int t1), .val (.int p0), .val (.int p1), .val (.int o0), .val (.int o1), .val (.int l0), .val (.int l1), .val (.ref a471), .val (.ref a472), .val (.ref a473), .val (.ref a474), .val (.int tl), .val (.int pl), .val (.ref b477), .val (.ref b487), .val (.ref a489), .unset] [(.ref a490)]))) (st490) ?_
  refine own_astore X490 hx hby at_271 rfl (l' := #[.val (.int v1), .val (.int v2), .val (.int v3), .val (.int v4), .val (.int tw), .val (.int pw), .val (.int ow), .val (.int lw), .val (.int t0), .val (.int t1), .val (.int p0), .val (.int p1), .val (.int o0), .val (.int o1), .val (.int l0), .val (.int l1), .val (.ref a471), .val (.ref a472), .val (.ref a473), .val (.ref a474), .val (.int tl), .val (.int pl), .val (.ref b477), .val (.ref b487), .val (.ref a489), .val (.ref a490)]) rfl ?_
  refine own_aload X490 hx hby at_273 rfl rfl ?_
  refine own_aload X490 hx hby at_275 rfl rfl ?_
  obtain ⟨cq491, kq491, q491a, q491b, q491c⟩ := isOf hZ rfl Es490
  obtain ⟨_, _, ⟨T491, L491, k491, n491⟩, -, X491, ⟨Lc491, hQ491, l491, y491, z491⟩, st491⟩ := X490.virtualBack hx (y := mN_68) (z := mN_68) hown (oV hZ hw 231 rfl) (oV hZ hw 232 rfl) (notFace_of_selects (args := #[]) (oV hZ hw 234 rfl)) (oV hZ hw 234 rfl) (oV hZ hw 233 rfl) (by decide) (backOf (W := 0) (rmeq l Z a0 hw [] a490 b487 (((own_pt tw t0 t1) ++ [58]) ++ own_pt pw p0 p1) T490.heap.size T490.heap.size g1 T490.heap n0 Z0 (by have q := Oq490; rw [hC.2.2.2.2] at q; exact q) Oq488 (Ne.symm ne_b487_a490) SC hg1) hZ (own_w hw 235 rfl) (own_w hw 12 rfl) (by decide) (by decide)) q491a q491c (g := (mkF m 277 #[.val (.int v1), .val (.int v2), .val (.int v3), .val (.int v4), .val (.int tw), .val (.int pw), .val (.int ow), .val (.int lw), .val (.int t0), .val (.int t1), .val (.int p0), .val (.int p1), .val (.int o0), .val (.int o1), .val (.int l0), .val (.int l1), .val (.ref a471), .val (.ref a472), .val (.ref a473), .val (.ref a474), .val (.int tl), .val (.int pl), .val (.ref b477), .val (.ref b487), .val (.ref a489), .val (.ref a490)] [(.ref b487), (.ref a490)])) rfl (by rw [hml]; rfl) (Steps.refl _) (argsL := [(.ref b487)]) (rest := []) (lenOf pd_50 rfl) rfl (by exact oZ rfl) (hb hby at_277) (fun _ _ => ⟨rfl, rfl, (by decide : 31 + 0 ≤ _), (by decide : 313 + 0 ≤ _)⟩)
  dsimp only [Pt.U, Pt.locs, Pt.cells, Pt.slots] at X491 l491 y491 z491 st491 hQ491
  rw [l491, y491, z491] at X491
  obtain ⟨rfl, Nq491, e491⟩ := hQ491
  have N491 := Fr.app N490 Nq491
  refine own_of (U' := (T491.setTop (mkF m 280 #[.val (.int v1), .val (.int v2), .val (.int v3), .val (.int v4), .val (.int tw), .val (.int pw), .val (.int ow), .val (.int lw), .val (.int t0), .val (.int t1), .val (.int p0), .val (.int p1), .val (.int o0), .val (.int o1), .val (.int l0), .val (.int l1), .val (.ref a471), .val (.ref a472), .val (.ref a473), .val (.ref a474), .val (.int tl), .val (.int pl), .val (.ref b477), .val (.ref b487), .val (.ref a489), .val (.ref a490)] [(.int 1)]))) (fun _ k => st491.trans k) ?_
  exact own_retN X491 hx hlk (t := .boolean) Bd.returns (by simp) (hb hby at_280) (by decide) (by decide) (⟨rfl, N491⟩)
theorem comes_1 {Post : Tables → Env → Array Value → State → Outcome → State → Prop} (hpost : ∀ tb e args s v u, (limb_1_1.after args s (.returned v) u = true ∧ limb_1_2.after args s (.returned v) u = true ∧ True) → FrameEnd s (.returned v) u (Jvm.fieldLocs frame_1_writes args s ++ Jvm.arrayLocs frame_1_arrays args s ++ Jvm.staticLocs frame_1_statics s) 56 384 → Post tb e args s (.returned v) u) :
    ArmFor flags0 classFile x code maxLocals ret World_1 tables_1 room_1 Calls_1 rest_1 Pre_1 Post := by
  intro l hfl _ _ p e ha hc hk s m args below hf hA hF happ hP
  obtain ⟨hcalls, hrest, hpre⟩ := hP
  obtain ⟨-, -, -, hnamed, -, -, -, hat⟩ := (Spec.applies_iff hf).mp happ
  obtain ⟨hg, hn⟩ := and_e (Cond.before_iff.mp (show (Jvm.Cond.and given_1 narrow_1).before args s = true from hpre))
  obtain ⟨hcount, hv0⟩ := and_e hg
  obtain ⟨hi0, hv1⟩ := and_e hv0
  obtain ⟨hi1, hv2⟩ := and_e hv1
  obtain ⟨hi2, hv3⟩ := and_e hv2
  obtain ⟨w0, w1, w2, w3, rfl⟩ : ∃ w0 w1 w2 w3 : Value, args = #[w0, w1, w2, w3] := by
    have hs : args.size = 4 := by simpa [Cond.value, given_1] using hcount
    obtain ⟨L⟩ := args
    match L, hs with
    | [w0, w1, w2, w3], _ => exact ⟨w0, w1, w2, w3, rfl⟩
  have hw := fun d (hd : d ∈ tables_1) => atoms_spec (ws := Jvm.Cond.code x code maxLocals ret :: tables_1) hat d (List.mem_cons_of_mem _ hd)
  have hfit : Fit s := fun {y c} hc i hi => by
    obtain ⟨ha, rfl⟩ := Array.getElem?_eq_some_iff.mp hc
    have q := List.all_eq_true.mp ((Array.all_eq_true_iff_forall_mem.mp hF) _ (Array.getElem_mem ha)) i (List.mem_range.mpr hi)
    simpa [Array.getElem?_eq_getElem hi] using q
  obtain ⟨hsets, hown0⟩ := atoms_of _ (rest_1_c_eq ▸ (show rest_1_c.before _ s = true from hrest))
  have hr0 := Cond.before_iff.mp hown0
  obtain ⟨i0, ei0⟩ := is_v hi0
  obtain rfl : w0 = (.int i0) := Option.some.inj ei0
  obtain ⟨i1, ei1⟩ := is_v hi1
  obtain rfl : w1 = (.int i1) := Option.some.inj ei1
  obtain ⟨i2, ei2⟩ := is_v hi2
  obtain rfl : w2 = (.int i2) := Option.some.inj ei2
  obtain ⟨i3, ei3⟩ := is_v hv3
  obtain rfl : w3 = (.int i3) := Option.some.inj ei3
  obtain ⟨g1, eg1⟩ := is_v (Cond.before_iff.mp (hsets _ (List.mem_of_getElem? (i := 1) rfl)))
  have SC : Sta s s.heap "java/lang/String" "COMPACT_STRINGS" "Z" (.int g1) := Sta.start eg1 (Or.inl (hsets _ (List.mem_of_getElem? (i := 0) rfl)))
  have hg1 : ¬ (g1 = (0 : Int32)) := gotF (Cond.eq_ints eg1 (Term.int_eval 0)) (not_v (Cond.before_iff.mp (hsets _ (List.mem_of_getElem? (i := 2) rfl))))
  obtain ⟨rS, erS, hrS⟩ := isR_v (Cond.before_iff.mp (hsets _ (List.mem_of_getElem? (i := 8) rfl)))
  have SF : Sta s s.heap "jdk/internal/util/Preconditions" "SIOOBE_FORMATTER" "Ljava/util/function/BiFunction;" rS := Sta.start erS (Or.inl (hsets _ (List.mem_of_getElem? (i := 7) rfl)))
  have SA : Sta s s.heap "java/lang/StringUTF16" "$assertionsDisabled" "Z" (.int 1) := Sta.start (own_eqk (Cond.before_iff.mp (hsets _ (List.mem_of_getElem? (i := 12) rfl)))) (Or.inl (hsets _ (List.mem_of_getElem? (i := 11) rfl)))
  have SHI : Sta s s.heap "java/lang/StringUTF16" "HI_BYTE_SHIFT" "I" (.int 0) := Sta.start (own_eqk (Cond.before_iff.mp (hsets _ (List.mem_of_getElem? (i := 15) rfl)))) (Or.inl (hsets _ (List.mem_of_getElem? (i := 14) rfl)))
  have SLO : Sta s s.heap "java/lang/StringUTF16" "LO_BYTE_SHIFT" "I" (.int 8) := Sta.start (own_eqk (Cond.before_iff.mp (hsets _ (List.mem_of_getElem? (i := 18) rfl)))) (Or.inl (hsets _ (List.mem_of_getElem? (i := 17) rfl)))
  obtain ⟨n, o, h1, h2, h3, _, L, rfl, ⟨rfl, N⟩, hq⟩ := rm0 l s _ hw tables_1 i0 i1 i2 i3 g1 rS s.heap s.heap.size (Nat.le_refl _) SC hg1 SA SHI SLO SF hrS p e ha hc hk s m _ below hf ((Spec.applies_iff_loose hf).mp happ).1 ⟨rfl, State.Warmed39.refl s, rfl⟩ trivial
  exact ⟨n, _, h1, h2, h3, hpost _ _ _ _ _ _ ⟨Cond.after_iff.mpr rfl, Cond.after_iff.mpr (eq_i res_at (Term.int_eval (1)) rfl), trivial⟩ ⟨hq.1, hq.2.1, (hq.2.2.sift fun y hy => Or.inr (N y hy)).mono (by decide) (by decide)⟩⟩
theorem main_1_1 : Claimed_1_1 := comes_1 fun _ _ _ _ _ _ h hF => ⟨h.1, hF⟩
theorem main_1_2 : Claimed_1_2 := comes_1 fun _ _ _ _ _ _ h hF => ⟨h.2.1, hF⟩
end Jvm.Pilot.@@N@@
namespace Jvm.Pilot.@@N@@
open Jvm Jvm.ClassFile Sem Op Lib Jvm.Free Jvm.Stand Jvm.Pilot.@@N@@.Jvm.D
/-! MADE BY PROGRAM (witnessworld.py) out of the Statement's table words and the real class files: 26 classes; the members and pool entries that the words name. The judged class is class 1, her method 4. -/
namespace start1
open Jvm.ClassFile
def u (s : String) : CpInfo := .utf8 (stringToUtf16 s)
/-- a pool by its gaps: so many unusable entries, then the entry; so many at the end -/
def gap : Nat → List CpInfo → List CpInfo
  | 0, r => r
  | n + 1, r => .unusable :: gap n r
def poolList (es : List (Nat × CpInfo)) (last : Nat) : List CpInfo := es.foldr (fun e r => gap e.1 (e.2 :: r)) (gap last [])
def pool (es : List (Nat × CpInfo)) (last : Nat) : Array CpInfo := ⟨poolList es last⟩
def fileOf (pool : Array CpInfo) (this : Nat) (attrs : Array Attribute := #[]) (ms : Array MethodInfo := #[]) (fl : Nat := 33) (sup : Nat := 0) (ifs : Array Nat := #[]) (fds : Array FieldInfo := #[]) : ClassFile where
  minorVersion := 0
  majorVersion := 65
  constantPool := pool
  accessFlags := fl
  thisClass := this
  superClass := sup
  interfaces := ifs
  fields := fds
  methods := ms
  attributes := attrs
def plain (name : String) (sup : Option ClassId) : Class where
  name := name
  kind := .ordinary
  loader := none
  accessFlags := 33
  super := sup
  interfaces := #[]
  cf := none
  fields := #[]
  methods := #[]
  instanceTypes := #[]
  staticTypes := #[]
  resolved := #[]
  callSites := []
  init := .initialized
  statics := none
  mirror := none

def pool0 : Array CpInfo := pool [(5, u "<init>"), (0, u "()V"), (1, .class_ 10), (1, u "java/lang/Object")] 113

def k0c0 : Code := { maxStack := 0, maxLocals := 1, code := object_method_1_code, exceptionTable := #[], attributes := #[] }
def k0m0 : Method := { name := "<init>", desc := "()V", sig := { parameters := [], returnType := none }, accessFlags := 1, code := some k0c0 }
/-- java/lang/Object -/
def k0 : Class := { plain "java/lang/Object" none with
  accessFlags := 33
  interfaces := #[]
  cf := some (fileOf pool0 8 #[] #[{ accessFlags := 1, nameIndex := 5, descriptorIndex := 6, attributes := #[] }] 33 0 #[] #[])
  fields := #[]
  methods := #[k0m0]
  instanceTypes := #[]
  staticTypes := #[]
  resolved := Array.replicate 124 none
  statics := none }

def pool1 : Array CpInfo := pool [(2, .class_ 4), (1, u "java/lang/Object"), (0, u "<init>"), (0, u "()V"), (0, .class_ 8), (0, u "java/lang/String"), (0, .methodref 7 10), (0, .nameAndType 5 11), (0, u "([C)V"), (0, .methodref 7 13), (0, .nameAndType 14 15), (0, u "valueOf"), (0, u "(C)Ljava/lang/String;"), (0, .methodref 17 18), (0, .class_ 19), (0, .nameAndType 20 21), (0, u "com/example/pools_to_qrels/poolstoqrels/CitationIdsPostPinLaw"), (0, u "ch"), (0, u "(I)C"), (0, .methodref 17 23), (0, .nameAndType 24 21), (0, u "digit"), (0, .methodref 17 26), (0, .nameAndType 27 28), (0, u "part"), (0, u "(ZCC)Ljava/lang/String;"), (0, .methodref 30 31), (0, .class_ 32), (0, .nameAndType 33 34), (0, u "com/example/pools_to_qrels/poolstoqrels/CitationIds"), (0, u "of"), (0, u "(Ljava/lang/String;Ljava/lang/String;Ljava/lang/String;Ljava/lang/String;)Ljava/lang/String;"), (0, .methodref 30 36), (0, .nameAndType 37 38), (0, u "post"), (0, u "(Ljava/lang/String;)Ljava/lang/String;"), (0, .methodref 7 40), (0, .nameAndType 41 42), (0, u "equals"), (0, u "(Ljava/lang/Object;)Z"), (3, u "law"), (0, u "(IIII)Z")] 4

def k1m0 : Method := { name := "<init>", desc := "()V", sig := { parameters := [], returnType := none }, accessFlags := 2, code := none }
def k1c1 : Code := { maxStack := 2, maxLocals := 2, code := method_2_code, exceptionTable := #[], attributes := #[] }
def k1m1 : Method := { name := "ch", desc := "(I)C", sig := { parameters := [.int], returnType := some .char }, accessFlags := 10, code := some k1c1 }
def k1c2 : Code := { maxStack := 3, maxLocals := 1, code := method_3_code, exceptionTable := #[], attributes := #[] }
def k1m2 : Method := { name := "digit", desc := "(I)C", sig := { parameters := [.int], returnType := some .char }, accessFlags := 10, code := some k1c2 }
def k1c3 : Code := { maxStack := 6, maxLocals := 3, code := method_4_code, exceptionTable := #[], attributes := #[] }
def k1m3 : Method := { name := "part", desc := "(ZCC)Ljava/lang/String;", sig := { parameters := [.boolean, .char, .char], returnType := some (.object "java/lang/String") }, accessFlags := 10, code := some k1c3 }
def k1c4 : Code := { maxStack := 4, maxLocals := 26, code := code, exceptionTable := #[], attributes := #[] }
def k1m4 : Method := { name := "law", desc := "(IIII)Z", sig := { parameters := [.int, .int, .int, .int], returnType := some .boolean }, accessFlags := 9, code := some k1c4 }
/-- com/example/pools_to_qrels/poolstoqrels/CitationIdsPostPinLaw -/
def k1 : Class := { plain "com/example/pools_to_qrels/poolstoqrels/CitationIdsPostPinLaw" (some 0) with
  accessFlags := 49
  interfaces := #[]
  cf := some (fileOf pool1 17 #[] #[{ accessFlags := 2, nameIndex := 5, descriptorIndex := 6, attributes := #[] }, { accessFlags := 10, nameIndex := 20, descriptorIndex := 21, attributes := #[] }, { accessFlags := 10, nameIndex := 24, descriptorIndex := 21, attributes := #[] }, { accessFlags := 10, nameIndex := 27, descriptorIndex := 28, attributes := #[] }, { accessFlags := 9, nameIndex := 46, descriptorIndex := 47, attributes := #[] }] 49 2 #[] #[])
  fields := #[]
  methods := #[k1m0, k1m1, k1m2, k1m3, k1m4]
  instanceTypes := #[]
  staticTypes := #[]
  resolved := Array.replicate 52 none
  statics := none }

def pool2 : Array CpInfo := pool [(1, .class_ 2), (0, u "java/io/Serializable"), (0, .class_ 4), (0, u "java/lang/Object")] 2

/-- java/io/Serializable -/
def k2 : Class := { plain "java/io/Serializable" (some 0) with
  accessFlags := 1537
  interfaces := #[]
  cf := some (fileOf pool2 1 #[] #[] 1537 3 #[] #[])
  fields := #[]
  methods := #[]
  instanceTypes := #[]
  staticTypes := #[]
  resolved := Array.replicate 7 none
  statics := none }

def pool3 : Array CpInfo := pool [(1, .class_ 2), (0, u "java/lang/Comparable"), (0, .class_ 4), (0, u "java/lang/Object")] 7

/-- java/lang/Comparable -/
def k3 : Class := { plain "java/lang/Comparable" (some 0) with
  accessFlags := 1537
  interfaces := #[]
  cf := some (fileOf pool3 1 #[] #[] 1537 3 #[] #[])
  fields := #[]
  methods := #[]
  instanceTypes := #[]
  staticTypes := #[]
  resolved := Array.replicate 12 none
  statics := none }

def pool4 : Array CpInfo := pool [(2, .class_ 4), (1, u "java/lang/CharSequence"), (42, .class_ 48), (0, u "java/lang/CharSequence$1CodePointIterator"), (10, .class_ 60), (0, u "java/lang/CharSequence$1CharIterator"), (5, .class_ 67), (0, u "java/lang/Object")] 63

/-- java/lang/CharSequence -/
def k4 : Class := { plain "java/lang/CharSequence" (some 0) with
  accessFlags := 1537
  interfaces := #[]
  cf := some (fileOf pool4 2 #[.nestMembers #[47, 59]] #[] 1537 66 #[] #[])
  fields := #[]
  methods := #[]
  instanceTypes := #[]
  staticTypes := #[]
  resolved := Array.replicate 131 none
  statics := none }

def pool5 : Array CpInfo := pool [(1, .class_ 2), (0, u "java/lang/constant/Constable"), (0, .class_ 4), (0, u "java/lang/Object")] 6

/-- java/lang/constant/Constable -/
def k5 : Class := { plain "java/lang/constant/Constable" (some 0) with
  accessFlags := 1537
  interfaces := #[]
  cf := some (fileOf pool5 1 #[] #[] 1537 3 #[] #[])
  fields := #[]
  methods := #[]
  instanceTypes := #[]
  staticTypes := #[]
  resolved := Array.replicate 11 none
  statics := none }

def pool6 : Array CpInfo := pool [(1, .class_ 2), (0, u "java/lang/constant/ConstantDesc"), (0, .class_ 4), (0, u "java/lang/Object")] 32

/-- java/lang/constant/ConstantDesc -/
def k6 : Class := { plain "java/lang/constant/ConstantDesc" (some 0) with
  accessFlags := 1537
  interfaces := #[]
  cf := some (fileOf pool6 1 #[] #[] 1537 3 #[] #[])
  fields := #[]
  methods := #[]
  instanceTypes := #[]
  staticTypes := #[]
  resolved := Array.replicate 37 none
  statics := none }

def pool7 : Array CpInfo := pool [(1, .methodref 2 3), (0, .class_ 4), (0, .nameAndType 5 6), (0, u "java/lang/Object"), (0, u "<init>"), (0, u "()V"), (2, .fieldref 10 11), (0, .class_ 12), (0, .nameAndType 13 14), (0, u "java/lang/String"), (0, u "value"), (0, u "[B"), (0, .fieldref 10 16), (0, .nameAndType 17 18), (0, u "coder"), (0, u "B"), (2, u "hash"), (0, u "I"), (2, u "hashIsZero"), (0, u "Z"), (0, .methodref 10 28), (0, .nameAndType 5 29), (0, u "([CIILjava/lang/Void;)V"), (6, u "checkBoundsOffCount"), (0, u "(III)I"), (0, .fieldref 10 39), (0, .nameAndType 40 26), (0, u "COMPACT_STRINGS"), (1, .class_ 44), (1, u "java/lang/StringUTF16"), (0, u "compress"), (1, .methodref 42 48), (0, .nameAndType 49 50), (0, u "coderFromArrayLen"), (0, u "([BI)B"), (2, u "toBytes"), (0, .methodref 55 56), (0, .class_ 57), (0, .nameAndType 58 59), (0, u "java/util/Arrays"), (0, u "copyOfRange"), (0, u "([BII)[B"), (46, .methodref 107 108), (0, .class_ 109), (0, .nameAndType 110 111), (0, u "java/lang/StringLatin1"), (0, u "inflate"), (0, u "([BI[BII)V"), (30, u "()Z"), (34, .methodref 42 178), (0, .nameAndType 45 179), (0, u "([CII)[B"), (13, .class_ 195), (1, u "java/lang/System"), (13, .methodref 10 210), (0, .nameAndType 5 211), (0, u "([BB)V"), (0, .methodref 193 213), (0, .nameAndType 214 215), (0, u "arraycopy"), (0, u "(Ljava/lang/Object;ILjava/lang/Object;II)V"), (118, u "()I"), (0, .methodref 10 336), (0, .nameAndType 17 337), (0, u "()B"), (2, u "()[B"), (28, u "(C)Z"), (21, u "(II)V"), (97, .methodref 10 490), (0, .nameAndType 5 491), (0, u "(Ljava/lang/AbstractStringBuilder;Ljava/lang/Void;)V"), (0, .methodref 10 493), (0, .nameAndType 494 142), (0, u "isLatin1"), (6, u "checkIndex"), (3, .methodref 10 506), (0, .nameAndType 507 334), (0, u "length"), (5, u "checkFromToIndex"), (7, .methodref 10 522), (0, .nameAndType 523 524), (0, u "checkBoundsBeginEnd"), (0, u "(III)V"), (7, u "getBytes"), (8, .methodref 107 542), (0, .nameAndType 543 544), (0, u "equals"), (0, u "([B[B)Z"), (4, .methodref 550 506), (0, .class_ 551), (0, u "java/lang/AbstractStringBuilder"), (0, .methodref 550 553), (0, .nameAndType 554 340), (0, u "getValue"), (18, u "(Ljava/lang/Object;)Z"), (1, .class_ 576), (0, u "java/lang/CharSequence"), (22, u "CASE_INSENSITIVE_ORDER"), (0, u "Ljava/util/Comparator;"), (32, .methodref 10 634), (0, .nameAndType 635 636), (0, u "indexOf"), (0, u "(II)I"), (0, .methodref 107 638), (0, .nameAndType 635 639), (0, u "([BIII)I"), (0, .methodref 42 638), (42, u "substring"), (0, u "(II)Ljava/lang/String;"), (0, .methodref 107 686), (0, .nameAndType 687 688), (0, u "newString"), (0, u "([BII)Ljava/lang/String;"), (0, .methodref 42 686), (75, u "(I)I"), (16, u "valueOf"), (0, u "(C)Ljava/lang/String;"), (37, u "([BIB)V"), (188, u "([C)V"), (4, .methodref 107 1016), (0, .nameAndType 1017 369), (0, u "canEncode"), (0, .methodref 107 1019), (0, .nameAndType 53 1020), (0, u "(C)[B"), (0, .methodref 42 1019), (25, .methodref 550 493), (0, .fieldref 550 1049), (0, .nameAndType 1050 26), (0, u "maybeLatin1"), (2, .fieldref 1054 1055), (0, .class_ 1056), (0, .nameAndType 1057 1058), (0, u "jdk/internal/util/Preconditions"), (0, u "SIOOBE_FORMATTER"), (0, u "Ljava/util/function/BiFunction;"), (0, .methodref 1054 1060), (0, .nameAndType 501 1061), (0, u "(IILjava/util/function/BiFunction;)I"), (0, .methodref 1054 1063), (0, .nameAndType 513 1064), (0, u "(IIILjava/util/function/BiFunction;)I"), (0, .methodref 1054 1066), (0, .nameAndType 1067 1064), (0, u "checkFromIndexSize"), (33, u "serialPersistentFields"), (0, u "[Ljava/io/ObjectStreamField;"), (0, .class_ 1104), (0, u "java/lang/String$CaseInsensitiveComparator"), (1, .class_ 1107), (0, u "java/io/Serializable"), (0, .class_ 1109), (0, u "java/lang/Comparable"), (0, .class_ 1111), (0, u "java/lang/constant/Constable"), (0, .class_ 1113), (0, u "java/lang/constant/ConstantDesc"), (2, u "serialVersionUID"), (0, u "J"), (3, u "REPL"), (0, u "C"), (2, u "LATIN1"), (1, u "UTF16"), (105, u "(Ljava/lang/StringBuilder;)V")] 217

def k7m0 : Method := { name := "<init>", desc := "()V", sig := { parameters := [], returnType := none }, accessFlags := 1, code := none }
def k7c1 : Code := { maxStack := 5, maxLocals := 2, code := jdk_42_method_3_code, exceptionTable := #[], attributes := #[] }
def k7m1 : Method := { name := "<init>", desc := "([C)V", sig := { parameters := [(.array .char)], returnType := none }, accessFlags := 1, code := some k7c1 }
def k7c2 : Code := { maxStack := 3, maxLocals := 2, code := jdk_42_method_53_code, exceptionTable := #[], attributes := #[] }
def k7m2 : Method := { name := "<init>", desc := "(Ljava/lang/StringBuilder;)V", sig := { parameters := [(.object "java/lang/StringBuilder")], returnType := none }, accessFlags := 1, code := some k7c2 }
def k7c3 : Code := { maxStack := 2, maxLocals := 1, code := jdk_42_method_54_code, exceptionTable := #[], attributes := #[] }
def k7m3 : Method := { name := "length", desc := "()I", sig := { parameters := [], returnType := some .int }, accessFlags := 1, code := some k7c3 }
def k7c4 : Code := { maxStack := 2, maxLocals := 3, code := jdk_42_method_66_code, exceptionTable := #[], attributes := #[] }
def k7m4 : Method := { name := "equals", desc := "(Ljava/lang/Object;)Z", sig := { parameters := [(.object "java/lang/Object")], returnType := some .boolean }, accessFlags := 1, code := some k7c4 }
def k7c5 : Code := { maxStack := 3, maxLocals := 2, code := jdk_42_method_79_code, exceptionTable := #[], attributes := #[] }
def k7m5 : Method := { name := "indexOf", desc := "(I)I", sig := { parameters := [.int], returnType := some .int }, accessFlags := 1, code := some k7c5 }
def k7c6 : Code := { maxStack := 4, maxLocals := 3, code := jdk_42_method_80_code, exceptionTable := #[], attributes := #[] }
def k7m6 : Method := { name := "indexOf", desc := "(II)I", sig := { parameters := [.int, .int], returnType := some .int }, accessFlags := 1, code := some k7c6 }
def k7c7 : Code := { maxStack := 3, maxLocals := 5, code := jdk_42_method_92_code, exceptionTable := #[], attributes := #[] }
def k7m7 : Method := { name := "substring", desc := "(II)Ljava/lang/String;", sig := { parameters := [.int, .int], returnType := some (.object "java/lang/String") }, accessFlags := 1, code := some k7c7 }
def k7c8 : Code := { maxStack := 4, maxLocals := 1, code := jdk_42_method_139_code, exceptionTable := #[], attributes := #[] }
def k7m8 : Method := { name := "valueOf", desc := "(C)Ljava/lang/String;", sig := { parameters := [.char], returnType := some (.object "java/lang/String") }, accessFlags := 9, code := some k7c8 }
def k7c9 : Code := { maxStack := 5, maxLocals := 4, code := jdk_42_method_147_code, exceptionTable := #[], attributes := #[] }
def k7m9 : Method := { name := "getBytes", desc := "([BIB)V", sig := { parameters := [(.array .byte), .int, .byte], returnType := none }, accessFlags := 0, code := some k7c9 }
def k7c10 : Code := { maxStack := 4, maxLocals := 6, code := jdk_42_method_149_code, exceptionTable := #[], attributes := #[] }
def k7m10 : Method := { name := "<init>", desc := "([CIILjava/lang/Void;)V", sig := { parameters := [(.array .char), .int, .int, (.object "java/lang/Void")], returnType := none }, accessFlags := 2, code := some k7c10 }
def k7c11 : Code := { maxStack := 5, maxLocals := 5, code := jdk_42_method_150_code, exceptionTable := #[], attributes := #[] }
def k7m11 : Method := { name := "<init>", desc := "(Ljava/lang/AbstractStringBuilder;Ljava/lang/Void;)V", sig := { parameters := [(.object "java/lang/AbstractStringBuilder"), (.object "java/lang/Void")], returnType := none }, accessFlags := 0, code := some k7c11 }
def k7c12 : Code := { maxStack := 2, maxLocals := 3, code := jdk_42_method_151_code, exceptionTable := #[], attributes := #[] }
def k7m12 : Method := { name := "<init>", desc := "([BB)V", sig := { parameters := [(.array .byte), .byte], returnType := none }, accessFlags := 0, code := some k7c12 }
def k7c13 : Code := { maxStack := 1, maxLocals := 1, code := jdk_42_method_152_code, exceptionTable := #[], attributes := #[] }
def k7m13 : Method := { name := "coder", desc := "()B", sig := { parameters := [], returnType := some .byte }, accessFlags := 0, code := some k7c13 }
def k7c14 : Code := { maxStack := 1, maxLocals := 1, code := jdk_42_method_154_code, exceptionTable := #[], attributes := #[] }
def k7m14 : Method := { name := "isLatin1", desc := "()Z", sig := { parameters := [], returnType := some .boolean }, accessFlags := 0, code := some k7c14 }
def k7c15 : Code := { maxStack := 3, maxLocals := 2, code := jdk_42_method_155_code, exceptionTable := #[], attributes := #[] }
def k7m15 : Method := { name := "checkIndex", desc := "(II)V", sig := { parameters := [.int, .int], returnType := none }, accessFlags := 8, code := some k7c15 }
def k7c16 : Code := { maxStack := 4, maxLocals := 3, code := jdk_42_method_157_code, exceptionTable := #[], attributes := #[] }
def k7m16 : Method := { name := "checkBoundsOffCount", desc := "(III)I", sig := { parameters := [.int, .int, .int], returnType := some .int }, accessFlags := 8, code := some k7c16 }
def k7c17 : Code := { maxStack := 4, maxLocals := 3, code := jdk_42_method_158_code, exceptionTable := #[], attributes := #[] }
def k7m17 : Method := { name := "checkBoundsBeginEnd", desc := "(III)V", sig := { parameters := [.int, .int, .int], returnType := none }, accessFlags := 8, code := some k7c17 }
/-- java/lang/String -/
def k7 : Class := { plain "java/lang/String" (some 0) with
  accessFlags := 49
  interfaces := #[2, 3, 4, 5, 6]
  cf := some (fileOf pool7 10 #[.nestMembers #[1103]] #[{ accessFlags := 1, nameIndex := 5, descriptorIndex := 6, attributes := #[] }, { accessFlags := 1, nameIndex := 5, descriptorIndex := 1010, attributes := #[] }, { accessFlags := 1, nameIndex := 5, descriptorIndex := 1233, attributes := #[] }, { accessFlags := 1, nameIndex := 507, descriptorIndex := 334, attributes := #[] }, { accessFlags := 1, nameIndex := 543, descriptorIndex := 573, attributes := #[] }, { accessFlags := 1, nameIndex := 635, descriptorIndex := 765, attributes := #[] }, { accessFlags := 1, nameIndex := 635, descriptorIndex := 636, attributes := #[] }, { accessFlags := 1, nameIndex := 683, descriptorIndex := 684, attributes := #[] }, { accessFlags := 9, nameIndex := 782, descriptorIndex := 783, attributes := #[] }, { accessFlags := 0, nameIndex := 532, descriptorIndex := 821, attributes := #[] }, { accessFlags := 2, nameIndex := 5, descriptorIndex := 29, attributes := #[] }, { accessFlags := 0, nameIndex := 5, descriptorIndex := 491, attributes := #[] }, { accessFlags := 0, nameIndex := 5, descriptorIndex := 211, attributes := #[] }, { accessFlags := 0, nameIndex := 17, descriptorIndex := 337, attributes := #[] }, { accessFlags := 0, nameIndex := 494, descriptorIndex := 142, attributes := #[] }, { accessFlags := 8, nameIndex := 501, descriptorIndex := 391, attributes := #[] }, { accessFlags := 8, nameIndex := 36, descriptorIndex := 37, attributes := #[] }, { accessFlags := 8, nameIndex := 523, descriptorIndex := 524, attributes := #[] }] 49 2 #[1106, 1108, 575, 1110, 1112] #[{ accessFlags := 18, nameIndex := 13, descriptorIndex := 14, attributes := #[] }, { accessFlags := 18, nameIndex := 17, descriptorIndex := 18, attributes := #[] }, { accessFlags := 2, nameIndex := 21, descriptorIndex := 22, attributes := #[] }, { accessFlags := 2, nameIndex := 25, descriptorIndex := 26, attributes := #[] }, { accessFlags := 26, nameIndex := 1116, descriptorIndex := 1117, attributes := #[] }, { accessFlags := 24, nameIndex := 40, descriptorIndex := 26, attributes := #[] }, { accessFlags := 26, nameIndex := 1101, descriptorIndex := 1102, attributes := #[] }, { accessFlags := 26, nameIndex := 1121, descriptorIndex := 1122, attributes := #[] }, { accessFlags := 25, nameIndex := 599, descriptorIndex := 600, attributes := #[] }, { accessFlags := 24, nameIndex := 1125, descriptorIndex := 18, attributes := #[] }, { accessFlags := 24, nameIndex := 1127, descriptorIndex := 18, attributes := #[] }])
  fields := #[{ name := "value", type := (.array .byte), accessFlags := 18, slot := 0, constantValue := 0 }, { name := "coder", type := .byte, accessFlags := 18, slot := 1, constantValue := 0 }, { name := "hash", type := .int, accessFlags := 2, slot := 2, constantValue := 0 }, { name := "hashIsZero", type := .boolean, accessFlags := 2, slot := 3, constantValue := 0 }, { name := "serialVersionUID", type := .long, accessFlags := 26, slot := 0, constantValue := 0 }, { name := "COMPACT_STRINGS", type := .boolean, accessFlags := 24, slot := 1, constantValue := 0 }, { name := "serialPersistentFields", type := (.array (.object "java/io/ObjectStreamField")), accessFlags := 26, slot := 2, constantValue := 0 }, { name := "REPL", type := .char, accessFlags := 26, slot := 3, constantValue := 0 }, { name := "CASE_INSENSITIVE_ORDER", type := (.object "java/util/Comparator"), accessFlags := 25, slot := 4, constantValue := 0 }, { name := "LATIN1", type := .byte, accessFlags := 24, slot := 5, constantValue := 0 }, { name := "UTF16", type := .byte, accessFlags := 24, slot := 6, constantValue := 0 }]
  methods := #[k7m0, k7m1, k7m2, k7m3, k7m4, k7m5, k7m6, k7m7, k7m8, k7m9, k7m10, k7m11, k7m12, k7m13, k7m14, k7m15, k7m16, k7m17]
  instanceTypes := #[(.array .byte), .byte, .int, .boolean]
  staticTypes := #[.long, .boolean, (.array (.object "java/io/ObjectStreamField")), .char, (.object "java/util/Comparator"), .byte, .byte]
  resolved := Array.replicate 1451 none
  statics := some 0 }

def pool8 : Array CpInfo := pool [(3, .class_ 4), (0, u "java/lang/String"), (1, .class_ 8), (1, u "java/lang/Object"), (0, u "<init>"), (0, u "()V"), (0, .methodref 12 13), (0, .class_ 14), (0, .nameAndType 15 16), (0, u "java/lang/StringUTF16"), (0, u "newBytesLength"), (0, u "(I)I"), (3, .integer 1073741823), (23, .fieldref 12 45), (0, .nameAndType 46 47), (0, u "$assertionsDisabled"), (0, u "Z"), (0, .methodref 12 49), (0, .nameAndType 50 51), (0, u "length"), (0, u "([B)I"), (7, .fieldref 12 60), (0, .nameAndType 61 62), (0, u "HI_BYTE_SHIFT"), (0, u "I"), (0, .fieldref 12 64), (0, .nameAndType 65 62), (0, u "LO_BYTE_SHIFT"), (1, .methodref 12 68), (0, .nameAndType 69 70), (0, u "checkIndex"), (0, u "(I[B)V"), (0, .methodref 12 72), (0, .nameAndType 73 74), (0, u "getChar"), (0, u "([BI)C"), (21, .methodref 12 97), (0, .nameAndType 98 99), (0, u "checkBoundsBeginEnd"), (0, u "(II[B)V"), (7, .methodref 12 108), (0, .nameAndType 109 110), (0, u "newBytesFor"), (0, u "(I)[B"), (0, .methodref 12 112), (0, .nameAndType 113 114), (0, u "putChar"), (0, u "([BII)V"), (0, .methodref 12 116), (0, .nameAndType 117 118), (0, u "compress"), (0, u "([CI[BII)I"), (0, .methodref 12 120), (0, .nameAndType 121 122), (0, u "toBytes"), (0, u "([CII)[B"), (0, .methodref 12 124), (0, .nameAndType 117 125), (0, u "([BI[BII)I"), (0, .methodref 127 128), (0, .class_ 129), (0, .nameAndType 130 131), (0, u "java/util/Arrays"), (0, u "copyOfRange"), (0, u "([BII)[B"), (8, u "inflate"), (0, u "([BI[BII)V"), (31, .methodref 12 174), (0, .nameAndType 175 99), (0, u "checkBoundsOffCount"), (7, .methodref 184 185), (0, .class_ 186), (0, .nameAndType 187 188), (0, u "java/lang/Math"), (0, u "min"), (0, u "(II)I"), (35, .methodref 184 225), (0, .nameAndType 226 188), (0, u "max"), (0, .integer 65536), (0, .methodref 12 229), (0, .nameAndType 230 231), (0, u "indexOfChar"), (0, u "([BIII)I"), (9, .methodref 3 242), (0, .nameAndType 98 243), (0, u "(III)V"), (0, .methodref 12 245), (0, .nameAndType 246 231), (0, u "indexOfCharUnsafe"), (4, .fieldref 3 252), (0, .nameAndType 253 47), (0, u "COMPACT_STRINGS"), (3, .methodref 12 258), (0, .nameAndType 117 131), (0, .methodref 12 260), (0, .nameAndType 261 262), (0, u "coderFromArrayLen"), (0, u "([BI)B"), (0, .methodref 3 264), (0, .nameAndType 9 265), (0, u "([BB)V"), (2, u "indexOf"), (12, u "(III)I"), (45, u "newString"), (0, u "([BII)Ljava/lang/String;"), (40, .class_ 371), (1, u "java/lang/StringUTF16$LinesSpliterator"), (42, .methodref 3 415), (0, .nameAndType 69 416), (0, u "(II)V"), (2, .methodref 3 420), (0, .nameAndType 175 281), (9, u "MAX_LENGTH"), (44, u "(C)[B"), (110, u "putCharSB"), (40, .class_ 628), (0, u "java/lang/StringUTF16$CodePointsSpliterator"), (0, .class_ 630), (0, u "java/lang/StringUTF16$CharsSpliterator")] 4

def k8m0 : Method := { name := "<init>", desc := "()V", sig := { parameters := [], returnType := none }, accessFlags := 0, code := none }
def k8c1 : Code := { maxStack := 1, maxLocals := 1, code := jdk_52_method_2_code, exceptionTable := #[], attributes := #[] }
def k8m1 : Method := { name := "newBytesFor", desc := "(I)[B", sig := { parameters := [.int], returnType := some (.array .byte) }, accessFlags := 9, code := some k8c1 }
def k8c2 : Code := { maxStack := 4, maxLocals := 1, code := jdk_52_method_3_code, exceptionTable := #[], attributes := #[] }
def k8m2 : Method := { name := "newBytesLength", desc := "(I)I", sig := { parameters := [.int], returnType := some .int }, accessFlags := 9, code := some k8c2 }
def k8c3 : Code := { maxStack := 4, maxLocals := 3, code := jdk_52_method_4_code, exceptionTable := #[], attributes := #[] }
def k8m3 : Method := { name := "putChar", desc := "([BII)V", sig := { parameters := [(.array .byte), .int, .int], returnType := none }, accessFlags := 8, code := some k8c3 }
def k8c4 : Code := { maxStack := 3, maxLocals := 2, code := jdk_52_method_5_code, exceptionTable := #[], attributes := #[] }
def k8m4 : Method := { name := "getChar", desc := "([BI)C", sig := { parameters := [(.array .byte), .int], returnType := some .char }, accessFlags := 8, code := some k8c4 }
def k8c5 : Code := { maxStack := 2, maxLocals := 1, code := jdk_52_method_6_code, exceptionTable := #[], attributes := #[] }
def k8m5 : Method := { name := "length", desc := "([B)I", sig := { parameters := [(.array .byte)], returnType := some .int }, accessFlags := 9, code := some k8c5 }
def k8c6 : Code := { maxStack := 4, maxLocals := 5, code := jdk_52_method_14_code, exceptionTable := #[], attributes := #[] }
def k8m6 : Method := { name := "toBytes", desc := "([CII)[B", sig := { parameters := [(.array .char), .int, .int], returnType := some (.array .byte) }, accessFlags := 9, code := some k8c6 }
def k8c7 : Code := { maxStack := 2, maxLocals := 2, code := jdk_52_method_15_code, exceptionTable := #[], attributes := #[] }
def k8m7 : Method := { name := "coderFromArrayLen", desc := "([BI)B", sig := { parameters := [(.array .byte), .int], returnType := some .byte }, accessFlags := 8, code := some k8c7 }
def k8c8 : Code := { maxStack := 5, maxLocals := 6, code := jdk_52_method_16_code, exceptionTable := #[], attributes := #[] }
def k8m8 : Method := { name := "compress", desc := "([CII)[B", sig := { parameters := [(.array .char), .int, .int], returnType := some (.array .byte) }, accessFlags := 9, code := some k8c8 }
def k8c9 : Code := { maxStack := 5, maxLocals := 6, code := jdk_52_method_17_code, exceptionTable := #[], attributes := #[] }
def k8m9 : Method := { name := "compress", desc := "([BII)[B", sig := { parameters := [(.array .byte), .int, .int], returnType := some (.array .byte) }, accessFlags := 9, code := some k8c9 }
def k8c10 : Code := { maxStack := 3, maxLocals := 7, code := jdk_52_method_21_code, exceptionTable := #[], attributes := #[] }
def k8m10 : Method := { name := "compress", desc := "([CI[BII)I", sig := { parameters := [(.array .char), .int, (.array .byte), .int, .int], returnType := some .int }, accessFlags := 9, code := some k8c10 }
def k8c11 : Code := { maxStack := 3, maxLocals := 7, code := jdk_52_method_22_code, exceptionTable := #[], attributes := #[] }
def k8m11 : Method := { name := "compress", desc := "([BI[BII)I", sig := { parameters := [(.array .byte), .int, (.array .byte), .int, .int], returnType := some .int }, accessFlags := 9, code := some k8c11 }
def k8c12 : Code := { maxStack := 3, maxLocals := 2, code := jdk_52_method_24_code, exceptionTable := #[], attributes := #[] }
def k8m12 : Method := { name := "toBytes", desc := "(C)[B", sig := { parameters := [.char], returnType := some (.array .byte) }, accessFlags := 9, code := some k8c12 }
def k8c13 : Code := { maxStack := 4, maxLocals := 4, code := jdk_52_method_40_code, exceptionTable := #[], attributes := #[] }
def k8m13 : Method := { name := "indexOf", desc := "([BIII)I", sig := { parameters := [(.array .byte), .int, .int, .int], returnType := some .int }, accessFlags := 9, code := some k8c13 }
def k8c14 : Code := { maxStack := 4, maxLocals := 4, code := jdk_52_method_47_code, exceptionTable := #[], attributes := #[] }
def k8m14 : Method := { name := "indexOfChar", desc := "([BIII)I", sig := { parameters := [(.array .byte), .int, .int, .int], returnType := some .int }, accessFlags := 10, code := some k8c14 }
def k8c15 : Code := { maxStack := 2, maxLocals := 5, code := jdk_52_method_48_code, exceptionTable := #[], attributes := #[] }
def k8m15 : Method := { name := "indexOfCharUnsafe", desc := "([BIII)I", sig := { parameters := [(.array .byte), .int, .int, .int], returnType := some .int }, accessFlags := 10, code := some k8c15 }
def k8c16 : Code := { maxStack := 6, maxLocals := 5, code := jdk_52_method_69_code, exceptionTable := #[], attributes := #[] }
def k8m16 : Method := { name := "newString", desc := "([BII)Ljava/lang/String;", sig := { parameters := [(.array .byte), .int, .int], returnType := some (.object "java/lang/String") }, accessFlags := 9, code := some k8c16 }
def k8c17 : Code := { maxStack := 3, maxLocals := 3, code := jdk_52_method_71_code, exceptionTable := #[], attributes := #[] }
def k8m17 : Method := { name := "putCharSB", desc := "([BII)V", sig := { parameters := [(.array .byte), .int, .int], returnType := none }, accessFlags := 9, code := some k8c17 }
def k8c18 : Code := { maxStack := 4, maxLocals := 6, code := jdk_52_method_86_code, exceptionTable := #[], attributes := #[] }
def k8m18 : Method := { name := "inflate", desc := "([BI[BII)V", sig := { parameters := [(.array .byte), .int, (.array .byte), .int, .int], returnType := none }, accessFlags := 9, code := some k8c18 }
def k8c19 : Code := { maxStack := 2, maxLocals := 2, code := jdk_52_method_91_code, exceptionTable := #[], attributes := #[] }
def k8m19 : Method := { name := "checkIndex", desc := "(I[B)V", sig := { parameters := [.int, (.array .byte)], returnType := none }, accessFlags := 9, code := some k8c19 }
def k8c20 : Code := { maxStack := 3, maxLocals := 3, code := jdk_52_method_93_code, exceptionTable := #[], attributes := #[] }
def k8m20 : Method := { name := "checkBoundsBeginEnd", desc := "(II[B)V", sig := { parameters := [.int, .int, (.array .byte)], returnType := none }, accessFlags := 9, code := some k8c20 }
def k8c21 : Code := { maxStack := 3, maxLocals := 3, code := jdk_52_method_94_code, exceptionTable := #[], attributes := #[] }
def k8m21 : Method := { name := "checkBoundsOffCount", desc := "(II[B)V", sig := { parameters := [.int, .int, (.array .byte)], returnType := none }, accessFlags := 9, code := some k8c21 }
/-- java/lang/StringUTF16 -/
def k8 : Class := { plain "java/lang/StringUTF16" (some 0) with
  accessFlags := 48
  interfaces := #[]
  cf := some (fileOf pool8 12 #[.nestMembers #[627, 629, 369]] #[{ accessFlags := 0, nameIndex := 9, descriptorIndex := 10, attributes := #[] }, { accessFlags := 9, nameIndex := 109, descriptorIndex := 110, attributes := #[] }, { accessFlags := 9, nameIndex := 15, descriptorIndex := 16, attributes := #[] }, { accessFlags := 8, nameIndex := 113, descriptorIndex := 114, attributes := #[] }, { accessFlags := 8, nameIndex := 73, descriptorIndex := 74, attributes := #[] }, { accessFlags := 9, nameIndex := 50, descriptorIndex := 51, attributes := #[] }, { accessFlags := 9, nameIndex := 121, descriptorIndex := 122, attributes := #[] }, { accessFlags := 8, nameIndex := 261, descriptorIndex := 262, attributes := #[] }, { accessFlags := 9, nameIndex := 117, descriptorIndex := 122, attributes := #[] }, { accessFlags := 9, nameIndex := 117, descriptorIndex := 131, attributes := #[] }, { accessFlags := 9, nameIndex := 117, descriptorIndex := 118, attributes := #[] }, { accessFlags := 9, nameIndex := 117, descriptorIndex := 125, attributes := #[] }, { accessFlags := 9, nameIndex := 121, descriptorIndex := 475, attributes := #[] }, { accessFlags := 9, nameIndex := 268, descriptorIndex := 231, attributes := #[] }, { accessFlags := 10, nameIndex := 230, descriptorIndex := 231, attributes := #[] }, { accessFlags := 10, nameIndex := 246, descriptorIndex := 231, attributes := #[] }, { accessFlags := 9, nameIndex := 327, descriptorIndex := 328, attributes := #[] }, { accessFlags := 9, nameIndex := 586, descriptorIndex := 114, attributes := #[] }, { accessFlags := 9, nameIndex := 140, descriptorIndex := 141, attributes := #[] }, { accessFlags := 9, nameIndex := 69, descriptorIndex := 70, attributes := #[] }, { accessFlags := 9, nameIndex := 98, descriptorIndex := 99, attributes := #[] }, { accessFlags := 9, nameIndex := 175, descriptorIndex := 99, attributes := #[] }] 48 6 #[] #[{ accessFlags := 26, nameIndex := 61, descriptorIndex := 62, attributes := #[] }, { accessFlags := 26, nameIndex := 65, descriptorIndex := 62, attributes := #[] }, { accessFlags := 24, nameIndex := 430, descriptorIndex := 62, attributes := #[] }, { accessFlags := 4120, nameIndex := 46, descriptorIndex := 47, attributes := #[] }])
  fields := #[{ name := "HI_BYTE_SHIFT", type := .int, accessFlags := 26, slot := 0, constantValue := 0 }, { name := "LO_BYTE_SHIFT", type := .int, accessFlags := 26, slot := 1, constantValue := 0 }, { name := "MAX_LENGTH", type := .int, accessFlags := 24, slot := 2, constantValue := 0 }, { name := "$assertionsDisabled", type := .boolean, accessFlags := 4120, slot := 3, constantValue := 0 }]
  methods := #[k8m0, k8m1, k8m2, k8m3, k8m4, k8m5, k8m6, k8m7, k8m8, k8m9, k8m10, k8m11, k8m12, k8m13, k8m14, k8m15, k8m16, k8m17, k8m18, k8m19, k8m20, k8m21]
  instanceTypes := #[]
  staticTypes := #[.int, .int, .int, .boolean]
  resolved := Array.replicate 635 none
  statics := some 1 }

def pool9 : Array CpInfo := pool [(1, .class_ 2), (0, u "java/lang/String"), (1, .class_ 6), (1, u "java/lang/Object"), (0, u "<init>"), (0, u "()V"), (5, .class_ 16), (1, u "java/lang/StringLatin1"), (0, u "inflate"), (2, .class_ 22), (1, u "java/lang/StringUTF16"), (3, .nameAndType 17 27), (0, u "([BI[BII)V"), (10, .methodref 39 40), (0, .class_ 41), (0, .nameAndType 42 43), (0, u "java/lang/Math"), (0, u "min"), (0, u "(II)I"), (44, .methodref 14 89), (0, .nameAndType 90 91), (0, u "canEncode"), (0, u "(I)Z"), (0, .methodref 39 93), (0, .nameAndType 94 43), (0, u "max"), (0, .methodref 14 96), (0, .nameAndType 97 98), (0, u "indexOfChar"), (0, u "([BIII)I"), (2, u "indexOf"), (3, u "(C)Z"), (6, .methodref 1 113), (0, .nameAndType 7 114), (0, u "([BB)V"), (6, u "$assertionsDisabled"), (0, u "Z"), (8, .class_ 133), (1, u "java/util/Arrays"), (62, u "newString"), (0, u "([BII)Ljava/lang/String;"), (23, .class_ 223), (1, u "java/lang/StringLatin1$LinesSpliterator"), (8, .methodref 131 233), (0, .nameAndType 234 235), (0, u "copyOfRange"), (0, u "([BII)[B"), (4, .methodref 20 26), (40, u "equals"), (0, u "([B[B)Z"), (97, u "toBytes"), (1, u "(C)[B"), (7, .class_ 391), (0, u "java/lang/StringLatin1$CharsSpliterator")] 3

def k9m0 : Method := { name := "<init>", desc := "()V", sig := { parameters := [], returnType := none }, accessFlags := 0, code := none }
def k9c1 : Code := { maxStack := 2, maxLocals := 1, code := jdk_43_method_3_code, exceptionTable := #[], attributes := #[] }
def k9m1 : Method := { name := "canEncode", desc := "(C)Z", sig := { parameters := [.char], returnType := some .boolean }, accessFlags := 9, code := some k9c1 }
def k9c2 : Code := { maxStack := 2, maxLocals := 1, code := jdk_43_method_4_code, exceptionTable := #[], attributes := #[] }
def k9m2 : Method := { name := "canEncode", desc := "(I)Z", sig := { parameters := [.int], returnType := some .boolean }, accessFlags := 9, code := some k9c2 }
def k9c3 : Code := { maxStack := 3, maxLocals := 3, code := jdk_43_method_13_code, exceptionTable := #[], attributes := #[] }
def k9m3 : Method := { name := "equals", desc := "([B[B)Z", sig := { parameters := [(.array .byte), (.array .byte)], returnType := some .boolean }, accessFlags := 9, code := some k9c3 }
def k9c4 : Code := { maxStack := 4, maxLocals := 4, code := jdk_43_method_22_code, exceptionTable := #[], attributes := #[] }
def k9m4 : Method := { name := "indexOf", desc := "([BIII)I", sig := { parameters := [(.array .byte), .int, .int, .int], returnType := some .int }, accessFlags := 9, code := some k9c4 }
def k9c5 : Code := { maxStack := 2, maxLocals := 6, code := jdk_43_method_23_code, exceptionTable := #[], attributes := #[] }
def k9m5 : Method := { name := "indexOfChar", desc := "([BIII)I", sig := { parameters := [(.array .byte), .int, .int, .int], returnType := some .int }, accessFlags := 10, code := some k9c5 }
def k9c6 : Code := { maxStack := 4, maxLocals := 1, code := jdk_43_method_46_code, exceptionTable := #[], attributes := #[] }
def k9m6 : Method := { name := "toBytes", desc := "(C)[B", sig := { parameters := [.char], returnType := some (.array .byte) }, accessFlags := 9, code := some k9c6 }
def k9c7 : Code := { maxStack := 6, maxLocals := 3, code := jdk_43_method_47_code, exceptionTable := #[], attributes := #[] }
def k9m7 : Method := { name := "newString", desc := "([BII)Ljava/lang/String;", sig := { parameters := [(.array .byte), .int, .int], returnType := some (.object "java/lang/String") }, accessFlags := 9, code := some k9c7 }
def k9c8 : Code := { maxStack := 5, maxLocals := 5, code := jdk_43_method_50_code, exceptionTable := #[], attributes := #[] }
def k9m8 : Method := { name := "inflate", desc := "([BI[BII)V", sig := { parameters := [(.array .byte), .int, (.array .byte), .int, .int], returnType := none }, accessFlags := 9, code := some k9c8 }
/-- java/lang/StringLatin1 -/
def k9 : Class := { plain "java/lang/StringLatin1" (some 0) with
  accessFlags := 48
  interfaces := #[]
  cf := some (fileOf pool9 14 #[.nestMembers #[390, 221]] #[{ accessFlags := 0, nameIndex := 7, descriptorIndex := 8, attributes := #[] }, { accessFlags := 9, nameIndex := 90, descriptorIndex := 105, attributes := #[] }, { accessFlags := 9, nameIndex := 90, descriptorIndex := 91, attributes := #[] }, { accessFlags := 9, nameIndex := 281, descriptorIndex := 282, attributes := #[] }, { accessFlags := 9, nameIndex := 101, descriptorIndex := 98, attributes := #[] }, { accessFlags := 10, nameIndex := 97, descriptorIndex := 98, attributes := #[] }, { accessFlags := 9, nameIndex := 380, descriptorIndex := 382, attributes := #[] }, { accessFlags := 9, nameIndex := 196, descriptorIndex := 197, attributes := #[] }, { accessFlags := 9, nameIndex := 17, descriptorIndex := 27, attributes := #[] }] 48 4 #[] #[{ accessFlags := 4120, nameIndex := 121, descriptorIndex := 122, attributes := #[] }])
  fields := #[{ name := "$assertionsDisabled", type := .boolean, accessFlags := 4120, slot := 0, constantValue := 0 }]
  methods := #[k9m0, k9m1, k9m2, k9m3, k9m4, k9m5, k9m6, k9m7, k9m8]
  instanceTypes := #[]
  staticTypes := #[.boolean]
  resolved := Array.replicate 395 none
  statics := none }

def pool10 : Array CpInfo := pool [(2, .class_ 4), (0, .nameAndType 5 6), (0, u "java/lang/Object"), (0, u "<init>"), (0, u "()V"), (0, .class_ 8), (0, u "java/lang/StringBuilder"), (0, .methodref 7 3), (0, .methodref 7 11), (0, .nameAndType 12 13), (0, u "append"), (0, u "(Ljava/lang/String;)Ljava/lang/StringBuilder;"), (0, .class_ 15), (0, u "com/example/pools_to_qrels/poolstoqrels/CitationIds"), (0, .methodref 7 17), (0, .nameAndType 12 18), (0, u "(C)Ljava/lang/StringBuilder;"), (0, .methodref 7 20), (0, .nameAndType 21 22), (0, u "toString"), (0, u "()Ljava/lang/String;"), (1, .class_ 26), (1, u "java/lang/String"), (21, u "(Ljava/lang/String;)Ljava/lang/String;"), (8, .methodref 24 58), (0, .nameAndType 59 60), (0, u "indexOf"), (0, u "(I)I"), (0, .methodref 24 62), (0, .nameAndType 59 63), (0, u "(II)I"), (0, .methodref 24 65), (0, .nameAndType 66 67), (0, u "substring"), (0, u "(II)Ljava/lang/String;"), (8, u "SEPARATOR"), (0, u "C"), (2, u "PARTS"), (0, u "I"), (1, u "THREAD"), (1, u "POST"), (1, u "OFFSET"), (1, u "LENGTH"), (3, u "of"), (0, u "(Ljava/lang/String;Ljava/lang/String;Ljava/lang/String;Ljava/lang/String;)Ljava/lang/String;"), (7, u "post")] 2

def k10m0 : Method := { name := "<init>", desc := "()V", sig := { parameters := [], returnType := none }, accessFlags := 2, code := none }
def k10c1 : Code := { maxStack := 2, maxLocals := 4, code := prog_5_method_2_code, exceptionTable := #[], attributes := #[] }
def k10m1 : Method := { name := "of", desc := "(Ljava/lang/String;Ljava/lang/String;Ljava/lang/String;Ljava/lang/String;)Ljava/lang/String;", sig := { parameters := [(.object "java/lang/String"), (.object "java/lang/String"), (.object "java/lang/String"), (.object "java/lang/String")], returnType := some (.object "java/lang/String") }, accessFlags := 8, code := some k10c1 }
def k10c2 : Code := { maxStack := 6, maxLocals := 1, code := prog_5_method_4_code, exceptionTable := #[], attributes := #[] }
def k10m2 : Method := { name := "post", desc := "(Ljava/lang/String;)Ljava/lang/String;", sig := { parameters := [(.object "java/lang/String")], returnType := some (.object "java/lang/String") }, accessFlags := 8, code := some k10c2 }
/-- com/example/pools_to_qrels/poolstoqrels/CitationIds -/
def k10 : Class := { plain "com/example/pools_to_qrels/poolstoqrels/CitationIds" (some 0) with
  accessFlags := 48
  interfaces := #[]
  cf := some (fileOf pool10 14 #[] #[{ accessFlags := 2, nameIndex := 5, descriptorIndex := 6, attributes := #[] }, { accessFlags := 8, nameIndex := 93, descriptorIndex := 94, attributes := #[] }, { accessFlags := 8, nameIndex := 102, descriptorIndex := 48, attributes := #[] }] 48 2 #[] #[{ accessFlags := 24, nameIndex := 76, descriptorIndex := 77, attributes := #[] }, { accessFlags := 26, nameIndex := 80, descriptorIndex := 81, attributes := #[] }, { accessFlags := 26, nameIndex := 83, descriptorIndex := 81, attributes := #[] }, { accessFlags := 26, nameIndex := 85, descriptorIndex := 81, attributes := #[] }, { accessFlags := 26, nameIndex := 87, descriptorIndex := 81, attributes := #[] }, { accessFlags := 26, nameIndex := 89, descriptorIndex := 81, attributes := #[] }])
  fields := #[{ name := "SEPARATOR", type := .char, accessFlags := 24, slot := 0, constantValue := 0 }, { name := "PARTS", type := .int, accessFlags := 26, slot := 1, constantValue := 0 }, { name := "THREAD", type := .int, accessFlags := 26, slot := 2, constantValue := 0 }, { name := "POST", type := .int, accessFlags := 26, slot := 3, constantValue := 0 }, { name := "OFFSET", type := .int, accessFlags := 26, slot := 4, constantValue := 0 }, { name := "LENGTH", type := .int, accessFlags := 26, slot := 5, constantValue := 0 }]
  methods := #[k10m0, k10m1, k10m2]
  instanceTypes := #[]
  staticTypes := #[.char, .int, .int, .int, .int, .int]
  resolved := Array.replicate 105 none
  statics := none }

def pool11 : Array CpInfo := pool [(1, .class_ 2), (0, u "java/lang/Appendable"), (0, .class_ 4), (0, u "java/lang/Object")] 9

/-- java/lang/Appendable -/
def k11 : Class := { plain "java/lang/Appendable" (some 0) with
  accessFlags := 1537
  interfaces := #[]
  cf := some (fileOf pool11 1 #[] #[] 1537 3 #[] #[])
  fields := #[]
  methods := #[]
  instanceTypes := #[]
  staticTypes := #[]
  resolved := Array.replicate 14 none
  statics := none }

def pool12 : Array CpInfo := pool [(1, .class_ 2), (0, u "java/lang/String"), (0, .methodref 4 5), (0, .class_ 6), (0, .nameAndType 7 8), (0, u "java/lang/Object"), (0, u "<init>"), (0, u "()V"), (1, .class_ 12), (1, u "java/lang/AbstractStringBuilder"), (0, u "EMPTYVALUE"), (0, u "[B"), (0, .fieldref 10 16), (0, .nameAndType 17 14), (0, u "value"), (0, .fieldref 1 19), (0, .nameAndType 20 21), (0, u "COMPACT_STRINGS"), (0, u "Z"), (0, .fieldref 10 23), (0, .nameAndType 24 25), (0, u "coder"), (0, u "B"), (0, .methodref 27 28), (0, .class_ 29), (0, .nameAndType 30 31), (0, u "java/lang/StringUTF16"), (0, u "newBytesFor"), (0, u "(I)[B"), (0, .methodref 1 33), (0, .nameAndType 34 35), (0, u "length"), (0, u "()I"), (4, .methodref 1 41), (0, .nameAndType 24 42), (0, u "()B"), (2, u "append"), (0, u "(Ljava/lang/String;)Ljava/lang/AbstractStringBuilder;"), (1, .class_ 49), (0, u "java/lang/CharSequence"), (19, u "(Ljava/lang/String;)V"), (5, u "maybeLatin1"), (3, .fieldref 10 80), (0, .nameAndType 81 82), (0, u "count"), (0, u "I"), (0, .methodref 10 84), (0, .nameAndType 85 86), (0, u "isLatin1"), (0, u "()Z"), (1, .class_ 90), (1, u "java/lang/StringLatin1"), (9, .methodref 10 101), (0, .nameAndType 102 103), (0, u "ensureCapacityInternal"), (0, u "(I)V"), (21, .methodref 88 126), (0, .nameAndType 127 128), (0, u "inflate"), (0, u "([BI[BII)V"), (7, u "([BII)V"), (54, .methodref 88 192), (0, .nameAndType 193 194), (0, u "canEncode"), (0, u "(C)Z"), (0, .methodref 10 196), (0, .nameAndType 127 8), (0, .methodref 27 198), (0, .nameAndType 199 136), (0, u "putCharSB"), (8, .methodref 10 209), (0, .nameAndType 210 211), (0, u "putStringAt"), (0, u "(ILjava/lang/String;)V"), (5, u "inflateIfNeededFor"), (2, .nameAndType 221 222), (0, u "getBytes"), (0, u "([BIB)V"), (69, u "(C)Ljava/lang/AbstractStringBuilder;"), (104, .methodref 10 398), (0, .nameAndType 217 69), (0, .methodref 1 220), (3, u "()[B"), (40, .class_ 445), (0, u "java/lang/Appendable"), (106, u "getValue")] 56

def k12m0 : Method := { name := "<init>", desc := "()V", sig := { parameters := [], returnType := none }, accessFlags := 0, code := none }
def k12c1 : Code := { maxStack := 2, maxLocals := 2, code := jdk_68_method_2_code, exceptionTable := #[], attributes := #[] }
def k12m1 : Method := { name := "<init>", desc := "(I)V", sig := { parameters := [.int], returnType := none }, accessFlags := 0, code := some k12c1 }
def k12c2 : Code := { maxStack := 1, maxLocals := 1, code := jdk_68_method_6_code, exceptionTable := #[], attributes := #[] }
def k12m2 : Method := { name := "length", desc := "()I", sig := { parameters := [], returnType := some .int }, accessFlags := 1, code := some k12c2 }
def k12c3 : Code := { maxStack := 4, maxLocals := 3, code := jdk_68_method_9_code, exceptionTable := #[], attributes := #[] }
def k12m3 : Method := { name := "ensureCapacityInternal", desc := "(I)V", sig := { parameters := [.int], returnType := none }, accessFlags := 2, code := some k12c3 }
def k12c4 : Code := { maxStack := 5, maxLocals := 2, code := jdk_68_method_11_code, exceptionTable := #[], attributes := #[] }
def k12m4 : Method := { name := "inflate", desc := "()V", sig := { parameters := [], returnType := none }, accessFlags := 2, code := some k12c4 }
def k12c5 : Code := { maxStack := 3, maxLocals := 3, code := jdk_68_method_22_code, exceptionTable := #[], attributes := #[] }
def k12m5 : Method := { name := "append", desc := "(Ljava/lang/String;)Ljava/lang/AbstractStringBuilder;", sig := { parameters := [(.object "java/lang/String")], returnType := some (.object "java/lang/AbstractStringBuilder") }, accessFlags := 1, code := some k12c5 }
def k12c6 : Code := { maxStack := 5, maxLocals := 2, code := jdk_68_method_31_code, exceptionTable := #[], attributes := #[] }
def k12m6 : Method := { name := "append", desc := "(C)Ljava/lang/AbstractStringBuilder;", sig := { parameters := [.char], returnType := some (.object "java/lang/AbstractStringBuilder") }, accessFlags := 1, code := some k12c6 }
def k12c7 : Code := { maxStack := 1, maxLocals := 1, code := jdk_68_method_64_code, exceptionTable := #[], attributes := #[] }
def k12m7 : Method := { name := "getValue", desc := "()[B", sig := { parameters := [], returnType := some (.array .byte) }, accessFlags := 16, code := some k12c7 }
def k12c8 : Code := { maxStack := 1, maxLocals := 1, code := jdk_68_method_68_code, exceptionTable := #[], attributes := #[] }
def k12m8 : Method := { name := "isLatin1", desc := "()Z", sig := { parameters := [], returnType := some .boolean }, accessFlags := 16, code := some k12c8 }
def k12c9 : Code := { maxStack := 2, maxLocals := 2, code := jdk_68_method_71_code, exceptionTable := #[], attributes := #[] }
def k12m9 : Method := { name := "inflateIfNeededFor", desc := "(Ljava/lang/String;)V", sig := { parameters := [(.object "java/lang/String")], returnType := none }, accessFlags := 2, code := some k12c9 }
def k12c10 : Code := { maxStack := 4, maxLocals := 3, code := jdk_68_method_73_code, exceptionTable := #[], attributes := #[] }
def k12m10 : Method := { name := "putStringAt", desc := "(ILjava/lang/String;)V", sig := { parameters := [.int, (.object "java/lang/String")], returnType := none }, accessFlags := 2, code := some k12c10 }
/-- java/lang/AbstractStringBuilder -/
def k12 : Class := { plain "java/lang/AbstractStringBuilder" (some 0) with
  accessFlags := 1056
  interfaces := #[11, 4]
  cf := some (fileOf pool12 10 #[] #[{ accessFlags := 0, nameIndex := 7, descriptorIndex := 8, attributes := #[] }, { accessFlags := 0, nameIndex := 7, descriptorIndex := 103, attributes := #[] }, { accessFlags := 1, nameIndex := 34, descriptorIndex := 35, attributes := #[] }, { accessFlags := 2, nameIndex := 102, descriptorIndex := 103, attributes := #[] }, { accessFlags := 2, nameIndex := 127, descriptorIndex := 8, attributes := #[] }, { accessFlags := 1, nameIndex := 45, descriptorIndex := 46, attributes := #[] }, { accessFlags := 1, nameIndex := 45, descriptorIndex := 292, attributes := #[] }, { accessFlags := 16, nameIndex := 552, descriptorIndex := 403, attributes := #[] }, { accessFlags := 16, nameIndex := 85, descriptorIndex := 86, attributes := #[] }, { accessFlags := 2, nameIndex := 217, descriptorIndex := 69, attributes := #[] }, { accessFlags := 2, nameIndex := 210, descriptorIndex := 211, attributes := #[] }] 1056 4 #[444, 48] #[{ accessFlags := 0, nameIndex := 17, descriptorIndex := 14, attributes := #[] }, { accessFlags := 0, nameIndex := 24, descriptorIndex := 25, attributes := #[] }, { accessFlags := 0, nameIndex := 75, descriptorIndex := 21, attributes := #[] }, { accessFlags := 0, nameIndex := 81, descriptorIndex := 82, attributes := #[] }, { accessFlags := 26, nameIndex := 13, descriptorIndex := 14, attributes := #[] }])
  fields := #[{ name := "value", type := (.array .byte), accessFlags := 0, slot := 0, constantValue := 0 }, { name := "coder", type := .byte, accessFlags := 0, slot := 1, constantValue := 0 }, { name := "maybeLatin1", type := .boolean, accessFlags := 0, slot := 2, constantValue := 0 }, { name := "count", type := .int, accessFlags := 0, slot := 3, constantValue := 0 }, { name := "EMPTYVALUE", type := (.array .byte), accessFlags := 26, slot := 0, constantValue := 0 }]
  methods := #[k12m0, k12m1, k12m2, k12m3, k12m4, k12m5, k12m6, k12m7, k12m8, k12m9, k12m10]
  instanceTypes := #[(.array .byte), .byte, .boolean, .int]
  staticTypes := #[(.array .byte)]
  resolved := Array.replicate 609 none
  statics := none }

def pool13 : Array CpInfo := pool [(1, .methodref 2 3), (0, .class_ 4), (0, .nameAndType 5 6), (0, u "java/lang/AbstractStringBuilder"), (0, u "<init>"), (0, u "(I)V"), (11, .class_ 20), (1, u "java/lang/String"), (3, .class_ 26), (1, u "java/lang/StringBuilder"), (0, u "append"), (0, u "(Ljava/lang/String;)Ljava/lang/StringBuilder;"), (0, .methodref 2 30), (0, .nameAndType 27 31), (0, u "(Ljava/lang/String;)Ljava/lang/AbstractStringBuilder;"), (18, .methodref 2 51), (0, .nameAndType 27 52), (0, u "(C)Ljava/lang/AbstractStringBuilder;"), (84, .methodref 18 138), (0, .nameAndType 5 139), (0, u "(Ljava/lang/StringBuilder;)V"), (5, u "()V"), (10, u "()I"), (129, u "(C)Ljava/lang/StringBuilder;"), (56, .methodref 2 344), (0, .nameAndType 345 156), (0, u "length"), (3, .class_ 350), (0, u "java/lang/Appendable"), (0, .class_ 352), (0, u "java/io/Serializable"), (0, .class_ 354), (0, u "java/lang/Comparable"), (0, .class_ 356), (0, u "java/lang/CharSequence"), (0, u "serialVersionUID"), (0, u "J"), (40, u "toString"), (0, u "()Ljava/lang/String;")] 21

def k13c0 : Code := { maxStack := 2, maxLocals := 1, code := jdk_67_method_1_code, exceptionTable := #[], attributes := #[] }
def k13m0 : Method := { name := "<init>", desc := "()V", sig := { parameters := [], returnType := none }, accessFlags := 1, code := some k13c0 }
def k13c1 : Code := { maxStack := 2, maxLocals := 2, code := jdk_67_method_7_code, exceptionTable := #[], attributes := #[] }
def k13m1 : Method := { name := "append", desc := "(Ljava/lang/String;)Ljava/lang/StringBuilder;", sig := { parameters := [(.object "java/lang/String")], returnType := some (.object "java/lang/StringBuilder") }, accessFlags := 1, code := some k13c1 }
def k13c2 : Code := { maxStack := 2, maxLocals := 2, code := jdk_67_method_14_code, exceptionTable := #[], attributes := #[] }
def k13m2 : Method := { name := "append", desc := "(C)Ljava/lang/StringBuilder;", sig := { parameters := [.char], returnType := some (.object "java/lang/StringBuilder") }, accessFlags := 1, code := some k13c2 }
def k13c3 : Code := { maxStack := 3, maxLocals := 1, code := jdk_67_method_42_code, exceptionTable := #[], attributes := #[] }
def k13m3 : Method := { name := "toString", desc := "()Ljava/lang/String;", sig := { parameters := [], returnType := some (.object "java/lang/String") }, accessFlags := 1, code := some k13c3 }
def k13c4 : Code := { maxStack := 1, maxLocals := 1, code := jdk_67_method_93_code, exceptionTable := #[], attributes := #[] }
def k13m4 : Method := { name := "length", desc := "()I", sig := { parameters := [], returnType := some .int }, accessFlags := 4161, code := some k13c4 }
/-- java/lang/StringBuilder -/
def k13 : Class := { plain "java/lang/StringBuilder" (some 12) with
  accessFlags := 49
  interfaces := #[11, 2, 3, 4]
  cf := some (fileOf pool13 24 #[] #[{ accessFlags := 1, nameIndex := 5, descriptorIndex := 145, attributes := #[] }, { accessFlags := 1, nameIndex := 27, descriptorIndex := 28, attributes := #[] }, { accessFlags := 1, nameIndex := 27, descriptorIndex := 286, attributes := #[] }, { accessFlags := 1, nameIndex := 399, descriptorIndex := 400, attributes := #[] }, { accessFlags := 4161, nameIndex := 345, descriptorIndex := 156, attributes := #[] }] 49 2 #[349, 351, 353, 355] #[{ accessFlags := 24, nameIndex := 357, descriptorIndex := 358, attributes := #[] }])
  fields := #[{ name := "serialVersionUID", type := .long, accessFlags := 24, slot := 0, constantValue := 0 }]
  methods := #[k13m0, k13m1, k13m2, k13m3, k13m4]
  instanceTypes := #[(.array .byte), .byte, .boolean, .int]
  staticTypes := #[.long]
  resolved := Array.replicate 422 none
  statics := none }

def pool14 : Array CpInfo := pool [(2, .class_ 4), (1, u "java/lang/Object"), (0, u "<init>"), (0, u "()V"), (1, .class_ 10), (1, u "java/lang/System"), (0, u "allowSecurityManager"), (0, u "I"), (16, u "cons"), (0, u "Ljava/io/Console;"), (77, .class_ 110), (1, u "java/lang/System$CallersHolder"), (43, u "initialErrStream"), (0, u "Ljava/io/PrintStream;"), (19, u "security"), (0, u "Ljava/lang/SecurityManager;"), (31, .class_ 209), (0, u "java/lang/System$1"), (7, u "props"), (0, u "Ljava/util/Properties;"), (2, u "lineSeparator"), (0, u "Ljava/lang/String;"), (96, .class_ 321), (1, u "java/lang/System$LoggerFinder"), (5, .class_ 328), (0, u "java/lang/System$Logger"), (67, u "err"), (2, u "out"), (91, u "notSupportedJnuEncoding"), (15, u "in"), (17, u "initialIn"), (0, u "Ljava/io/InputStream;"), (35, u "bootLayer"), (0, u "Ljava/lang/ModuleLayer;"), (99, .class_ 664), (0, u "java/lang/System$2"), (9, u "NEVER"), (2, u "MAYBE"), (49, u "arraycopy"), (0, u "(Ljava/lang/Object;ILjava/lang/Object;II)V"), (72, .class_ 802), (0, u "java/lang/System$Logger$Level")] 31

def k14m0 : Method := { name := "<init>", desc := "()V", sig := { parameters := [], returnType := none }, accessFlags := 2, code := none }
def k14m1 : Method := { name := "arraycopy", desc := "(Ljava/lang/Object;ILjava/lang/Object;II)V", sig := { parameters := [(.object "java/lang/Object"), .int, (.object "java/lang/Object"), .int, .int], returnType := none }, accessFlags := 265, code := none }
/-- java/lang/System -/
def k14 : Class := { plain "java/lang/System" (some 0) with
  accessFlags := 49
  interfaces := #[]
  cf := some (fileOf pool14 8 #[.nestMembers #[319, 327, 801, 108, 663, 208]] #[{ accessFlags := 2, nameIndex := 5, descriptorIndex := 6, attributes := #[] }, { accessFlags := 265, nameIndex := 727, descriptorIndex := 728, attributes := #[] }] 49 2 #[] #[{ accessFlags := 25, nameIndex := 507, descriptorIndex := 526, attributes := #[] }, { accessFlags := 25, nameIndex := 399, descriptorIndex := 155, attributes := #[] }, { accessFlags := 25, nameIndex := 396, descriptorIndex := 155, attributes := #[] }, { accessFlags := 10, nameIndex := 525, descriptorIndex := 526, attributes := #[] }, { accessFlags := 26, nameIndex := 674, descriptorIndex := 12, attributes := #[] }, { accessFlags := 26, nameIndex := 677, descriptorIndex := 12, attributes := #[] }, { accessFlags := 10, nameIndex := 11, descriptorIndex := 12, attributes := #[] }, { accessFlags := 74, nameIndex := 175, descriptorIndex := 176, attributes := #[] }, { accessFlags := 10, nameIndex := 491, descriptorIndex := 222, attributes := #[] }, { accessFlags := 74, nameIndex := 29, descriptorIndex := 30, attributes := #[] }, { accessFlags := 74, nameIndex := 154, descriptorIndex := 155, attributes := #[] }, { accessFlags := 10, nameIndex := 217, descriptorIndex := 218, attributes := #[] }, { accessFlags := 10, nameIndex := 221, descriptorIndex := 222, attributes := #[] }, { accessFlags := 8, nameIndex := 562, descriptorIndex := 563, attributes := #[] }])
  fields := #[{ name := "in", type := (.object "java/io/InputStream"), accessFlags := 25, slot := 0, constantValue := 0 }, { name := "out", type := (.object "java/io/PrintStream"), accessFlags := 25, slot := 1, constantValue := 0 }, { name := "err", type := (.object "java/io/PrintStream"), accessFlags := 25, slot := 2, constantValue := 0 }, { name := "initialIn", type := (.object "java/io/InputStream"), accessFlags := 10, slot := 3, constantValue := 0 }, { name := "NEVER", type := .int, accessFlags := 26, slot := 4, constantValue := 0 }, { name := "MAYBE", type := .int, accessFlags := 26, slot := 5, constantValue := 0 }, { name := "allowSecurityManager", type := .int, accessFlags := 10, slot := 6, constantValue := 0 }, { name := "security", type := (.object "java/lang/SecurityManager"), accessFlags := 74, slot := 7, constantValue := 0 }, { name := "notSupportedJnuEncoding", type := (.object "java/lang/String"), accessFlags := 10, slot := 8, constantValue := 0 }, { name := "cons", type := (.object "java/io/Console"), accessFlags := 74, slot := 9, constantValue := 0 }, { name := "initialErrStream", type := (.object "java/io/PrintStream"), accessFlags := 74, slot := 10, constantValue := 0 }, { name := "props", type := (.object "java/util/Properties"), accessFlags := 10, slot := 11, constantValue := 0 }, { name := "lineSeparator", type := (.object "java/lang/String"), accessFlags := 10, slot := 12, constantValue := 0 }, { name := "bootLayer", type := (.object "java/lang/ModuleLayer"), accessFlags := 8, slot := 13, constantValue := 0 }]
  methods := #[k14m0, k14m1]
  instanceTypes := #[]
  staticTypes := #[(.object "java/io/InputStream"), (.object "java/io/PrintStream"), (.object "java/io/PrintStream"), (.object "java/io/InputStream"), .int, .int, .int, (.object "java/lang/SecurityManager"), (.object "java/lang/String"), (.object "java/io/Console"), (.object "java/io/PrintStream"), (.object "java/util/Properties"), (.object "java/lang/String"), (.object "java/lang/ModuleLayer")]
  resolved := Array.replicate 834 none
  statics := none }

def pool15 : Array CpInfo := pool [(2, .class_ 4), (1, u "java/lang/Object"), (0, u "<init>"), (0, u "()V"), (7, .class_ 16), (1, u "java/util/Arrays"), (57, .class_ 76), (1, u "java/util/Arrays$NaturalOrder"), (36, .class_ 115), (1, u "java/util/Arrays$LegacyMergeSort"), (1, u "Z"), (21, u "copyOfRange"), (10, .methodref 151 152), (0, .class_ 153), (0, .nameAndType 154 155), (0, u "java/lang/System"), (0, u "arraycopy"), (0, u "(Ljava/lang/Object;ILjava/lang/Object;II)V"), (148, .methodref 305 306), (0, .class_ 307), (0, .nameAndType 308 309), (0, u "java/lang/Math"), (0, u "min"), (0, u "(II)I"), (29, .methodref 14 340), (0, .nameAndType 341 342), (0, u "copyOfRangeByte"), (0, u "([BII)[B"), (0, .methodref 14 344), (0, .nameAndType 345 346), (0, u "checkLength"), (0, u "(II)V"), (28, .class_ 376), (0, u "java/util/Arrays$ArrayList"), (68, u "$assertionsDisabled"), (269, u "MIN_ARRAY_SORT_GRAN"), (0, u "I"), (2, u "INSERTIONSORT_THRESHOLD"), (255, .class_ 976), (0, u "java/util/Arrays$ArrayItr")] 52

def k15m0 : Method := { name := "<init>", desc := "()V", sig := { parameters := [], returnType := none }, accessFlags := 2, code := none }
def k15c1 : Code := { maxStack := 4, maxLocals := 2, code := jdk_65_method_131_code, exceptionTable := #[], attributes := #[] }
def k15m1 : Method := { name := "checkLength", desc := "(II)V", sig := { parameters := [.int, .int], returnType := none }, accessFlags := 10, code := some k15c1 }
def k15c2 : Code := { maxStack := 3, maxLocals := 3, code := jdk_65_method_132_code, exceptionTable := #[], attributes := #[] }
def k15m2 : Method := { name := "copyOfRange", desc := "([BII)[B", sig := { parameters := [(.array .byte), .int, .int], returnType := some (.array .byte) }, accessFlags := 9, code := some k15c2 }
def k15c3 : Code := { maxStack := 6, maxLocals := 5, code := jdk_65_method_133_code, exceptionTable := #[], attributes := #[] }
def k15m3 : Method := { name := "copyOfRangeByte", desc := "([BII)[B", sig := { parameters := [(.array .byte), .int, .int], returnType := some (.array .byte) }, accessFlags := 10, code := some k15c3 }
/-- java/util/Arrays -/
def k15 : Class := { plain "java/util/Arrays" (some 0) with
  accessFlags := 49
  interfaces := #[]
  cf := some (fileOf pool15 14 #[.nestMembers #[975, 375, 113, 74]] #[{ accessFlags := 2, nameIndex := 5, descriptorIndex := 6, attributes := #[] }, { accessFlags := 10, nameIndex := 345, descriptorIndex := 346, attributes := #[] }, { accessFlags := 9, nameIndex := 139, descriptorIndex := 342, attributes := #[] }, { accessFlags := 10, nameIndex := 341, descriptorIndex := 342, attributes := #[] }] 49 2 #[] #[{ accessFlags := 26, nameIndex := 715, descriptorIndex := 716, attributes := #[] }, { accessFlags := 26, nameIndex := 719, descriptorIndex := 716, attributes := #[] }, { accessFlags := 4120, nameIndex := 445, descriptorIndex := 117, attributes := #[] }])
  fields := #[{ name := "MIN_ARRAY_SORT_GRAN", type := .int, accessFlags := 26, slot := 0, constantValue := 0 }, { name := "INSERTIONSORT_THRESHOLD", type := .int, accessFlags := 26, slot := 1, constantValue := 0 }, { name := "$assertionsDisabled", type := .boolean, accessFlags := 4120, slot := 2, constantValue := 0 }]
  methods := #[k15m0, k15m1, k15m2, k15m3]
  instanceTypes := #[]
  staticTypes := #[.int, .int, .boolean]
  resolved := Array.replicate 1029 none
  statics := none }

def pool16 : Array CpInfo := pool [(1, .class_ 2), (0, u "java/lang/Math"), (1, .class_ 6), (1, u "java/lang/Object"), (0, u "<init>"), (0, u "()V"), (89, .class_ 100), (1, u "java/lang/Math$RandomNumberGeneratorHolder"), (71, u "negativeZeroFloatBits"), (0, u "J"), (2, u "negativeZeroDoubleBits"), (21, u "max"), (2, u "min"), (43, u "$assertionsDisabled"), (0, u "Z"), (88, u "(II)I"), (2, u "twoToTheDoubleScaleDown"), (0, u "D"), (4, u "twoToTheDoubleScaleUp"), (9, u "E"), (3, u "PI"), (2, u "TAU"), (2, u "DEGREES_TO_RADIANS"), (0, u "RADIANS_TO_DEGREES")] 94

def k16m0 : Method := { name := "<init>", desc := "()V", sig := { parameters := [], returnType := none }, accessFlags := 2, code := none }
def k16c1 : Code := { maxStack := 2, maxLocals := 2, code := jdk_29_method_65_code, exceptionTable := #[], attributes := #[] }
def k16m1 : Method := { name := "max", desc := "(II)I", sig := { parameters := [.int, .int], returnType := some .int }, accessFlags := 9, code := some k16c1 }
def k16c2 : Code := { maxStack := 2, maxLocals := 2, code := jdk_29_method_69_code, exceptionTable := #[], attributes := #[] }
def k16m2 : Method := { name := "min", desc := "(II)I", sig := { parameters := [.int, .int], returnType := some .int }, accessFlags := 9, code := some k16c2 }
/-- java/lang/Math -/
def k16 : Class := { plain "java/lang/Math" (some 0) with
  accessFlags := 49
  interfaces := #[]
  cf := some (fileOf pool16 1 #[.nestMembers #[98]] #[{ accessFlags := 2, nameIndex := 7, descriptorIndex := 8, attributes := #[] }, { accessFlags := 9, nameIndex := 198, descriptorIndex := 335, attributes := #[] }, { accessFlags := 9, nameIndex := 201, descriptorIndex := 335, attributes := #[] }] 49 4 #[] #[{ accessFlags := 25, nameIndex := 354, descriptorIndex := 339, attributes := #[] }, { accessFlags := 25, nameIndex := 358, descriptorIndex := 339, attributes := #[] }, { accessFlags := 25, nameIndex := 361, descriptorIndex := 339, attributes := #[] }, { accessFlags := 26, nameIndex := 364, descriptorIndex := 339, attributes := #[] }, { accessFlags := 26, nameIndex := 365, descriptorIndex := 339, attributes := #[] }, { accessFlags := 26, nameIndex := 172, descriptorIndex := 173, attributes := #[] }, { accessFlags := 26, nameIndex := 176, descriptorIndex := 173, attributes := #[] }, { accessFlags := 8, nameIndex := 344, descriptorIndex := 339, attributes := #[] }, { accessFlags := 8, nameIndex := 338, descriptorIndex := 339, attributes := #[] }, { accessFlags := 4120, nameIndex := 245, descriptorIndex := 246, attributes := #[] }])
  fields := #[{ name := "E", type := .double, accessFlags := 25, slot := 0, constantValue := 0 }, { name := "PI", type := .double, accessFlags := 25, slot := 1, constantValue := 0 }, { name := "TAU", type := .double, accessFlags := 25, slot := 2, constantValue := 0 }, { name := "DEGREES_TO_RADIANS", type := .double, accessFlags := 26, slot := 3, constantValue := 0 }, { name := "RADIANS_TO_DEGREES", type := .double, accessFlags := 26, slot := 4, constantValue := 0 }, { name := "negativeZeroFloatBits", type := .long, accessFlags := 26, slot := 5, constantValue := 0 }, { name := "negativeZeroDoubleBits", type := .long, accessFlags := 26, slot := 6, constantValue := 0 }, { name := "twoToTheDoubleScaleUp", type := .double, accessFlags := 8, slot := 7, constantValue := 0 }, { name := "twoToTheDoubleScaleDown", type := .double, accessFlags := 8, slot := 8, constantValue := 0 }, { name := "$assertionsDisabled", type := .boolean, accessFlags := 4120, slot := 9, constantValue := 0 }]
  methods := #[k16m0, k16m1, k16m2]
  instanceTypes := #[]
  staticTypes := #[.double, .double, .double, .double, .double, .long, .long, .double, .double, .boolean]
  resolved := Array.replicate 460 none
  statics := none }

def pool17 : Array CpInfo := pool [(2, .class_ 4), (1, u "java/lang/Object"), (0, u "<init>"), (0, u "()V"), (17, .class_ 26), (1, u "jdk/internal/util/Preconditions"), (6, u "checkIndex"), (13, u "checkFromToIndex"), (1, u "checkFromIndexSize"), (5, .class_ 56), (0, u "jdk/internal/util/Preconditions$4"), (57, .class_ 115), (0, u "jdk/internal/util/Preconditions$1"), (7, u "SIOOBE_FORMATTER"), (0, u "Ljava/util/function/BiFunction;"), (0, .class_ 126), (0, u "jdk/internal/util/Preconditions$2"), (3, u "AIOOBE_FORMATTER"), (0, .class_ 132), (0, u "jdk/internal/util/Preconditions$3"), (3, u "IOOBE_FORMATTER"), (41, u "(IILjava/util/function/BiFunction;)I"), (4, u "(IIILjava/util/function/BiFunction;)I")] 10

def k17m0 : Method := { name := "<init>", desc := "()V", sig := { parameters := [], returnType := none }, accessFlags := 1, code := none }
def k17c1 : Code := { maxStack := 3, maxLocals := 3, code := jdk_41_method_11_code, exceptionTable := #[], attributes := #[] }
def k17m1 : Method := { name := "checkIndex", desc := "(IILjava/util/function/BiFunction;)I", sig := { parameters := [.int, .int, (.object "java/util/function/BiFunction")], returnType := some .int }, accessFlags := 9, code := some k17c1 }
def k17c2 : Code := { maxStack := 4, maxLocals := 4, code := jdk_41_method_12_code, exceptionTable := #[], attributes := #[] }
def k17m2 : Method := { name := "checkFromToIndex", desc := "(IIILjava/util/function/BiFunction;)I", sig := { parameters := [.int, .int, .int, (.object "java/util/function/BiFunction")], returnType := some .int }, accessFlags := 9, code := some k17c2 }
def k17c3 : Code := { maxStack := 4, maxLocals := 4, code := jdk_41_method_13_code, exceptionTable := #[], attributes := #[] }
def k17m3 : Method := { name := "checkFromIndexSize", desc := "(IIILjava/util/function/BiFunction;)I", sig := { parameters := [.int, .int, .int, (.object "java/util/function/BiFunction")], returnType := some .int }, accessFlags := 9, code := some k17c3 }
/-- jdk/internal/util/Preconditions -/
def k17 : Class := { plain "jdk/internal/util/Preconditions" (some 0) with
  accessFlags := 33
  interfaces := #[]
  cf := some (fileOf pool17 24 #[.nestMembers #[55, 131, 125, 114]] #[{ accessFlags := 1, nameIndex := 5, descriptorIndex := 6, attributes := #[] }, { accessFlags := 9, nameIndex := 33, descriptorIndex := 178, attributes := #[] }, { accessFlags := 9, nameIndex := 47, descriptorIndex := 183, attributes := #[] }, { accessFlags := 9, nameIndex := 49, descriptorIndex := 183, attributes := #[] }] 33 2 #[] #[{ accessFlags := 25, nameIndex := 123, descriptorIndex := 124, attributes := #[] }, { accessFlags := 25, nameIndex := 130, descriptorIndex := 124, attributes := #[] }, { accessFlags := 25, nameIndex := 136, descriptorIndex := 124, attributes := #[] }])
  fields := #[{ name := "SIOOBE_FORMATTER", type := (.object "java/util/function/BiFunction"), accessFlags := 25, slot := 0, constantValue := 0 }, { name := "AIOOBE_FORMATTER", type := (.object "java/util/function/BiFunction"), accessFlags := 25, slot := 1, constantValue := 0 }, { name := "IOOBE_FORMATTER", type := (.object "java/util/function/BiFunction"), accessFlags := 25, slot := 2, constantValue := 0 }]
  methods := #[k17m0, k17m1, k17m2, k17m3]
  instanceTypes := #[]
  staticTypes := #[(.object "java/util/function/BiFunction"), (.object "java/util/function/BiFunction"), (.object "java/util/function/BiFunction")]
  resolved := Array.replicate 194 none
  statics := some 2 }

def pool18 : Array CpInfo := pool [(9, u "<init>"), (6, .class_ 18), (1, u "java/lang/Object"), (0, u "()V"), (1, .class_ 23), (1, u "jdk/internal/util/ArraysSupport"), (0, u "LOG2_ARRAY_LONG_INDEX_SCALE"), (0, u "I"), (2, u "U"), (0, u "Ljdk/internal/misc/Unsafe;"), (8, u "BIG_ENDIAN"), (0, u "Z"), (8, u "LOG2_BYTE_BIT_SIZE"), (4, u "LOG2_ARRAY_INT_INDEX_SCALE"), (54, u "JLA"), (0, u "Ljdk/internal/access/JavaLangAccess;"), (11, u "LOG2_ARRAY_BOOLEAN_INDEX_SCALE"), (9, u "LOG2_ARRAY_BYTE_INDEX_SCALE"), (5, u "LOG2_ARRAY_CHAR_INDEX_SCALE"), (5, u "LOG2_ARRAY_SHORT_INDEX_SCALE"), (18, u "LOG2_ARRAY_FLOAT_INDEX_SCALE"), (24, u "LOG2_ARRAY_DOUBLE_INDEX_SCALE"), (89, u "T_BOOLEAN"), (2, u "T_CHAR"), (1, u "T_FLOAT"), (1, u "T_DOUBLE"), (1, u "T_BYTE"), (1, u "T_SHORT"), (1, u "T_INT"), (1, u "T_LONG"), (1, u "SOFT_MAX_ARRAY_LENGTH")] 83

def k18m0 : Method := { name := "<init>", desc := "()V", sig := { parameters := [], returnType := none }, accessFlags := 2, code := none }
/-- jdk/internal/util/ArraysSupport -/
def k18 : Class := { plain "jdk/internal/util/ArraysSupport" (some 0) with
  accessFlags := 33
  interfaces := #[]
  cf := some (fileOf pool18 21 #[] #[{ accessFlags := 2, nameIndex := 9, descriptorIndex := 19, attributes := #[] }] 33 16 #[] #[{ accessFlags := 24, nameIndex := 28, descriptorIndex := 29, attributes := #[] }, { accessFlags := 26, nameIndex := 38, descriptorIndex := 39, attributes := #[] }, { accessFlags := 25, nameIndex := 121, descriptorIndex := 25, attributes := #[] }, { accessFlags := 25, nameIndex := 131, descriptorIndex := 25, attributes := #[] }, { accessFlags := 25, nameIndex := 137, descriptorIndex := 25, attributes := #[] }, { accessFlags := 25, nameIndex := 143, descriptorIndex := 25, attributes := #[] }, { accessFlags := 25, nameIndex := 53, descriptorIndex := 25, attributes := #[] }, { accessFlags := 25, nameIndex := 24, descriptorIndex := 25, attributes := #[] }, { accessFlags := 25, nameIndex := 162, descriptorIndex := 25, attributes := #[] }, { accessFlags := 25, nameIndex := 187, descriptorIndex := 25, attributes := #[] }, { accessFlags := 26, nameIndex := 48, descriptorIndex := 25, attributes := #[] }, { accessFlags := 25, nameIndex := 277, descriptorIndex := 25, attributes := #[] }, { accessFlags := 25, nameIndex := 280, descriptorIndex := 25, attributes := #[] }, { accessFlags := 25, nameIndex := 282, descriptorIndex := 25, attributes := #[] }, { accessFlags := 25, nameIndex := 284, descriptorIndex := 25, attributes := #[] }, { accessFlags := 25, nameIndex := 286, descriptorIndex := 25, attributes := #[] }, { accessFlags := 25, nameIndex := 288, descriptorIndex := 25, attributes := #[] }, { accessFlags := 25, nameIndex := 290, descriptorIndex := 25, attributes := #[] }, { accessFlags := 25, nameIndex := 292, descriptorIndex := 25, attributes := #[] }, { accessFlags := 26, nameIndex := 108, descriptorIndex := 109, attributes := #[] }, { accessFlags := 25, nameIndex := 294, descriptorIndex := 25, attributes := #[] }])
  fields := #[{ name := "U", type := (.object "jdk/internal/misc/Unsafe"), accessFlags := 24, slot := 0, constantValue := 0 }, { name := "BIG_ENDIAN", type := .boolean, accessFlags := 26, slot := 1, constantValue := 0 }, { name := "LOG2_ARRAY_BOOLEAN_INDEX_SCALE", type := .int, accessFlags := 25, slot := 2, constantValue := 0 }, { name := "LOG2_ARRAY_BYTE_INDEX_SCALE", type := .int, accessFlags := 25, slot := 3, constantValue := 0 }, { name := "LOG2_ARRAY_CHAR_INDEX_SCALE", type := .int, accessFlags := 25, slot := 4, constantValue := 0 }, { name := "LOG2_ARRAY_SHORT_INDEX_SCALE", type := .int, accessFlags := 25, slot := 5, constantValue := 0 }, { name := "LOG2_ARRAY_INT_INDEX_SCALE", type := .int, accessFlags := 25, slot := 6, constantValue := 0 }, { name := "LOG2_ARRAY_LONG_INDEX_SCALE", type := .int, accessFlags := 25, slot := 7, constantValue := 0 }, { name := "LOG2_ARRAY_FLOAT_INDEX_SCALE", type := .int, accessFlags := 25, slot := 8, constantValue := 0 }, { name := "LOG2_ARRAY_DOUBLE_INDEX_SCALE", type := .int, accessFlags := 25, slot := 9, constantValue := 0 }, { name := "LOG2_BYTE_BIT_SIZE", type := .int, accessFlags := 26, slot := 10, constantValue := 0 }, { name := "T_BOOLEAN", type := .int, accessFlags := 25, slot := 11, constantValue := 0 }, { name := "T_CHAR", type := .int, accessFlags := 25, slot := 12, constantValue := 0 }, { name := "T_FLOAT", type := .int, accessFlags := 25, slot := 13, constantValue := 0 }, { name := "T_DOUBLE", type := .int, accessFlags := 25, slot := 14, constantValue := 0 }, { name := "T_BYTE", type := .int, accessFlags := 25, slot := 15, constantValue := 0 }, { name := "T_SHORT", type := .int, accessFlags := 25, slot := 16, constantValue := 0 }, { name := "T_INT", type := .int, accessFlags := 25, slot := 17, constantValue := 0 }, { name := "T_LONG", type := .int, accessFlags := 25, slot := 18, constantValue := 0 }, { name := "JLA", type := (.object "jdk/internal/access/JavaLangAccess"), accessFlags := 26, slot := 19, constantValue := 0 }, { name := "SOFT_MAX_ARRAY_LENGTH", type := .int, accessFlags := 25, slot := 20, constantValue := 0 }]
  methods := #[k18m0]
  instanceTypes := #[]
  staticTypes := #[(.object "jdk/internal/misc/Unsafe"), .boolean, .int, .int, .int, .int, .int, .int, .int, .int, .int, .int, .int, .int, .int, .int, .int, .int, .int, (.object "jdk/internal/access/JavaLangAccess"), .int]
  resolved := Array.replicate 378 none
  statics := none }

def pool19 : Array CpInfo := pool [(1, u "java/lang/Cloneable"), (0, .class_ 1), (0, u "java/lang/Object"), (0, .class_ 3)] 3

/-- java/lang/Cloneable -/
def k19 : Class := { plain "java/lang/Cloneable" (some 0) with
  accessFlags := 1537
  interfaces := #[]
  cf := some (fileOf pool19 2 #[] #[] 1537 4 #[] #[])
  fields := #[]
  methods := #[]
  instanceTypes := #[]
  staticTypes := #[]
  resolved := Array.replicate 8 none
  statics := none }

/-- the primitive byte -/
def k20 : Class := { plain "byte" none with kind := .primitive 'B', accessFlags := 0x411 }
/-- [B -/
def k21 : Class := { plain "[B" (some 0) with kind := .array 20 .byte, interfaces := #[19, 2], accessFlags := 1041 }

/-- the primitive char -/
def k22 : Class := { plain "char" none with kind := .primitive 'C', accessFlags := 0x411 }
/-- [C -/
def k23 : Class := { plain "[C" (some 0) with kind := .array 22 .char, interfaces := #[19, 2], accessFlags := 1041 }

/-- the primitive int -/
def k24 : Class := { plain "int" none with kind := .primitive 'I', accessFlags := 0x411 }
/-- [I -/
def k25 : Class := { plain "[I" (some 0) with kind := .array 24 .int, interfaces := #[19, 2], accessFlags := 1041 }

def heap : Heap := #[{ cls := 7, slots := #[.long 0, .int 1, .null, .int 0, .null, .int 0, .int 0], vm := .statics 7 },
  { cls := 8, slots := #[.int 0, .int 8, .int 0, .int 1], vm := .statics 8 },
  { cls := 17, slots := #[.null, .null, .null], vm := .statics 17 }]
def classes : Array Class := #[k0, k1, k2, k3, k4, k5, k6, k7, k8, k9, k10, k11, k12, k13, k14, k15, k16, k17, k18, k19, k20, k21, k22, k23, k24, k25]
def interned : List (Array UInt16 × Addr) := []
def slotsUsed : Nat := 14
def theMethod : MethodId := ⟨1, 4⟩
def args0 : Array Value := #[.int 5, .int 70, .int 3, .int 9]
def aboutOver (below : List Frame) : State where
  vm := { classes := classes, interned := interned.toArray }
  heap := heap
  slotsUsed := slotsUsed
  threads := #[{ frames := .invoking theMethod args0 :: below }]
def below0 : List Frame := [.native { method := ⟨0, 0⟩, args := #[] }]
def about1 : State := aboutOver below0
def p0 : Program := .bare "" "" ""
def e0 : Env := launch0.env 0 0 0
theorem w_frames : about1.frames = Frame.invoking theMethod args0 :: below0 := rfl
set_option maxRecDepth 65536 in
theorem w_args : argsFit about1.vm theMethod args0 = true := by decide +kernel
set_option maxRecDepth 65536 in
theorem w_heap : heapFits about1 = true := by decide +kernel
set_option maxRecDepth 65536 in
theorem w_runnable : about1.curStatus? = some .runnable := by decide +kernel
set_option maxRecDepth 65536 in
theorem w_alone : about1.alone = true := by decide +kernel
set_option maxRecDepth 65536 in
theorem w_named : about1.methodNamed? x = some theMethod := by decide +kernel
set_option maxRecDepth 65536 in
theorem w_hears : about1.hears theMethod below0 = true := by decide +kernel
set_option maxRecDepth 65536 in
theorem w_ripe : about1.ripe theMethod args0 below0 = true := by decide +kernel
theorem w_running : about1.status = .running := rfl
set_option maxRecDepth 65536 in
theorem w_room : about1.hasRoom e0.platform room_1 = true :=
  launch0.hasRoom_least _ room_1 (by decide +kernel) (by decide +kernel) (by decide +kernel) (by decide +kernel) (by decide +kernel) (by decide +kernel)
theorem allAtoms_all (ts : List Jvm.Cond) (a : Array Jvm.Value) (st : Jvm.State) : (allAtoms ts).before a st = ts.all (fun c => c.before a st) := by
  induction ts with
  | nil => rfl
  | cons c t ih =>
    show (Jvm.Cond.and c (allAtoms t)).before a st = _
    rw [Jvm.Cond.before_and, ih, List.all_cons]
def words1 : List Jvm.Cond := Jvm.Cond.code x code maxLocals ret :: tables_1
/-- a 'code' word, met by the world's own term for the bytes: nothing is compared byte by byte -/
theorem code_word {y : MethodName} {bytes : ByteArray} {mx : Nat} {rt : Option FieldType} {a : Array Value} {s : State} {m : MethodId} {meth : Method} {c : Code} (h1 : s.methodNamed? y = some m) (h2 : s.vm.method? m = some meth) (h3 : meth.code = some c) (h4 : c.code = bytes)
    (h5 : (c.maxLocals == mx && c.exceptionTable.isEmpty && decide (c.maxStack ≤ mostOperands) && decide (meth.sig.returnType = rt) && !meth.locks && decide (parseMethodDescriptor y.desc = some meth.sig)) = true) : (Jvm.Cond.code y bytes mx rt).before a s = true := by
  simp only [Bool.and_eq_true, beq_iff_eq, Bool.not_eq_true', decide_eq_true_eq] at h5
  obtain ⟨⟨⟨⟨⟨g1, g2⟩, g3⟩, g4⟩, g5⟩, g6⟩ := h5
  simp [Cond.before, Cond.holds, Cond.value, h1, h2, h3, h4, g1, g2, g3, g4, g5, g6]
def isCode : Jvm.Cond → Bool
  | .code _ _ _ _ => true
  | _ => false
theorem all_split {L : List Jvm.Cond} {P : Jvm.Cond → Bool} (h1 : L.all (fun c => isCode c || P c) = true) (h2 : ∀ c ∈ L.filter isCode, P c = true) : L.all P = true := by
  refine List.all_eq_true.mpr fun c hc => ?_
  have h := List.all_eq_true.mp h1 c hc
  rcases Bool.eq_false_or_eq_true (isCode c) with hi | hi
  · exact h2 c (List.mem_filter.mpr ⟨hc, hi⟩)
  · simpa [hi] using h
set_option maxRecDepth 65536 in
theorem w_c0 : (Jvm.Cond.code x code maxLocals ret).before args0 about1 = true := code_word (m := ⟨1, 4⟩) (meth := k1m4) (c := k1c4) (by decide +kernel) rfl rfl rfl (by decide +kernel)
set_option maxRecDepth 65536 in
theorem w_c1 : (Jvm.Cond.code ({ cls := "com/example/pools_to_qrels/poolstoqrels/CitationIdsPostPinLaw", name := "ch", desc := "(I)C" } : Jvm.MethodName) method_2_code (2 : Nat) (Option.some Jvm.ClassFile.FieldType.char)).before args0 about1 = true := code_word (m := ⟨1, 1⟩) (meth := k1m1) (c := k1c1) (by decide +kernel) rfl rfl rfl (by decide +kernel)
set_option maxRecDepth 65536 in
theorem w_c2 : (Jvm.Cond.code ({ cls := "com/example/pools_to_qrels/poolstoqrels/CitationIdsPostPinLaw", name := "digit", desc := "(I)C" } : Jvm.MethodName) method_3_code (1 : Nat) (Option.some Jvm.ClassFile.FieldType.char)).before args0 about1 = true := code_word (m := ⟨1, 2⟩) (meth := k1m2) (c := k1c2) (by decide +kernel) rfl rfl rfl (by decide +kernel)
set_option maxRecDepth 65536 in
theorem w_c3 : (Jvm.Cond.code ({ cls := "com/example/pools_to_qrels/poolstoqrels/CitationIdsPostPinLaw", name := "part", desc := "(ZCC)Ljava/lang/String;" } : Jvm.MethodName) method_4_code (3 : Nat) (Option.some (Jvm.ClassFile.FieldType.object "java/lang/String"))).before args0 about1 = true := code_word (m := ⟨1, 3⟩) (meth := k1m3) (c := k1c3) (by decide +kernel) rfl rfl rfl (by decide +kernel)
set_option maxRecDepth 65536 in
theorem w_c4 : (Jvm.Cond.code ({ cls := "java/lang/String", name := "<init>", desc := "([C)V" } : Jvm.MethodName) jdk_42_method_3_code (2 : Nat) (Option.none : Option Jvm.ClassFile.FieldType)).before args0 about1 = true := code_word (m := ⟨7, 1⟩) (meth := k7m1) (c := k7c1) (by decide +kernel) rfl rfl rfl (by decide +kernel)
set_option maxRecDepth 65536 in
theorem w_c5 : (Jvm.Cond.code ({ cls := "java/lang/String", name := "<init>", desc := "([CIILjava/lang/Void;)V" } : Jvm.MethodName) jdk_42_method_149_code (6 : Nat) (Option.none : Option Jvm.ClassFile.FieldType)).before args0 about1 = true := code_word (m := ⟨7, 10⟩) (meth := k7m10) (c := k7c10) (by decide +kernel) rfl rfl rfl (by decide +kernel)
set_option maxRecDepth 65536 in
theorem w_c6 : (Jvm.Cond.code ({ cls := "java/lang/Object", name := "<init>", desc := "()V" } : Jvm.MethodName) object_method_1_code (1 : Nat) (Option.none : Option Jvm.ClassFile.FieldType)).before args0 about1 = true := code_word (m := ⟨0, 0⟩) (meth := k0m0) (c := k0c0) (by decide +kernel) rfl rfl rfl (by decide +kernel)
set_option maxRecDepth 65536 in
theorem w_c7 : (Jvm.Cond.code ({ cls := "java/lang/StringUTF16", name := "compress", desc := "([CII)[B" } : Jvm.MethodName) jdk_52_method_16_code (6 : Nat) (Option.some (Jvm.ClassFile.FieldType.array Jvm.ClassFile.FieldType.byte))).before args0 about1 = true := code_word (m := ⟨8, 8⟩) (meth := k8m8) (c := k8c8) (by decide +kernel) rfl rfl rfl (by decide +kernel)
set_option maxRecDepth 65536 in
theorem w_c8 : (Jvm.Cond.code ({ cls := "java/lang/StringUTF16", name := "compress", desc := "([CI[BII)I" } : Jvm.MethodName) jdk_52_method_21_code (7 : Nat) (Option.some Jvm.ClassFile.FieldType.int)).before args0 about1 = true := code_word (m := ⟨8, 10⟩) (meth := k8m10) (c := k8c10) (by decide +kernel) rfl rfl rfl (by decide +kernel)
set_option maxRecDepth 65536 in
theorem w_c9 : (Jvm.Cond.code ({ cls := "java/lang/StringUTF16", name := "coderFromArrayLen", desc := "([BI)B" } : Jvm.MethodName) jdk_52_method_15_code (2 : Nat) (Option.some Jvm.ClassFile.FieldType.byte)).before args0 about1 = true := code_word (m := ⟨8, 7⟩) (meth := k8m7) (c := k8c7) (by decide +kernel) rfl rfl rfl (by decide +kernel)
set_option maxRecDepth 65536 in
theorem w_c10 : (Jvm.Cond.code ({ cls := "java/lang/String", name := "valueOf", desc := "(C)Ljava/lang/String;" } : Jvm.MethodName) jdk_42_method_139_code (1 : Nat) (Option.some (Jvm.ClassFile.FieldType.object "java/lang/String"))).before args0 about1 = true := code_word (m := ⟨7, 8⟩) (meth := k7m8) (c := k7c8) (by decide +kernel) rfl rfl rfl (by decide +kernel)
set_option maxRecDepth 65536 in
theorem w_c11 : (Jvm.Cond.code ({ cls := "java/lang/StringLatin1", name := "canEncode", desc := "(C)Z" } : Jvm.MethodName) jdk_43_method_3_code (1 : Nat) (Option.some Jvm.ClassFile.FieldType.boolean)).before args0 about1 = true := code_word (m := ⟨9, 1⟩) (meth := k9m1) (c := k9c1) (by decide +kernel) rfl rfl rfl (by decide +kernel)
set_option maxRecDepth 65536 in
theorem w_c12 : (Jvm.Cond.code ({ cls := "java/lang/StringLatin1", name := "toBytes", desc := "(C)[B" } : Jvm.MethodName) jdk_43_method_46_code (1 : Nat) (Option.some (Jvm.ClassFile.FieldType.array Jvm.ClassFile.FieldType.byte))).before args0 about1 = true := code_word (m := ⟨9, 6⟩) (meth := k9m6) (c := k9c6) (by decide +kernel) rfl rfl rfl (by decide +kernel)
set_option maxRecDepth 65536 in
theorem w_c13 : (Jvm.Cond.code ({ cls := "java/lang/String", name := "<init>", desc := "([BB)V" } : Jvm.MethodName) jdk_42_method_151_code (3 : Nat) (Option.none : Option Jvm.ClassFile.FieldType)).before args0 about1 = true := code_word (m := ⟨7, 12⟩) (meth := k7m12) (c := k7c12) (by decide +kernel) rfl rfl rfl (by decide +kernel)
set_option maxRecDepth 65536 in
theorem w_c14 : (Jvm.Cond.code ({ cls := "com/example/pools_to_qrels/poolstoqrels/CitationIds", name := "of", desc := "(Ljava/lang/String;Ljava/lang/String;Ljava/lang/String;Ljava/lang/String;)Ljava/lang/String;" } : Jvm.MethodName) prog_5_method_2_code (4 : Nat) (Option.some (Jvm.ClassFile.FieldType.object "java/lang/String"))).before args0 about1 = true := code_word (m := ⟨10, 1⟩) (meth := k10m1) (c := k10c1) (by decide +kernel) rfl rfl rfl (by decide +kernel)
set_option maxRecDepth 65536 in
theorem w_c15 : (Jvm.Cond.code ({ cls := "java/lang/StringBuilder", name := "<init>", desc := "()V" } : Jvm.MethodName) jdk_67_method_1_code (1 : Nat) (Option.none : Option Jvm.ClassFile.FieldType)).before args0 about1 = true := code_word (m := ⟨13, 0⟩) (meth := k13m0) (c := k13c0) (by decide +kernel) rfl rfl rfl (by decide +kernel)
set_option maxRecDepth 65536 in
theorem w_c16 : (Jvm.Cond.code ({ cls := "java/lang/AbstractStringBuilder", name := "<init>", desc := "(I)V" } : Jvm.MethodName) jdk_68_method_2_code (2 : Nat) (Option.none : Option Jvm.ClassFile.FieldType)).before args0 about1 = true := code_word (m := ⟨12, 1⟩) (meth := k12m1) (c := k12c1) (by decide +kernel) rfl rfl rfl (by decide +kernel)
set_option maxRecDepth 65536 in
theorem w_c17 : (Jvm.Cond.code ({ cls := "java/lang/StringBuilder", name := "append", desc := "(Ljava/lang/String;)Ljava/lang/StringBuilder;" } : Jvm.MethodName) jdk_67_method_7_code (2 : Nat) (Option.some (Jvm.ClassFile.FieldType.object "java/lang/StringBuilder"))).before args0 about1 = true := code_word (m := ⟨13, 1⟩) (meth := k13m1) (c := k13c1) (by decide +kernel) rfl rfl rfl (by decide +kernel)
set_option maxRecDepth 65536 in
theorem w_c18 : (Jvm.Cond.code ({ cls := "java/lang/AbstractStringBuilder", name := "append", desc := "(Ljava/lang/String;)Ljava/lang/AbstractStringBuilder;" } : Jvm.MethodName) jdk_68_method_22_code (3 : Nat) (Option.some (Jvm.ClassFile.FieldType.object "java/lang/AbstractStringBuilder"))).before args0 about1 = true := code_word (m := ⟨12, 5⟩) (meth := k12m5) (c := k12c5) (by decide +kernel) rfl rfl rfl (by decide +kernel)
set_option maxRecDepth 65536 in
theorem w_c19 : (Jvm.Cond.code ({ cls := "java/lang/String", name := "length", desc := "()I" } : Jvm.MethodName) jdk_42_method_54_code (1 : Nat) (Option.some Jvm.ClassFile.FieldType.int)).before args0 about1 = true := code_word (m := ⟨7, 3⟩) (meth := k7m3) (c := k7c3) (by decide +kernel) rfl rfl rfl (by decide +kernel)
set_option maxRecDepth 65536 in
theorem w_c20 : (Jvm.Cond.code ({ cls := "java/lang/String", name := "coder", desc := "()B" } : Jvm.MethodName) jdk_42_method_152_code (1 : Nat) (Option.some Jvm.ClassFile.FieldType.byte)).before args0 about1 = true := code_word (m := ⟨7, 13⟩) (meth := k7m13) (c := k7c13) (by decide +kernel) rfl rfl rfl (by decide +kernel)
set_option maxRecDepth 65536 in
theorem w_c21 : (Jvm.Cond.code ({ cls := "java/lang/AbstractStringBuilder", name := "ensureCapacityInternal", desc := "(I)V" } : Jvm.MethodName) jdk_68_method_9_code (3 : Nat) (Option.none : Option Jvm.ClassFile.FieldType)).before args0 about1 = true := code_word (m := ⟨12, 3⟩) (meth := k12m3) (c := k12c3) (by decide +kernel) rfl rfl rfl (by decide +kernel)
set_option maxRecDepth 65536 in
theorem w_c22 : (Jvm.Cond.code ({ cls := "java/lang/AbstractStringBuilder", name := "putStringAt", desc := "(ILjava/lang/String;)V" } : Jvm.MethodName) jdk_68_method_73_code (3 : Nat) (Option.none : Option Jvm.ClassFile.FieldType)).before args0 about1 = true := code_word (m := ⟨12, 10⟩) (meth := k12m10) (c := k12c10) (by decide +kernel) rfl rfl rfl (by decide +kernel)
set_option maxRecDepth 65536 in
theorem w_c23 : (Jvm.Cond.code ({ cls := "java/lang/AbstractStringBuilder", name := "inflateIfNeededFor", desc := "(Ljava/lang/String;)V" } : Jvm.MethodName) jdk_68_method_71_code (2 : Nat) (Option.none : Option Jvm.ClassFile.FieldType)).before args0 about1 = true := code_word (m := ⟨12, 9⟩) (meth := k12m9) (c := k12c9) (by decide +kernel) rfl rfl rfl (by decide +kernel)
set_option maxRecDepth 65536 in
theorem w_c24 : (Jvm.Cond.code ({ cls := "java/lang/String", name := "getBytes", desc := "([BIB)V" } : Jvm.MethodName) jdk_42_method_147_code (4 : Nat) (Option.none : Option Jvm.ClassFile.FieldType)).before args0 about1 = true := code_word (m := ⟨7, 9⟩) (meth := k7m9) (c := k7c9) (by decide +kernel) rfl rfl rfl (by decide +kernel)
set_option maxRecDepth 65536 in
theorem w_c25 : (Jvm.Cond.code ({ cls := "java/lang/StringBuilder", name := "append", desc := "(C)Ljava/lang/StringBuilder;" } : Jvm.MethodName) jdk_67_method_14_code (2 : Nat) (Option.some (Jvm.ClassFile.FieldType.object "java/lang/StringBuilder"))).before args0 about1 = true := code_word (m := ⟨13, 2⟩) (meth := k13m2) (c := k13c2) (by decide +kernel) rfl rfl rfl (by decide +kernel)
set_option maxRecDepth 65536 in
theorem w_c26 : (Jvm.Cond.code ({ cls := "java/lang/AbstractStringBuilder", name := "append", desc := "(C)Ljava/lang/AbstractStringBuilder;" } : Jvm.MethodName) jdk_68_method_31_code (2 : Nat) (Option.some (Jvm.ClassFile.FieldType.object "java/lang/AbstractStringBuilder"))).before args0 about1 = true := code_word (m := ⟨12, 6⟩) (meth := k12m6) (c := k12c6) (by decide +kernel) rfl rfl rfl (by decide +kernel)
set_option maxRecDepth 65536 in
theorem w_c27 : (Jvm.Cond.code ({ cls := "java/lang/AbstractStringBuilder", name := "isLatin1", desc := "()Z" } : Jvm.MethodName) jdk_68_method_68_code (1 : Nat) (Option.some Jvm.ClassFile.FieldType.boolean)).before args0 about1 = true := code_word (m := ⟨12, 8⟩) (meth := k12m8) (c := k12c8) (by decide +kernel) rfl rfl rfl (by decide +kernel)
set_option maxRecDepth 65536 in
theorem w_c28 : (Jvm.Cond.code ({ cls := "java/lang/StringBuilder", name := "toString", desc := "()Ljava/lang/String;" } : Jvm.MethodName) jdk_67_method_42_code (1 : Nat) (Option.some (Jvm.ClassFile.FieldType.object "java/lang/String"))).before args0 about1 = true := code_word (m := ⟨13, 3⟩) (meth := k13m3) (c := k13c3) (by decide +kernel) rfl rfl rfl (by decide +kernel)
set_option maxRecDepth 65536 in
theorem w_c29 : (Jvm.Cond.code ({ cls := "java/lang/String", name := "<init>", desc := "(Ljava/lang/StringBuilder;)V" } : Jvm.MethodName) jdk_42_method_53_code (2 : Nat) (Option.none : Option Jvm.ClassFile.FieldType)).before args0 about1 = true := code_word (m := ⟨7, 2⟩) (meth := k7m2) (c := k7c2) (by decide +kernel) rfl rfl rfl (by decide +kernel)
set_option maxRecDepth 65536 in
theorem w_c30 : (Jvm.Cond.code ({ cls := "java/lang/String", name := "<init>", desc := "(Ljava/lang/AbstractStringBuilder;Ljava/lang/Void;)V" } : Jvm.MethodName) jdk_42_method_150_code (5 : Nat) (Option.none : Option Jvm.ClassFile.FieldType)).before args0 about1 = true := code_word (m := ⟨7, 11⟩) (meth := k7m11) (c := k7c11) (by decide +kernel) rfl rfl rfl (by decide +kernel)
set_option maxRecDepth 65536 in
theorem w_c31 : (Jvm.Cond.code ({ cls := "java/lang/AbstractStringBuilder", name := "getValue", desc := "()[B" } : Jvm.MethodName) jdk_68_method_64_code (1 : Nat) (Option.some (Jvm.ClassFile.FieldType.array Jvm.ClassFile.FieldType.byte))).before args0 about1 = true := code_word (m := ⟨12, 7⟩) (meth := k12m7) (c := k12c7) (by decide +kernel) rfl rfl rfl (by decide +kernel)
set_option maxRecDepth 65536 in
theorem w_c32 : (Jvm.Cond.code ({ cls := "java/lang/StringBuilder", name := "length", desc := "()I" } : Jvm.MethodName) jdk_67_method_93_code (1 : Nat) (Option.some Jvm.ClassFile.FieldType.int)).before args0 about1 = true := code_word (m := ⟨13, 4⟩) (meth := k13m4) (c := k13c4) (by decide +kernel) rfl rfl rfl (by decide +kernel)
set_option maxRecDepth 65536 in
theorem w_c33 : (Jvm.Cond.code ({ cls := "java/lang/AbstractStringBuilder", name := "length", desc := "()I" } : Jvm.MethodName) jdk_68_method_6_code (1 : Nat) (Option.some Jvm.ClassFile.FieldType.int)).before args0 about1 = true := code_word (m := ⟨12, 2⟩) (meth := k12m2) (c := k12c2) (by decide +kernel) rfl rfl rfl (by decide +kernel)
set_option maxRecDepth 65536 in
theorem w_c34 : (Jvm.Cond.code ({ cls := "java/util/Arrays", name := "copyOfRange", desc := "([BII)[B" } : Jvm.MethodName) jdk_65_method_132_code (3 : Nat) (Option.some (Jvm.ClassFile.FieldType.array Jvm.ClassFile.FieldType.byte))).before args0 about1 = true := code_word (m := ⟨15, 2⟩) (meth := k15m2) (c := k15c2) (by decide +kernel) rfl rfl rfl (by decide +kernel)
set_option maxRecDepth 65536 in
theorem w_c35 : (Jvm.Cond.code ({ cls := "java/util/Arrays", name := "copyOfRangeByte", desc := "([BII)[B" } : Jvm.MethodName) jdk_65_method_133_code (5 : Nat) (Option.some (Jvm.ClassFile.FieldType.array Jvm.ClassFile.FieldType.byte))).before args0 about1 = true := code_word (m := ⟨15, 3⟩) (meth := k15m3) (c := k15c3) (by decide +kernel) rfl rfl rfl (by decide +kernel)
set_option maxRecDepth 65536 in
theorem w_c36 : (Jvm.Cond.code ({ cls := "java/util/Arrays", name := "checkLength", desc := "(II)V" } : Jvm.MethodName) jdk_65_method_131_code (2 : Nat) (Option.none : Option Jvm.ClassFile.FieldType)).before args0 about1 = true := code_word (m := ⟨15, 1⟩) (meth := k15m1) (c := k15c1) (by decide +kernel) rfl rfl rfl (by decide +kernel)
set_option maxRecDepth 65536 in
theorem w_c37 : (Jvm.Cond.code ({ cls := "java/lang/Math", name := "min", desc := "(II)I" } : Jvm.MethodName) jdk_29_method_69_code (2 : Nat) (Option.some Jvm.ClassFile.FieldType.int)).before args0 about1 = true := code_word (m := ⟨16, 2⟩) (meth := k16m2) (c := k16c2) (by decide +kernel) rfl rfl rfl (by decide +kernel)
set_option maxRecDepth 65536 in
theorem w_c38 : (Jvm.Cond.code ({ cls := "com/example/pools_to_qrels/poolstoqrels/CitationIds", name := "post", desc := "(Ljava/lang/String;)Ljava/lang/String;" } : Jvm.MethodName) prog_5_method_4_code (1 : Nat) (Option.some (Jvm.ClassFile.FieldType.object "java/lang/String"))).before args0 about1 = true := code_word (m := ⟨10, 2⟩) (meth := k10m2) (c := k10c2) (by decide +kernel) rfl rfl rfl (by decide +kernel)
set_option maxRecDepth 65536 in
theorem w_c39 : (Jvm.Cond.code ({ cls := "java/lang/String", name := "indexOf", desc := "(I)I" } : Jvm.MethodName) jdk_42_method_79_code (2 : Nat) (Option.some Jvm.ClassFile.FieldType.int)).before args0 about1 = true := code_word (m := ⟨7, 5⟩) (meth := k7m5) (c := k7c5) (by decide +kernel) rfl rfl rfl (by decide +kernel)
set_option maxRecDepth 65536 in
theorem w_c40 : (Jvm.Cond.code ({ cls := "java/lang/String", name := "indexOf", desc := "(II)I" } : Jvm.MethodName) jdk_42_method_80_code (3 : Nat) (Option.some Jvm.ClassFile.FieldType.int)).before args0 about1 = true := code_word (m := ⟨7, 6⟩) (meth := k7m6) (c := k7c6) (by decide +kernel) rfl rfl rfl (by decide +kernel)
set_option maxRecDepth 65536 in
theorem w_c41 : (Jvm.Cond.code ({ cls := "java/lang/String", name := "isLatin1", desc := "()Z" } : Jvm.MethodName) jdk_42_method_154_code (1 : Nat) (Option.some Jvm.ClassFile.FieldType.boolean)).before args0 about1 = true := code_word (m := ⟨7, 14⟩) (meth := k7m14) (c := k7c14) (by decide +kernel) rfl rfl rfl (by decide +kernel)
set_option maxRecDepth 65536 in
theorem w_c42 : (Jvm.Cond.code ({ cls := "java/lang/StringLatin1", name := "indexOf", desc := "([BIII)I" } : Jvm.MethodName) jdk_43_method_22_code (4 : Nat) (Option.some Jvm.ClassFile.FieldType.int)).before args0 about1 = true := code_word (m := ⟨9, 4⟩) (meth := k9m4) (c := k9c4) (by decide +kernel) rfl rfl rfl (by decide +kernel)
set_option maxRecDepth 65536 in
theorem w_c43 : (Jvm.Cond.code ({ cls := "java/lang/StringLatin1", name := "canEncode", desc := "(I)Z" } : Jvm.MethodName) jdk_43_method_4_code (1 : Nat) (Option.some Jvm.ClassFile.FieldType.boolean)).before args0 about1 = true := code_word (m := ⟨9, 2⟩) (meth := k9m2) (c := k9c2) (by decide +kernel) rfl rfl rfl (by decide +kernel)
set_option maxRecDepth 65536 in
theorem w_c44 : (Jvm.Cond.code ({ cls := "java/lang/Math", name := "max", desc := "(II)I" } : Jvm.MethodName) jdk_29_method_65_code (2 : Nat) (Option.some Jvm.ClassFile.FieldType.int)).before args0 about1 = true := code_word (m := ⟨16, 1⟩) (meth := k16m1) (c := k16c1) (by decide +kernel) rfl rfl rfl (by decide +kernel)
set_option maxRecDepth 65536 in
theorem w_c45 : (Jvm.Cond.code ({ cls := "java/lang/StringLatin1", name := "indexOfChar", desc := "([BIII)I" } : Jvm.MethodName) jdk_43_method_23_code (6 : Nat) (Option.some Jvm.ClassFile.FieldType.int)).before args0 about1 = true := code_word (m := ⟨9, 5⟩) (meth := k9m5) (c := k9c5) (by decide +kernel) rfl rfl rfl (by decide +kernel)
set_option maxRecDepth 65536 in
theorem w_c46 : (Jvm.Cond.code ({ cls := "java/lang/String", name := "substring", desc := "(II)Ljava/lang/String;" } : Jvm.MethodName) jdk_42_method_92_code (5 : Nat) (Option.some (Jvm.ClassFile.FieldType.object "java/lang/String"))).before args0 about1 = true := code_word (m := ⟨7, 7⟩) (meth := k7m7) (c := k7c7) (by decide +kernel) rfl rfl rfl (by decide +kernel)
set_option maxRecDepth 65536 in
theorem w_c47 : (Jvm.Cond.code ({ cls := "java/lang/String", name := "checkBoundsBeginEnd", desc := "(III)V" } : Jvm.MethodName) jdk_42_method_158_code (3 : Nat) (Option.none : Option Jvm.ClassFile.FieldType)).before args0 about1 = true := code_word (m := ⟨7, 17⟩) (meth := k7m17) (c := k7c17) (by decide +kernel) rfl rfl rfl (by decide +kernel)
set_option maxRecDepth 65536 in
theorem w_c48 : (Jvm.Cond.code ({ cls := "jdk/internal/util/Preconditions", name := "checkFromToIndex", desc := "(IIILjava/util/function/BiFunction;)I" } : Jvm.MethodName) jdk_41_method_12_code (4 : Nat) (Option.some Jvm.ClassFile.FieldType.int)).before args0 about1 = true := code_word (m := ⟨17, 2⟩) (meth := k17m2) (c := k17c2) (by decide +kernel) rfl rfl rfl (by decide +kernel)
set_option maxRecDepth 65536 in
theorem w_c49 : (Jvm.Cond.code ({ cls := "java/lang/StringLatin1", name := "newString", desc := "([BII)Ljava/lang/String;" } : Jvm.MethodName) jdk_43_method_47_code (3 : Nat) (Option.some (Jvm.ClassFile.FieldType.object "java/lang/String"))).before args0 about1 = true := code_word (m := ⟨9, 7⟩) (meth := k9m7) (c := k9c7) (by decide +kernel) rfl rfl rfl (by decide +kernel)
set_option maxRecDepth 65536 in
theorem w_c50 : (Jvm.Cond.code ({ cls := "java/lang/String", name := "equals", desc := "(Ljava/lang/Object;)Z" } : Jvm.MethodName) jdk_42_method_66_code (3 : Nat) (Option.some Jvm.ClassFile.FieldType.boolean)).before args0 about1 = true := code_word (m := ⟨7, 4⟩) (meth := k7m4) (c := k7c4) (by decide +kernel) rfl rfl rfl (by decide +kernel)
set_option maxRecDepth 65536 in
theorem w_c51 : (Jvm.Cond.code ({ cls := "java/lang/StringLatin1", name := "equals", desc := "([B[B)Z" } : Jvm.MethodName) jdk_43_method_13_code (3 : Nat) (Option.some Jvm.ClassFile.FieldType.boolean)).before args0 about1 = true := code_word (m := ⟨9, 3⟩) (meth := k9m3) (c := k9c3) (by decide +kernel) rfl rfl rfl (by decide +kernel)
set_option maxRecDepth 65536 in
theorem w_c52 : (Jvm.Cond.code ({ cls := "java/lang/StringUTF16", name := "toBytes", desc := "([CII)[B" } : Jvm.MethodName) jdk_52_method_14_code (5 : Nat) (Option.some (Jvm.ClassFile.FieldType.array Jvm.ClassFile.FieldType.byte))).before args0 about1 = true := code_word (m := ⟨8, 6⟩) (meth := k8m6) (c := k8c6) (by decide +kernel) rfl rfl rfl (by decide +kernel)
set_option maxRecDepth 65536 in
theorem w_c53 : (Jvm.Cond.code ({ cls := "java/lang/StringUTF16", name := "newBytesFor", desc := "(I)[B" } : Jvm.MethodName) jdk_52_method_2_code (1 : Nat) (Option.some (Jvm.ClassFile.FieldType.array Jvm.ClassFile.FieldType.byte))).before args0 about1 = true := code_word (m := ⟨8, 1⟩) (meth := k8m1) (c := k8c1) (by decide +kernel) rfl rfl rfl (by decide +kernel)
set_option maxRecDepth 65536 in
theorem w_c54 : (Jvm.Cond.code ({ cls := "java/lang/StringUTF16", name := "newBytesLength", desc := "(I)I" } : Jvm.MethodName) jdk_52_method_3_code (1 : Nat) (Option.some Jvm.ClassFile.FieldType.int)).before args0 about1 = true := code_word (m := ⟨8, 2⟩) (meth := k8m2) (c := k8c2) (by decide +kernel) rfl rfl rfl (by decide +kernel)
set_option maxRecDepth 65536 in
theorem w_c55 : (Jvm.Cond.code ({ cls := "java/lang/StringUTF16", name := "putChar", desc := "([BII)V" } : Jvm.MethodName) jdk_52_method_4_code (3 : Nat) (Option.none : Option Jvm.ClassFile.FieldType)).before args0 about1 = true := code_word (m := ⟨8, 3⟩) (meth := k8m3) (c := k8c3) (by decide +kernel) rfl rfl rfl (by decide +kernel)
set_option maxRecDepth 65536 in
theorem w_c56 : (Jvm.Cond.code ({ cls := "java/lang/StringUTF16", name := "getChar", desc := "([BI)C" } : Jvm.MethodName) jdk_52_method_5_code (2 : Nat) (Option.some Jvm.ClassFile.FieldType.char)).before args0 about1 = true := code_word (m := ⟨8, 4⟩) (meth := k8m4) (c := k8c4) (by decide +kernel) rfl rfl rfl (by decide +kernel)
set_option maxRecDepth 65536 in
theorem w_c57 : (Jvm.Cond.code ({ cls := "java/lang/AbstractStringBuilder", name := "inflate", desc := "()V" } : Jvm.MethodName) jdk_68_method_11_code (2 : Nat) (Option.none : Option Jvm.ClassFile.FieldType)).before args0 about1 = true := code_word (m := ⟨12, 4⟩) (meth := k12m4) (c := k12c4) (by decide +kernel) rfl rfl rfl (by decide +kernel)
set_option maxRecDepth 65536 in
theorem w_c58 : (Jvm.Cond.code ({ cls := "java/lang/StringLatin1", name := "inflate", desc := "([BI[BII)V" } : Jvm.MethodName) jdk_43_method_50_code (5 : Nat) (Option.none : Option Jvm.ClassFile.FieldType)).before args0 about1 = true := code_word (m := ⟨9, 8⟩) (meth := k9m8) (c := k9c8) (by decide +kernel) rfl rfl rfl (by decide +kernel)
set_option maxRecDepth 65536 in
theorem w_c59 : (Jvm.Cond.code ({ cls := "java/lang/StringUTF16", name := "inflate", desc := "([BI[BII)V" } : Jvm.MethodName) jdk_52_method_86_code (6 : Nat) (Option.none : Option Jvm.ClassFile.FieldType)).before args0 about1 = true := code_word (m := ⟨8, 18⟩) (meth := k8m18) (c := k8c18) (by decide +kernel) rfl rfl rfl (by decide +kernel)
set_option maxRecDepth 65536 in
theorem w_c60 : (Jvm.Cond.code ({ cls := "java/lang/StringUTF16", name := "checkBoundsOffCount", desc := "(II[B)V" } : Jvm.MethodName) jdk_52_method_94_code (3 : Nat) (Option.none : Option Jvm.ClassFile.FieldType)).before args0 about1 = true := code_word (m := ⟨8, 21⟩) (meth := k8m21) (c := k8c21) (by decide +kernel) rfl rfl rfl (by decide +kernel)
set_option maxRecDepth 65536 in
theorem w_c61 : (Jvm.Cond.code ({ cls := "java/lang/StringUTF16", name := "length", desc := "([B)I" } : Jvm.MethodName) jdk_52_method_6_code (1 : Nat) (Option.some Jvm.ClassFile.FieldType.int)).before args0 about1 = true := code_word (m := ⟨8, 5⟩) (meth := k8m5) (c := k8c5) (by decide +kernel) rfl rfl rfl (by decide +kernel)
set_option maxRecDepth 65536 in
theorem w_c62 : (Jvm.Cond.code ({ cls := "java/lang/String", name := "checkBoundsOffCount", desc := "(III)I" } : Jvm.MethodName) jdk_42_method_157_code (3 : Nat) (Option.some Jvm.ClassFile.FieldType.int)).before args0 about1 = true := code_word (m := ⟨7, 16⟩) (meth := k7m16) (c := k7c16) (by decide +kernel) rfl rfl rfl (by decide +kernel)
set_option maxRecDepth 65536 in
theorem w_c63 : (Jvm.Cond.code ({ cls := "jdk/internal/util/Preconditions", name := "checkFromIndexSize", desc := "(IIILjava/util/function/BiFunction;)I" } : Jvm.MethodName) jdk_41_method_13_code (4 : Nat) (Option.some Jvm.ClassFile.FieldType.int)).before args0 about1 = true := code_word (m := ⟨17, 3⟩) (meth := k17m3) (c := k17c3) (by decide +kernel) rfl rfl rfl (by decide +kernel)
set_option maxRecDepth 65536 in
theorem w_c64 : (Jvm.Cond.code ({ cls := "java/lang/StringUTF16", name := "putCharSB", desc := "([BII)V" } : Jvm.MethodName) jdk_52_method_71_code (3 : Nat) (Option.none : Option Jvm.ClassFile.FieldType)).before args0 about1 = true := code_word (m := ⟨8, 17⟩) (meth := k8m17) (c := k8c17) (by decide +kernel) rfl rfl rfl (by decide +kernel)
set_option maxRecDepth 65536 in
theorem w_c65 : (Jvm.Cond.code ({ cls := "java/lang/StringUTF16", name := "checkIndex", desc := "(I[B)V" } : Jvm.MethodName) jdk_52_method_91_code (2 : Nat) (Option.none : Option Jvm.ClassFile.FieldType)).before args0 about1 = true := code_word (m := ⟨8, 19⟩) (meth := k8m19) (c := k8c19) (by decide +kernel) rfl rfl rfl (by decide +kernel)
set_option maxRecDepth 65536 in
theorem w_c66 : (Jvm.Cond.code ({ cls := "java/lang/String", name := "checkIndex", desc := "(II)V" } : Jvm.MethodName) jdk_42_method_155_code (2 : Nat) (Option.none : Option Jvm.ClassFile.FieldType)).before args0 about1 = true := code_word (m := ⟨7, 15⟩) (meth := k7m15) (c := k7c15) (by decide +kernel) rfl rfl rfl (by decide +kernel)
set_option maxRecDepth 65536 in
theorem w_c67 : (Jvm.Cond.code ({ cls := "jdk/internal/util/Preconditions", name := "checkIndex", desc := "(IILjava/util/function/BiFunction;)I" } : Jvm.MethodName) jdk_41_method_11_code (3 : Nat) (Option.some Jvm.ClassFile.FieldType.int)).before args0 about1 = true := code_word (m := ⟨17, 1⟩) (meth := k17m1) (c := k17c1) (by decide +kernel) rfl rfl rfl (by decide +kernel)
set_option maxRecDepth 65536 in
theorem w_c68 : (Jvm.Cond.code ({ cls := "java/lang/StringUTF16", name := "indexOf", desc := "([BIII)I" } : Jvm.MethodName) jdk_52_method_40_code (4 : Nat) (Option.some Jvm.ClassFile.FieldType.int)).before args0 about1 = true := code_word (m := ⟨8, 13⟩) (meth := k8m13) (c := k8c13) (by decide +kernel) rfl rfl rfl (by decide +kernel)
set_option maxRecDepth 65536 in
theorem w_c69 : (Jvm.Cond.code ({ cls := "java/lang/StringUTF16", name := "indexOfChar", desc := "([BIII)I" } : Jvm.MethodName) jdk_52_method_47_code (4 : Nat) (Option.some Jvm.ClassFile.FieldType.int)).before args0 about1 = true := code_word (m := ⟨8, 14⟩) (meth := k8m14) (c := k8c14) (by decide +kernel) rfl rfl rfl (by decide +kernel)
set_option maxRecDepth 65536 in
theorem w_c70 : (Jvm.Cond.code ({ cls := "java/lang/StringUTF16", name := "checkBoundsBeginEnd", desc := "(II[B)V" } : Jvm.MethodName) jdk_52_method_93_code (3 : Nat) (Option.none : Option Jvm.ClassFile.FieldType)).before args0 about1 = true := code_word (m := ⟨8, 20⟩) (meth := k8m20) (c := k8c20) (by decide +kernel) rfl rfl rfl (by decide +kernel)
set_option maxRecDepth 65536 in
theorem w_c71 : (Jvm.Cond.code ({ cls := "java/lang/StringUTF16", name := "indexOfCharUnsafe", desc := "([BIII)I" } : Jvm.MethodName) jdk_52_method_48_code (5 : Nat) (Option.some Jvm.ClassFile.FieldType.int)).before args0 about1 = true := code_word (m := ⟨8, 15⟩) (meth := k8m15) (c := k8c15) (by decide +kernel) rfl rfl rfl (by decide +kernel)
set_option maxRecDepth 65536 in
theorem w_c72 : (Jvm.Cond.code ({ cls := "java/lang/StringUTF16", name := "newString", desc := "([BII)Ljava/lang/String;" } : Jvm.MethodName) jdk_52_method_69_code (5 : Nat) (Option.some (Jvm.ClassFile.FieldType.object "java/lang/String"))).before args0 about1 = true := code_word (m := ⟨8, 16⟩) (meth := k8m16) (c := k8c16) (by decide +kernel) rfl rfl rfl (by decide +kernel)
set_option maxRecDepth 65536 in
theorem w_c73 : (Jvm.Cond.code ({ cls := "java/lang/StringUTF16", name := "compress", desc := "([BII)[B" } : Jvm.MethodName) jdk_52_method_17_code (6 : Nat) (Option.some (Jvm.ClassFile.FieldType.array Jvm.ClassFile.FieldType.byte))).before args0 about1 = true := code_word (m := ⟨8, 9⟩) (meth := k8m9) (c := k8c9) (by decide +kernel) rfl rfl rfl (by decide +kernel)
set_option maxRecDepth 65536 in
theorem w_c74 : (Jvm.Cond.code ({ cls := "java/lang/StringUTF16", name := "compress", desc := "([BI[BII)I" } : Jvm.MethodName) jdk_52_method_22_code (7 : Nat) (Option.some Jvm.ClassFile.FieldType.int)).before args0 about1 = true := code_word (m := ⟨8, 11⟩) (meth := k8m11) (c := k8c11) (by decide +kernel) rfl rfl rfl (by decide +kernel)
set_option maxRecDepth 65536 in
theorem w_c75 : (Jvm.Cond.code ({ cls := "java/lang/StringUTF16", name := "toBytes", desc := "(C)[B" } : Jvm.MethodName) jdk_52_method_24_code (2 : Nat) (Option.some (Jvm.ClassFile.FieldType.array Jvm.ClassFile.FieldType.byte))).before args0 about1 = true := code_word (m := ⟨8, 12⟩) (meth := k8m12) (c := k8c12) (by decide +kernel) rfl rfl rfl (by decide +kernel)
def codes1 : List Jvm.Cond := [Jvm.Cond.code x code maxLocals ret, Jvm.Cond.code ({ cls := "com/example/pools_to_qrels/poolstoqrels/CitationIdsPostPinLaw", name := "ch", desc := "(I)C" } : Jvm.MethodName) method_2_code (2 : Nat) (Option.some Jvm.ClassFile.FieldType.char), Jvm.Cond.code ({ cls := "com/example/pools_to_qrels/poolstoqrels/CitationIdsPostPinLaw", name := "digit", desc := "(I)C" } : Jvm.MethodName) method_3_code (1 : Nat) (Option.some Jvm.ClassFile.FieldType.char), Jvm.Cond.code ({ cls := "com/example/pools_to_qrels/poolstoqrels/CitationIdsPostPinLaw", name := "part", desc := "(ZCC)Ljava/lang/String;" } : Jvm.MethodName) method_4_code (3 : Nat) (Option.some (Jvm.ClassFile.FieldType.object "java/lang/String")), Jvm.Cond.code ({ cls := "java/lang/String", name := "<init>", desc := "([C)V" } : Jvm.MethodName) jdk_42_method_3_code (2 : Nat) (Option.none : Option Jvm.ClassFile.FieldType), Jvm.Cond.code ({ cls := "java/lang/String", name := "<init>", desc := "([CIILjava/lang/Void;)V" } : Jvm.MethodName) jdk_42_method_149_code (6 : Nat) (Option.none : Option Jvm.ClassFile.FieldType), Jvm.Cond.code ({ cls := "java/lang/Object", name := "<init>", desc := "()V" } : Jvm.MethodName) object_method_1_code (1 : Nat) (Option.none : Option Jvm.ClassFile.FieldType), Jvm.Cond.code ({ cls := "java/lang/StringUTF16", name := "compress", desc := "([CII)[B" } : Jvm.MethodName) jdk_52_method_16_code (6 : Nat) (Option.some (Jvm.ClassFile.FieldType.array Jvm.ClassFile.FieldType.byte)), Jvm.Cond.code ({ cls := "java/lang/StringUTF16", name := "compress", desc := "([CI[BII)I" } : Jvm.MethodName) jdk_52_method_21_code (7 : Nat) (Option.some Jvm.ClassFile.FieldType.int), Jvm.Cond.code ({ cls := "java/lang/StringUTF16", name := "coderFromArrayLen", desc := "([BI)B" } : Jvm.MethodName) jdk_52_method_15_code (2 : Nat) (Option.some Jvm.ClassFile.FieldType.byte), Jvm.Cond.code ({ cls := "java/lang/String", name := "valueOf", desc := "(C)Ljava/lang/String;" } : Jvm.MethodName) jdk_42_method_139_code (1 : Nat) (Option.some (Jvm.ClassFile.FieldType.object "java/lang/String")), Jvm.Cond.code ({ cls := "java/lang/StringLatin1", name := "canEncode", desc := "(C)Z" } : Jvm.MethodName) jdk_43_method_3_code (1 : Nat) (Option.some Jvm.ClassFile.FieldType.boolean), Jvm.Cond.code ({ cls := "java/lang/StringLatin1", name := "toBytes", desc := "(C)[B" } : Jvm.MethodName) jdk_43_method_46_code (1 : Nat) (Option.some (Jvm.ClassFile.FieldType.array Jvm.ClassFile.FieldType.byte)), Jvm.Cond.code ({ cls := "java/lang/String", name := "<init>", desc := "([BB)V" } : Jvm.MethodName) jdk_42_method_151_code (3 : Nat) (Option.none : Option Jvm.ClassFile.FieldType), Jvm.Cond.code ({ cls := "com/example/pools_to_qrels/poolstoqrels/CitationIds", name := "of", desc := "(Ljava/lang/String;Ljava/lang/String;Ljava/lang/String;Ljava/lang/String;)Ljava/lang/String;" } : Jvm.MethodName) prog_5_method_2_code (4 : Nat) (Option.some (Jvm.ClassFile.FieldType.object "java/lang/String")), Jvm.Cond.code ({ cls := "java/lang/StringBuilder", name := "<init>", desc := "()V" } : Jvm.MethodName) jdk_67_method_1_code (1 : Nat) (Option.none : Option Jvm.ClassFile.FieldType), Jvm.Cond.code ({ cls := "java/lang/AbstractStringBuilder", name := "<init>", desc := "(I)V" } : Jvm.MethodName) jdk_68_method_2_code (2 : Nat) (Option.none : Option Jvm.ClassFile.FieldType), Jvm.Cond.code ({ cls := "java/lang/StringBuilder", name := "append", desc := "(Ljava/lang/String;)Ljava/lang/StringBuilder;" } : Jvm.MethodName) jdk_67_method_7_code (2 : Nat) (Option.some (Jvm.ClassFile.FieldType.object "java/lang/StringBuilder")), Jvm.Cond.code ({ cls := "java/lang/AbstractStringBuilder", name := "append", desc := "(Ljava/lang/String;)Ljava/lang/AbstractStringBuilder;" } : Jvm.MethodName) jdk_68_method_22_code (3 : Nat) (Option.some (Jvm.ClassFile.FieldType.object "java/lang/AbstractStringBuilder")), Jvm.Cond.code ({ cls := "java/lang/String", name := "length", desc := "()I" } : Jvm.MethodName) jdk_42_method_54_code (1 : Nat) (Option.some Jvm.ClassFile.FieldType.int), Jvm.Cond.code ({ cls := "java/lang/String", name := "coder", desc := "()B" } : Jvm.MethodName) jdk_42_method_152_code (1 : Nat) (Option.some Jvm.ClassFile.FieldType.byte), Jvm.Cond.code ({ cls := "java/lang/AbstractStringBuilder", name := "ensureCapacityInternal", desc := "(I)V" } : Jvm.MethodName) jdk_68_method_9_code (3 : Nat) (Option.none : Option Jvm.ClassFile.FieldType), Jvm.Cond.code ({ cls := "java/lang/AbstractStringBuilder", name := "putStringAt", desc := "(ILjava/lang/String;)V" } : Jvm.MethodName) jdk_68_method_73_code (3 : Nat) (Option.none : Option Jvm.ClassFile.FieldType), Jvm.Cond.code ({ cls := "java/lang/AbstractStringBuilder", name := "inflateIfNeededFor", desc := "(Ljava/lang/String;)V" } : Jvm.MethodName) jdk_68_method_71_code (2 : Nat) (Option.none : Option Jvm.ClassFile.FieldType), Jvm.Cond.code ({ cls := "java/lang/String", name := "getBytes", desc := "([BIB)V" } : Jvm.MethodName) jdk_42_method_147_code (4 : Nat) (Option.none : Option Jvm.ClassFile.FieldType), Jvm.Cond.code ({ cls := "java/lang/StringBuilder", name := "append", desc := "(C)Ljava/lang/StringBuilder;" } : Jvm.MethodName) jdk_67_method_14_code (2 : Nat) (Option.some (Jvm.ClassFile.FieldType.object "java/lang/StringBuilder")), Jvm.Cond.code ({ cls := "java/lang/AbstractStringBuilder", name := "append", desc := "(C)Ljava/lang/AbstractStringBuilder;" } : Jvm.MethodName) jdk_68_method_31_code (2 : Nat) (Option.some (Jvm.ClassFile.FieldType.object "java/lang/AbstractStringBuilder")), Jvm.Cond.code ({ cls := "java/lang/AbstractStringBuilder", name := "isLatin1", desc := "()Z" } : Jvm.MethodName) jdk_68_method_68_code (1 : Nat) (Option.some Jvm.ClassFile.FieldType.boolean), Jvm.Cond.code ({ cls := "java/lang/StringBuilder", name := "toString", desc := "()Ljava/lang/String;" } : Jvm.MethodName) jdk_67_method_42_code (1 : Nat) (Option.some (Jvm.ClassFile.FieldType.object "java/lang/String")), Jvm.Cond.code ({ cls := "java/lang/String", name := "<init>", desc := "(Ljava/lang/StringBuilder;)V" } : Jvm.MethodName) jdk_42_method_53_code (2 : Nat) (Option.none : Option Jvm.ClassFile.FieldType), Jvm.Cond.code ({ cls := "java/lang/String", name := "<init>", desc := "(Ljava/lang/AbstractStringBuilder;Ljava/lang/Void;)V" } : Jvm.MethodName) jdk_42_method_150_code (5 : Nat) (Option.none : Option Jvm.ClassFile.FieldType), Jvm.Cond.code ({ cls := "java/lang/AbstractStringBuilder", name := "getValue", desc := "()[B" } : Jvm.MethodName) jdk_68_method_64_code (1 : Nat) (Option.some (Jvm.ClassFile.FieldType.array Jvm.ClassFile.FieldType.byte)), Jvm.Cond.code ({ cls := "java/lang/StringBuilder", name := "length", desc := "()I" } : Jvm.MethodName) jdk_67_method_93_code (1 : Nat) (Option.some Jvm.ClassFile.FieldType.int), Jvm.Cond.code ({ cls := "java/lang/AbstractStringBuilder", name := "length", desc := "()I" } : Jvm.MethodName) jdk_68_method_6_code (1 : Nat) (Option.some Jvm.ClassFile.FieldType.int), Jvm.Cond.code ({ cls := "java/util/Arrays", name := "copyOfRange", desc := "([BII)[B" } : Jvm.MethodName) jdk_65_method_132_code (3 : Nat) (Option.some (Jvm.ClassFile.FieldType.array Jvm.ClassFile.FieldType.byte)), Jvm.Cond.code ({ cls := "java/util/Arrays", name := "copyOfRangeByte", desc := "([BII)[B" } : Jvm.MethodName) jdk_65_method_133_code (5 : Nat) (Option.some (Jvm.ClassFile.FieldType.array Jvm.ClassFile.FieldType.byte)), Jvm.Cond.code ({ cls := "java/util/Arrays", name := "checkLength", desc := "(II)V" } : Jvm.MethodName) jdk_65_method_131_code (2 : Nat) (Option.none : Option Jvm.ClassFile.FieldType), Jvm.Cond.code ({ cls := "java/lang/Math", name := "min", desc := "(II)I" } : Jvm.MethodName) jdk_29_method_69_code (2 : Nat) (Option.some Jvm.ClassFile.FieldType.int), Jvm.Cond.code ({ cls := "com/example/pools_to_qrels/poolstoqrels/CitationIds", name := "post", desc := "(Ljava/lang/String;)Ljava/lang/String;" } : Jvm.MethodName) prog_5_method_4_code (1 : Nat) (Option.some (Jvm.ClassFile.FieldType.object "java/lang/String")), Jvm.Cond.code ({ cls := "java/lang/String", name := "indexOf", desc := "(I)I" } : Jvm.MethodName) jdk_42_method_79_code (2 : Nat) (Option.some Jvm.ClassFile.FieldType.int), Jvm.Cond.code ({ cls := "java/lang/String", name := "indexOf", desc := "(II)I" } : Jvm.MethodName) jdk_42_method_80_code (3 : Nat) (Option.some Jvm.ClassFile.FieldType.int), Jvm.Cond.code ({ cls := "java/lang/String", name := "isLatin1", desc := "()Z" } : Jvm.MethodName) jdk_42_method_154_code (1 : Nat) (Option.some Jvm.ClassFile.FieldType.boolean), Jvm.Cond.code ({ cls := "java/lang/StringLatin1", name := "indexOf", desc := "([BIII)I" } : Jvm.MethodName) jdk_43_method_22_code (4 : Nat) (Option.some Jvm.ClassFile.FieldType.int), Jvm.Cond.code ({ cls := "java/lang/StringLatin1", name := "canEncode", desc := "(I)Z" } : Jvm.MethodName) jdk_43_method_4_code (1 : Nat) (Option.some Jvm.ClassFile.FieldType.boolean), Jvm.Cond.code ({ cls := "java/lang/Math", name := "max", desc := "(II)I" } : Jvm.MethodName) jdk_29_method_65_code (2 : Nat) (Option.some Jvm.ClassFile.FieldType.int), Jvm.Cond.code ({ cls := "java/lang/StringLatin1", name := "indexOfChar", desc := "([BIII)I" } : Jvm.MethodName) jdk_43_method_23_code (6 : Nat) (Option.some Jvm.ClassFile.FieldType.int), Jvm.Cond.code ({ cls := "java/lang/String", name := "substring", desc := "(II)Ljava/lang/String;" } : Jvm.MethodName) jdk_42_method_92_code (5 : Nat) (Option.some (Jvm.ClassFile.FieldType.object "java/lang/String")), Jvm.Cond.code ({ cls := "java/lang/String", name := "checkBoundsBeginEnd", desc := "(III)V" } : Jvm.MethodName) jdk_42_method_158_code (3 : Nat) (Option.none : Option Jvm.ClassFile.FieldType), Jvm.Cond.code ({ cls := "jdk/internal/util/Preconditions", name := "checkFromToIndex", desc := "(IIILjava/util/function/BiFunction;)I" } : Jvm.MethodName) jdk_41_method_12_code (4 : Nat) (Option.some Jvm.ClassFile.FieldType.int), Jvm.Cond.code ({ cls := "java/lang/StringLatin1", name := "newString", desc := "([BII)Ljava/lang/String;" } : Jvm.MethodName) jdk_43_method_47_code (3 : Nat) (Option.some (Jvm.ClassFile.FieldType.object "java/lang/String")), Jvm.Cond.code ({ cls := "java/lang/String", name := "equals", desc := "(Ljava/lang/Object;)Z" } : Jvm.MethodName) jdk_42_method_66_code (3 : Nat) (Option.some Jvm.ClassFile.FieldType.boolean), Jvm.Cond.code ({ cls := "java/lang/StringLatin1", name := "equals", desc := "([B[B)Z" } : Jvm.MethodName) jdk_43_method_13_code (3 : Nat) (Option.some Jvm.ClassFile.FieldType.boolean), Jvm.Cond.code ({ cls := "java/lang/StringUTF16", name := "toBytes", desc := "([CII)[B" } : Jvm.MethodName) jdk_52_method_14_code (5 : Nat) (Option.some (Jvm.ClassFile.FieldType.array Jvm.ClassFile.FieldType.byte)), Jvm.Cond.code ({ cls := "java/lang/StringUTF16", name := "newBytesFor", desc := "(I)[B" } : Jvm.MethodName) jdk_52_method_2_code (1 : Nat) (Option.some (Jvm.ClassFile.FieldType.array Jvm.ClassFile.FieldType.byte)), Jvm.Cond.code ({ cls := "java/lang/StringUTF16", name := "newBytesLength", desc := "(I)I" } : Jvm.MethodName) jdk_52_method_3_code (1 : Nat) (Option.some Jvm.ClassFile.FieldType.int), Jvm.Cond.code ({ cls := "java/lang/StringUTF16", name := "putChar", desc := "([BII)V" } : Jvm.MethodName) jdk_52_method_4_code (3 : Nat) (Option.none : Option Jvm.ClassFile.FieldType), Jvm.Cond.code ({ cls := "java/lang/StringUTF16", name := "getChar", desc := "([BI)C" } : Jvm.MethodName) jdk_52_method_5_code (2 : Nat) (Option.some Jvm.ClassFile.FieldType.char), Jvm.Cond.code ({ cls := "java/lang/AbstractStringBuilder", name := "inflate", desc := "()V" } : Jvm.MethodName) jdk_68_method_11_code (2 : Nat) (Option.none : Option Jvm.ClassFile.FieldType), Jvm.Cond.code ({ cls := "java/lang/StringLatin1", name := "inflate", desc := "([BI[BII)V" } : Jvm.MethodName) jdk_43_method_50_code (5 : Nat) (Option.none : Option Jvm.ClassFile.FieldType), Jvm.Cond.code ({ cls := "java/lang/StringUTF16", name := "inflate", desc := "([BI[BII)V" } : Jvm.MethodName) jdk_52_method_86_code (6 : Nat) (Option.none : Option Jvm.ClassFile.FieldType), Jvm.Cond.code ({ cls := "java/lang/StringUTF16", name := "checkBoundsOffCount", desc := "(II[B)V" } : Jvm.MethodName) jdk_52_method_94_code (3 : Nat) (Option.none : Option Jvm.ClassFile.FieldType), Jvm.Cond.code ({ cls := "java/lang/StringUTF16", name := "length", desc := "([B)I" } : Jvm.MethodName) jdk_52_method_6_code (1 : Nat) (Option.some Jvm.ClassFile.FieldType.int), Jvm.Cond.code ({ cls := "java/lang/String", name := "checkBoundsOffCount", desc := "(III)I" } : Jvm.MethodName) jdk_42_method_157_code (3 : Nat) (Option.some Jvm.ClassFile.FieldType.int), Jvm.Cond.code ({ cls := "jdk/internal/util/Preconditions", name := "checkFromIndexSize", desc := "(IIILjava/util/function/BiFunction;)I" } : Jvm.MethodName) jdk_41_method_13_code (4 : Nat) (Option.some Jvm.ClassFile.FieldType.int), Jvm.Cond.code ({ cls := "java/lang/StringUTF16", name := "putCharSB", desc := "([BII)V" } : Jvm.MethodName) jdk_52_method_71_code (3 : Nat) (Option.none : Option Jvm.ClassFile.FieldType), Jvm.Cond.code ({ cls := "java/lang/StringUTF16", name := "checkIndex", desc := "(I[B)V" } : Jvm.MethodName) jdk_52_method_91_code (2 : Nat) (Option.none : Option Jvm.ClassFile.FieldType), Jvm.Cond.code ({ cls := "java/lang/String", name := "checkIndex", desc := "(II)V" } : Jvm.MethodName) jdk_42_method_155_code (2 : Nat) (Option.none : Option Jvm.ClassFile.FieldType), Jvm.Cond.code ({ cls := "jdk/internal/util/Preconditions", name := "checkIndex", desc := "(IILjava/util/function/BiFunction;)I" } : Jvm.MethodName) jdk_41_method_11_code (3 : Nat) (Option.some Jvm.ClassFile.FieldType.int), Jvm.Cond.code ({ cls := "java/lang/StringUTF16", name := "indexOf", desc := "([BIII)I" } : Jvm.MethodName) jdk_52_method_40_code (4 : Nat) (Option.some Jvm.ClassFile.FieldType.int), Jvm.Cond.code ({ cls := "java/lang/StringUTF16", name := "indexOfChar", desc := "([BIII)I" } : Jvm.MethodName) jdk_52_method_47_code (4 : Nat) (Option.some Jvm.ClassFile.FieldType.int), Jvm.Cond.code ({ cls := "java/lang/StringUTF16", name := "checkBoundsBeginEnd", desc := "(II[B)V" } : Jvm.MethodName) jdk_52_method_93_code (3 : Nat) (Option.none : Option Jvm.ClassFile.FieldType), Jvm.Cond.code ({ cls := "java/lang/StringUTF16", name := "indexOfCharUnsafe", desc := "([BIII)I" } : Jvm.MethodName) jdk_52_method_48_code (5 : Nat) (Option.some Jvm.ClassFile.FieldType.int), Jvm.Cond.code ({ cls := "java/lang/StringUTF16", name := "newString", desc := "([BII)Ljava/lang/String;" } : Jvm.MethodName) jdk_52_method_69_code (5 : Nat) (Option.some (Jvm.ClassFile.FieldType.object "java/lang/String")), Jvm.Cond.code ({ cls := "java/lang/StringUTF16", name := "compress", desc := "([BII)[B" } : Jvm.MethodName) jdk_52_method_17_code (6 : Nat) (Option.some (Jvm.ClassFile.FieldType.array Jvm.ClassFile.FieldType.byte)), Jvm.Cond.code ({ cls := "java/lang/StringUTF16", name := "compress", desc := "([BI[BII)I" } : Jvm.MethodName) jdk_52_method_22_code (7 : Nat) (Option.some Jvm.ClassFile.FieldType.int), Jvm.Cond.code ({ cls := "java/lang/StringUTF16", name := "toBytes", desc := "(C)[B" } : Jvm.MethodName) jdk_52_method_24_code (2 : Nat) (Option.some (Jvm.ClassFile.FieldType.array Jvm.ClassFile.FieldType.byte))]
set_option maxRecDepth 65536 in
theorem codes_eq : words1.filter isCode = codes1 := rfl
theorem w_codes : ∀ c ∈ words1.filter isCode, c.before args0 about1 = true := by
  rw [codes_eq]
  intro c hc
  simp only [codes1, List.mem_cons, List.not_mem_nil, or_false] at hc
  rcases hc with rfl | rfl | rfl | rfl | rfl | rfl | rfl | rfl | rfl | rfl | rfl | rfl | rfl | rfl | rfl | rfl | rfl | rfl | rfl | rfl | rfl | rfl | rfl | rfl | rfl | rfl | rfl | rfl | rfl | rfl | rfl | rfl | rfl | rfl | rfl | rfl | rfl | rfl | rfl | rfl | rfl | rfl | rfl | rfl | rfl | rfl | rfl | rfl | rfl | rfl | rfl | rfl | rfl | rfl | rfl | rfl | rfl | rfl | rfl | rfl | rfl | rfl | rfl | rfl | rfl | rfl | rfl | rfl | rfl | rfl | rfl | rfl | rfl | rfl | rfl | rfl
  · exact w_c0
  · exact w_c1
  · exact w_c2
  · exact w_c3
  · exact w_c4
  · exact w_c5
  · exact w_c6
  · exact w_c7
  · exact w_c8
  · exact w_c9
  · exact w_c10
  · exact w_c11
  · exact w_c12
  · exact w_c13
  · exact w_c14
  · exact w_c15
  · exact w_c16
  · exact w_c17
  · exact w_c18
  · exact w_c19
  · exact w_c20
  · exact w_c21
  · exact w_c22
  · exact w_c23
  · exact w_c24
  · exact w_c25
  · exact w_c26
  · exact w_c27
  · exact w_c28
  · exact w_c29
  · exact w_c30
  · exact w_c31
  · exact w_c32
  · exact w_c33
  · exact w_c34
  · exact w_c35
  · exact w_c36
  · exact w_c37
  · exact w_c38
  · exact w_c39
  · exact w_c40
  · exact w_c41
  · exact w_c42
  · exact w_c43
  · exact w_c44
  · exact w_c45
  · exact w_c46
  · exact w_c47
  · exact w_c48
  · exact w_c49
  · exact w_c50
  · exact w_c51
  · exact w_c52
  · exact w_c53
  · exact w_c54
  · exact w_c55
  · exact w_c56
  · exact w_c57
  · exact w_c58
  · exact w_c59
  · exact w_c60
  · exact w_c61
  · exact w_c62
  · exact w_c63
  · exact w_c64
  · exact w_c65
  · exact w_c66
  · exact w_c67
  · exact w_c68
  · exact w_c69
  · exact w_c70
  · exact w_c71
  · exact w_c72
  · exact w_c73
  · exact w_c74
  · exact w_c75
set_option maxRecDepth 65536 in
theorem w_t1 : (words1.take 24).all (fun c => isCode c || c.before args0 about1) = true := by decide +kernel
set_option maxRecDepth 65536 in
theorem w_t2 : ((words1.drop 24).take 24).all (fun c => isCode c || c.before args0 about1) = true := by decide +kernel
set_option maxRecDepth 65536 in
theorem w_t3 : (((words1.drop 24).drop 24).take 24).all (fun c => isCode c || c.before args0 about1) = true := by decide +kernel
set_option maxRecDepth 65536 in
theorem w_t4 : ((((words1.drop 24).drop 24).drop 24).take 24).all (fun c => isCode c || c.before args0 about1) = true := by decide +kernel
set_option maxRecDepth 65536 in
theorem w_t5 : (((((words1.drop 24).drop 24).drop 24).drop 24).take 24).all (fun c => isCode c || c.before args0 about1) = true := by decide +kernel
set_option maxRecDepth 65536 in
theorem w_t6 : ((((((words1.drop 24).drop 24).drop 24).drop 24).drop 24).take 24).all (fun c => isCode c || c.before args0 about1) = true := by decide +kernel
set_option maxRecDepth 65536 in
theorem w_t7 : (((((((words1.drop 24).drop 24).drop 24).drop 24).drop 24).drop 24).take 24).all (fun c => isCode c || c.before args0 about1) = true := by decide +kernel
set_option maxRecDepth 65536 in
theorem w_t8 : ((((((((words1.drop 24).drop 24).drop 24).drop 24).drop 24).drop 24).drop 24).take 24).all (fun c => isCode c || c.before args0 about1) = true := by decide +kernel
set_option maxRecDepth 65536 in
theorem w_t9 : (((((((((words1.drop 24).drop 24).drop 24).drop 24).drop 24).drop 24).drop 24).drop 24).take 24).all (fun c => isCode c || c.before args0 about1) = true := by decide +kernel
set_option maxRecDepth 65536 in
theorem w_t10 : ((((((((((words1.drop 24).drop 24).drop 24).drop 24).drop 24).drop 24).drop 24).drop 24).drop 24).take 24).all (fun c => isCode c || c.before args0 about1) = true := by decide +kernel
set_option maxRecDepth 65536 in
theorem w_t11 : (((((((((((words1.drop 24).drop 24).drop 24).drop 24).drop 24).drop 24).drop 24).drop 24).drop 24).drop 24).take 24).all (fun c => isCode c || c.before args0 about1) = true := by decide +kernel
set_option maxRecDepth 65536 in
theorem w_t12 : ((((((((((((words1.drop 24).drop 24).drop 24).drop 24).drop 24).drop 24).drop 24).drop 24).drop 24).drop 24).drop 24).take 24).all (fun c => isCode c || c.before args0 about1) = true := by decide +kernel
set_option maxRecDepth 65536 in
theorem w_t13 : (((((((((((((words1.drop 24).drop 24).drop 24).drop 24).drop 24).drop 24).drop 24).drop 24).drop 24).drop 24).drop 24).drop 24).take 24).all (fun c => isCode c || c.before args0 about1) = true := by decide +kernel
set_option maxRecDepth 65536 in
theorem w_t14 : (((((((((((((words1.drop 24).drop 24).drop 24).drop 24).drop 24).drop 24).drop 24).drop 24).drop 24).drop 24).drop 24).drop 24).drop 24).all (fun c => isCode c || c.before args0 about1) = true := by decide +kernel
theorem w_tables : (allAtoms (Jvm.Cond.code x code maxLocals ret :: tables_1)).before args0 about1 = true := by
  rw [allAtoms_all]
  show words1.all (fun c => c.before args0 about1) = true
  refine all_split ?_ w_codes
  rw [← List.take_append_drop 24 words1, List.all_append, w_t1, ← List.take_append_drop 24 (words1.drop 24), List.all_append, w_t2, ← List.take_append_drop 24 ((words1.drop 24).drop 24), List.all_append, w_t3, ← List.take_append_drop 24 (((words1.drop 24).drop 24).drop 24), List.all_append, w_t4, ← List.take_append_drop 24 ((((words1.drop 24).drop 24).drop 24).drop 24), List.all_append, w_t5, ← List.take_append_drop 24 (((((words1.drop 24).drop 24).drop 24).drop 24).drop 24), List.all_append, w_t6, ← List.take_append_drop 24 ((((((words1.drop 24).drop 24).drop 24).drop 24).drop 24).drop 24), List.all_append, w_t7, ← List.take_append_drop 24 (((((((words1.drop 24).drop 24).drop 24).drop 24).drop 24).drop 24).drop 24), List.all_append, w_t8, ← List.take_append_drop 24 ((((((((words1.drop 24).drop 24).drop 24).drop 24).drop 24).drop 24).drop 24).drop 24), List.all_append, w_t9, ← List.take_append_drop 24 (((((((((words1.drop 24).drop 24).drop 24).drop 24).drop 24).drop 24).drop 24).drop 24).drop 24), List.all_append, w_t10, ← List.take_append_drop 24 ((((((((((words1.drop 24).drop 24).drop 24).drop 24).drop 24).drop 24).drop 24).drop 24).drop 24).drop 24), List.all_append, w_t11, ← List.take_append_drop 24 (((((((((((words1.drop 24).drop 24).drop 24).drop 24).drop 24).drop 24).drop 24).drop 24).drop 24).drop 24).drop 24), List.all_append, w_t12, ← List.take_append_drop 24 ((((((((((((words1.drop 24).drop 24).drop 24).drop 24).drop 24).drop 24).drop 24).drop 24).drop 24).drop 24).drop 24).drop 24), List.all_append, w_t13, w_t14]
  rfl
set_option maxRecDepth 65536 in
theorem w_rest : rest_1_c.before args0 about1 = true := by decide +kernel
set_option maxRecDepth 65536 in
theorem w_case : (Jvm.Cond.and given_1 narrow_1).before args0 about1 = true := by decide +kernel
theorem w_applies : (headSpec (Jvm.Cond.code x code maxLocals ret :: tables_1) room_1).applies x e0.platform about1 = true :=
  (Spec.applies_iff w_frames).mpr ⟨w_running, w_runnable, w_alone, w_named, w_hears, w_ripe, w_room, w_tables⟩
theorem atStart : AtStart classFile x code maxLocals ret World_1 tables_1 room_1 Calls_1 rest_1 Pre_1 launch0 p0 e0 about1 theMethod args0 below0 :=
  ⟨lists_1, trivial, launch0.admits_env _ _ _, launch0.least_env, fairChoices_fair.cas, fairChoices_fair.clock, w_frames, w_args, w_heap, w_applies, trivial, w_rest, w_case⟩
end start1
theorem witness_1 : WitnessClaimed_1 := ⟨start1.p0, start1.e0, start1.about1, start1.theMethod, start1.args0, start1.below0, start1.atStart⟩
end Jvm.Pilot.@@N@@
