import JvmDerived
import JvmDerived.Pilot.@@N@@Statement
import JvmDerived.Pilot.@@N@@Code
set_option linter.unusedVariables false
set_option linter.unusedSimpArgs false
@@BLOCK:NumsL.lean.txt@@
namespace Jvm.Pilot.@@N@@
open Jvm Jvm.ClassFile Sem Op Lib Jvm.Free Jvm.Stand Jvm.LawKit Jvm.RoadKit Bundle Jvm.Pilot.@@N@@.Jvm.D
section Own
variable {p : Program} {l : Launch} {e : Env} {R : Room} {s : State} {m : MethodId} {args : Array Value} {below : List Frame} {meth : Method} {c : Code} {T : State} {locs : List Loc} {cells slots : Nat} {Q : Option Value → Heap → List Loc → Prop} {kc ks : Nat} {G : State → Outcome → State → List Loc → Nat → Nat → Prop}
/-- the run from U returns; Q says of what it returned, of the heap and of the places written; kc, ks: how much it may have made -/
def own_Ends (p : Program) (e : Env) (below : List Frame) (s : State) (G : State → Outcome → State → List Loc → Nat → Nat → Prop) (Q : Option Value → Heap → List Loc → Prop) (kc ks : Nat) (U : State) : Prop :=
  ∃ s₂ o, Steps p.tables e below U s₂ ∧ s₂.status = .running ∧ Ended s₂ below o ∧ ∃ v L, o = .returned v ∧ Q v s₂.heap L ∧ G s o s₂ L kc ks
theorem own_of {U U' : State} (h : ∀ t, Steps p.tables e below U' t → Steps p.tables e below U t) (k : own_Ends p e below s G Q kc ks U') : own_Ends p e below s G Q kc ks U := by
  obtain ⟨s₂, o, h1, r⟩ := k
  exact ⟨s₂, o, h _ h1, r⟩
theorem own_eq {U U' : State} (h : U = U') (k : own_Ends p e below s G Q kc ks U') : own_Ends p e below s G Q kc ks U := h ▸ k
theorem own_retN (X : Stand p l e R s m args below meth c T locs cells slots) (hx : p.tables.exec = Jvm.exec) (hlk : meth.locks = false) {pc : Nat} {Ls : Array Slot} {z : Int32} {t : FieldType} {rest : List Value} (hret : meth.sig.returnType = some t) (ht : t = .boolean ∨ t = .byte ∨ t = .char ∨ t = .short)
    (hd : decode c.code pc = .ok (.ireturn, 1)) (hc : cells ≤ kc) (hs : slots ≤ ks) (hq : Q (some (.int (nar t z))) T.heap locs) : own_Ends p e below s FrameEnd Q kc ks (T.setTop (mkF m pc Ls (.int z :: rest))) := by
  obtain ⟨fs, hr, hrun, hended, hW, hsame⟩ := X.leave (v := some (.int (nar t z))) (fun h => by rw [hret] at h; cases h) hlk
  exact ⟨_, _, retN X hx hret ht hd hr, hrun, hended, _, _, rfl, hq, ⟨_, rfl⟩, hW, hsame.mono hc hs⟩
theorem own_retI (X : Stand p l e R s m args below meth c T locs cells slots) (hx : p.tables.exec = Jvm.exec) (hlk : meth.locks = false) {pc : Nat} {Ls : Array Slot} {z : Int32} {rest : List Value} (hret : meth.sig.returnType = some .int)
    (hd : decode c.code pc = .ok (.ireturn, 1)) (hc : cells ≤ kc) (hs : slots ≤ ks) (hq : Q (some (.int z)) T.heap locs) : own_Ends p e below s FrameEnd Q kc ks (T.setTop (mkF m pc Ls (.int z :: rest))) := by
  obtain ⟨fs, hr, hrun, hended, hW, hsame⟩ := X.leave (v := some (.int z)) (fun h => by rw [hret] at h; cases h) hlk
  exact ⟨_, _, retOut X hx hret rfl (Or.inl ⟨rfl, Or.inl rfl, _, rfl⟩) hd hr, hrun, hended, _, _, rfl, hq, ⟨_, rfl⟩, hW, hsame.mono hc hs⟩
theorem own_retL (X : Stand p l e R s m args below meth c T locs cells slots) (hx : p.tables.exec = Jvm.exec) (hlk : meth.locks = false) {pc : Nat} {Ls : Array Slot} {z : Int64} {rest : List Value} (hret : meth.sig.returnType = some .long)
    (hd : decode c.code pc = .ok (.lreturn, 1)) (hc : cells ≤ kc) (hs : slots ≤ ks) (hq : Q (some (.long z)) T.heap locs) : own_Ends p e below s FrameEnd Q kc ks (T.setTop (mkF m pc Ls (.long z :: rest))) := by
  obtain ⟨fs, hr, hrun, hended, hW, hsame⟩ := X.leave (v := some (.long z)) (fun h => by rw [hret] at h; cases h) hlk
  exact ⟨_, _, retOut X hx hret rfl (Or.inr (Or.inl ⟨rfl, rfl, _, rfl⟩)) hd hr, hrun, hended, _, _, rfl, hq, ⟨_, rfl⟩, hW, hsame.mono hc hs⟩
theorem own_retA (X : Stand p l e R s m args below meth c T locs cells slots) (hx : p.tables.exec = Jvm.exec) (hlk : meth.locks = false) {pc : Nat} {Ls : Array Slot} {w : Value} {t : FieldType} {rest : List Value} (hret : meth.sig.returnType = some t) (ht : t.isReference = true) (hw : w.isRef = true)
    (hd : decode c.code pc = .ok (.areturn, 1)) (hc : cells ≤ kc) (hs : slots ≤ ks) (hq : Q (some w) T.heap locs) : own_Ends p e below s FrameEnd Q kc ks (T.setTop (mkF m pc Ls (w :: rest))) := by
  obtain ⟨fs, hr, hrun, hended, hW, hsame⟩ := X.leave (v := some w) (fun h => by rw [hret] at h; cases h) hlk
  have hn : narrow t w = w := by cases t <;> first | (cases ht; done) | rfl | (cases w <;> rfl)
  exact ⟨_, _, retOut X hx hret hn (Or.inr (Or.inr (Or.inr (Or.inr ⟨rfl, ht, hw⟩)))) hd hr, hrun, hended, _, _, rfl, hq, ⟨_, rfl⟩, hW, hsame.mono hc hs⟩
theorem own_ret0 (X : Stand p l e R s m args below meth c T locs cells slots) (hx : p.tables.exec = Jvm.exec) (hlk : meth.locks = false) {pc : Nat} {Ls : Array Slot} (hret : meth.sig.returnType = none)
    (hd : decode c.code pc = .ok (.return_, 1)) (hc : cells ≤ kc) (hs : slots ≤ ks) (hq : Q none T.heap locs) : own_Ends p e below s FrameEnd Q kc ks (T.setTop (mkF m pc Ls [])) := by
  obtain ⟨fs, hr, hrun, hended, hW, hsame⟩ := X.leave (v := none) (fun _ => rfl) hlk
  exact ⟨_, _, X.returnOut hx hret hd hr, hrun, hended, _, _, rfl, hq, ⟨_, rfl⟩, hW, hsame.mono hc hs⟩
variable {vm₁ : Vm} {nS : Nat}
theorem own_monoW {t : State} {o : Outcome} {L : List Loc} {k n k' n' : Nat} (h : ReturnedEndW s o t L k n) (hk : k ≤ k') (hn : n ≤ n') : ReturnedEndW s o t L k' n' := ⟨h.1, h.2.1, h.2.2.1, h.2.2.2.mono hk hn⟩
theorem own_retNW (X : Stand p l e R (s.setVm vm₁) m args below meth c T locs cells slots) (hx : p.tables.exec = Jvm.exec) (hlk : meth.locks = false) (hS : s.Since vm₁ nS) (hk : nS ≤ T.heap.size) {pc : Nat} {Ls : Array Slot} {z : Int32} {t : FieldType} {rest : List Value} (hret : meth.sig.returnType = some t) (ht : t = .boolean ∨ t = .byte ∨ t = .char ∨ t = .short)
    (hd : decode c.code pc = .ok (.ireturn, 1)) (hc : cells ≤ kc) (hs : slots ≤ ks) (hq : Q (some (.int (nar t z))) T.heap locs) : own_Ends p e below s ReturnedEndW Q kc ks (T.setTop (mkF m pc Ls (.int z :: rest))) := by
  obtain ⟨fs, hr, hrun, hended, hW⟩ := X.leaveW hS hk (v := some (.int (nar t z))) (fun h => by rw [hret] at h; cases h) hlk
  exact ⟨_, _, retN X hx hret ht hd hr, hrun, hended, _, _, rfl, hq, own_monoW hW hc hs⟩
theorem own_retIW (X : Stand p l e R (s.setVm vm₁) m args below meth c T locs cells slots) (hx : p.tables.exec = Jvm.exec) (hlk : meth.locks = false) (hS : s.Since vm₁ nS) (hk : nS ≤ T.heap.size) {pc : Nat} {Ls : Array Slot} {z : Int32} {rest : List Value} (hret : meth.sig.returnType = some .int)
    (hd : decode c.code pc = .ok (.ireturn, 1)) (hc : cells ≤ kc) (hs : slots ≤ ks) (hq : Q (some (.int z)) T.heap locs) : own_Ends p e below s ReturnedEndW Q kc ks (T.setTop (mkF m pc Ls (.int z :: rest))) := by
  obtain ⟨fs, hr, hrun, hended, hW⟩ := X.leaveW hS hk (v := some (.int z)) (fun h => by rw [hret] at h; cases h) hlk
  exact ⟨_, _, retOut X hx hret rfl (Or.inl ⟨rfl, Or.inl rfl, _, rfl⟩) hd hr, hrun, hended, _, _, rfl, hq, own_monoW hW hc hs⟩
theorem own_retAW (X : Stand p l e R (s.setVm vm₁) m args below meth c T locs cells slots) (hx : p.tables.exec = Jvm.exec) (hlk : meth.locks = false) (hS : s.Since vm₁ nS) (hk : nS ≤ T.heap.size) {pc : Nat} {Ls : Array Slot} {w : Value} {t : FieldType} {rest : List Value} (hret : meth.sig.returnType = some t) (ht : t.isReference = true) (hw : w.isRef = true)
    (hd : decode c.code pc = .ok (.areturn, 1)) (hc : cells ≤ kc) (hs : slots ≤ ks) (hq : Q (some w) T.heap locs) : own_Ends p e below s ReturnedEndW Q kc ks (T.setTop (mkF m pc Ls (w :: rest))) := by
  obtain ⟨fs, hr, hrun, hended, hW⟩ := X.leaveW hS hk (v := some w) (fun h => by rw [hret] at h; cases h) hlk
  have hn : narrow t w = w := by cases t <;> first | (cases ht; done) | rfl | (cases w <;> rfl)
  exact ⟨_, _, retOut X hx hret hn (Or.inr (Or.inr (Or.inr (Or.inr ⟨rfl, ht, hw⟩)))) hd hr, hrun, hended, _, _, rfl, hq, own_monoW hW hc hs⟩
theorem own_ret0W (X : Stand p l e R (s.setVm vm₁) m args below meth c T locs cells slots) (hx : p.tables.exec = Jvm.exec) (hlk : meth.locks = false) (hS : s.Since vm₁ nS) (hk : nS ≤ T.heap.size) {pc : Nat} {Ls : Array Slot} (hret : meth.sig.returnType = none)
    (hd : decode c.code pc = .ok (.return_, 1)) (hc : cells ≤ kc) (hs : slots ≤ ks) (hq : Q none T.heap locs) : own_Ends p e below s ReturnedEndW Q kc ks (T.setTop (mkF m pc Ls [])) := by
  obtain ⟨fs, hr, hrun, hended, hW⟩ := X.leaveW hS hk (v := none) (fun _ => rfl) hlk
  exact ⟨_, _, X.returnOut hx hret hd hr, hrun, hended, _, _, rfl, hq, own_monoW hW hc hs⟩
end Own
theorem own_b1 : nar .boolean (1 : Int32) = 1 := rfl
theorem own_b0 : nar .boolean (0 : Int32) = 0 := rfl
section Own2
variable {p : Program} {l : Launch} {e : Env} {R : Room} {s sS : State} {m : MethodId} {args : Array Value} {below : List Frame} {meth : Method} {c : Code} {T : State} {locs : List Loc} {cells slots : Nat} {Q : Option Value → Heap → List Loc → Prop} {kc ks : Nat} {G : State → Outcome → State → List Loc → Nat → Nat → Prop}
theorem own_iloadN (X : Stand p l e R sS m args below meth c T locs cells slots) (hx : p.tables.exec = Jvm.exec) {code : ByteArray} (hby : c.code = code) {pc : Nat} {Ls : Array Slot} {St : List Value} {k : Fin 4} {v : Int32} (hd : decode code pc = .ok (.iload_n k, 1)) (hl : Ls[k.val]? = some (.val (.int v))) (k : own_Ends p e below s G Q kc ks (T.setTop (mkF m (pc + 1) Ls (.int v :: St)))) : own_Ends p e below s G Q kc ks (T.setTop (mkF m pc Ls (St))) := own_of (fun _ q => XS.iloadN X.here hx rfl (hb hby hd) hl q) k
theorem own_iload (X : Stand p l e R sS m args below meth c T locs cells slots) (hx : p.tables.exec = Jvm.exec) {code : ByteArray} (hby : c.code = code) {pc : Nat} {Ls : Array Slot} {St : List Value} {k : Nat} {v : Int32} (hd : decode code pc = .ok (.iload k, 2)) (hl : Ls[k]? = some (.val (.int v))) (k : own_Ends p e below s G Q kc ks (T.setTop (mkF m (pc + 2) Ls (.int v :: St)))) : own_Ends p e below s G Q kc ks (T.setTop (mkF m pc Ls (St))) := own_of (fun _ q => XS.iload X.here hx rfl (hb hby hd) hl q) k
theorem own_lloadN (X : Stand p l e R sS m args below meth c T locs cells slots) (hx : p.tables.exec = Jvm.exec) {code : ByteArray} (hby : c.code = code) {pc : Nat} {Ls : Array Slot} {St : List Value} {k : Fin 4} {v : Int64} (hd : decode code pc = .ok (.lload_n k, 1)) (hl : Ls[k.val]? = some (.val (.long v))) (k : own_Ends p e below s G Q kc ks (T.setTop (mkF m (pc + 1) Ls (.long v :: St)))) : own_Ends p e below s G Q kc ks (T.setTop (mkF m pc Ls (St))) := own_of (fun _ q => XT.lloadN X.here hx rfl (hb hby hd) hl q) k
theorem own_lload (X : Stand p l e R sS m args below meth c T locs cells slots) (hx : p.tables.exec = Jvm.exec) {code : ByteArray} (hby : c.code = code) {pc : Nat} {Ls : Array Slot} {St : List Value} {k : Nat} {v : Int64} (hd : decode code pc = .ok (.lload k, 2)) (hl : Ls[k]? = some (.val (.long v))) (k : own_Ends p e below s G Q kc ks (T.setTop (mkF m (pc + 2) Ls (.long v :: St)))) : own_Ends p e below s G Q kc ks (T.setTop (mkF m pc Ls (St))) := own_of (fun _ q => XT.lload X.here hx rfl (hb hby hd) hl q) k
theorem own_dloadN (X : Stand p l e R sS m args below meth c T locs cells slots) (hx : p.tables.exec = Jvm.exec) {code : ByteArray} (hby : c.code = code) {pc : Nat} {Ls : Array Slot} {St : List Value} {k : Fin 4} {v : UInt64} (hd : decode code pc = .ok (.dload_n k, 1)) (hl : Ls[k.val]? = some (.val (.double v))) (k : own_Ends p e below s G Q kc ks (T.setTop (mkF m (pc + 1) Ls (.double v :: St)))) : own_Ends p e below s G Q kc ks (T.setTop (mkF m pc Ls (St))) := own_of (fun _ q => XS.dloadN X.here hx rfl (hb hby hd) hl q) k
theorem own_dload (X : Stand p l e R sS m args below meth c T locs cells slots) (hx : p.tables.exec = Jvm.exec) {code : ByteArray} (hby : c.code = code) {pc : Nat} {Ls : Array Slot} {St : List Value} {k : Nat} {v : UInt64} (hd : decode code pc = .ok (.dload k, 2)) (hl : Ls[k]? = some (.val (.double v))) (k : own_Ends p e below s G Q kc ks (T.setTop (mkF m (pc + 2) Ls (.double v :: St)))) : own_Ends p e below s G Q kc ks (T.setTop (mkF m pc Ls (St))) := own_of (fun _ q => XS.dload X.here hx rfl (hb hby hd) hl q) k
theorem own_aloadN (X : Stand p l e R sS m args below meth c T locs cells slots) (hx : p.tables.exec = Jvm.exec) {code : ByteArray} (hby : c.code = code) {pc : Nat} {Ls : Array Slot} {St : List Value} {k : Fin 4} {v : Value} (hd : decode code pc = .ok (.aload_n k, 1)) (hl : Ls[k.val]? = some (.val v)) (hv : v.isRef = true) (k : own_Ends p e below s G Q kc ks (T.setTop (mkF m (pc + 1) Ls (v :: St)))) : own_Ends p e below s G Q kc ks (T.setTop (mkF m pc Ls (St))) := own_of (fun _ q => XS.aloadN X.here hx rfl (hb hby hd) hl hv q) k
theorem own_aload (X : Stand p l e R sS m args below meth c T locs cells slots) (hx : p.tables.exec = Jvm.exec) {code : ByteArray} (hby : c.code = code) {pc : Nat} {Ls : Array Slot} {St : List Value} {k : Nat} {v : Value} (hd : decode code pc = .ok (.aload k, 2)) (hl : Ls[k]? = some (.val v)) (hv : v.isRef = true) (k : own_Ends p e below s G Q kc ks (T.setTop (mkF m (pc + 2) Ls (v :: St)))) : own_Ends p e below s G Q kc ks (T.setTop (mkF m pc Ls (St))) := own_of (fun _ q => XS.aload X.here hx rfl (hb hby hd) hl hv q) k
theorem own_istoreN (X : Stand p l e R sS m args below meth c T locs cells slots) (hx : p.tables.exec = Jvm.exec) {code : ByteArray} (hby : c.code = code) {pc : Nat} {Ls : Array Slot} {St : List Value} {k : Fin 4} {x : Int32} {l' : Array Slot} (hd : decode code pc = .ok (.istore_n k, 1)) (hl : storeLocals Ls k.val (.int x) = some l') (k : own_Ends p e below s G Q kc ks (T.setTop (mkF m (pc + 1) l' (St)))) : own_Ends p e below s G Q kc ks (T.setTop (mkF m pc Ls (.int x :: St))) := own_of (fun _ q => XS.istoreN X.here hx rfl (hb hby hd) rfl hl q) k
theorem own_istore (X : Stand p l e R sS m args below meth c T locs cells slots) (hx : p.tables.exec = Jvm.exec) {code : ByteArray} (hby : c.code = code) {pc : Nat} {Ls : Array Slot} {St : List Value} {k : Nat} {x : Int32} {l' : Array Slot} (hd : decode code pc = .ok (.istore k, 2)) (hl : storeLocals Ls k (.int x) = some l') (k : own_Ends p e below s G Q kc ks (T.setTop (mkF m (pc + 2) l' (St)))) : own_Ends p e below s G Q kc ks (T.setTop (mkF m pc Ls (.int x :: St))) := own_of (fun _ q => XS.istore X.here hx rfl (hb hby hd) rfl hl q) k
theorem own_lstoreN (X : Stand p l e R sS m args below meth c T locs cells slots) (hx : p.tables.exec = Jvm.exec) {code : ByteArray} (hby : c.code = code) {pc : Nat} {Ls : Array Slot} {St : List Value} {k : Fin 4} {x : Int64} {l' : Array Slot} (hd : decode code pc = .ok (.lstore_n k, 1)) (hl : storeLocals Ls k.val (.long x) = some l') (k : own_Ends p e below s G Q kc ks (T.setTop (mkF m (pc + 1) l' (St)))) : own_Ends p e below s G Q kc ks (T.setTop (mkF m pc Ls (.long x :: St))) := own_of (fun _ q => XT.lstoreN X.here hx rfl (hb hby hd) rfl hl q) k
theorem own_lstore (X : Stand p l e R sS m args below meth c T locs cells slots) (hx : p.tables.exec = Jvm.exec) {code : ByteArray} (hby : c.code = code) {pc : Nat} {Ls : Array Slot} {St : List Value} {k : Nat} {x : Int64} {l' : Array Slot} (hd : decode code pc = .ok (.lstore k, 2)) (hl : storeLocals Ls k (.long x) = some l') (k : own_Ends p e below s G Q kc ks (T.setTop (mkF m (pc + 2) l' (St)))) : own_Ends p e below s G Q kc ks (T.setTop (mkF m pc Ls (.long x :: St))) := own_of (fun _ q => XT.lstore X.here hx rfl (hb hby hd) rfl hl q) k
theorem own_astoreN (X : Stand p l e R sS m args below meth c T locs cells slots) (hx : p.tables.exec = Jvm.exec) {code : ByteArray} (hby : c.code = code) {pc : Nat} {Ls : Array Slot} {St : List Value} {k : Fin 4} {x : Value} {l' : Array Slot} (hd : decode code pc = .ok (.astore_n k, 1)) (hv : x.isRef = true) (hl : storeLocals Ls k.val x = some l') (k : own_Ends p e below s G Q kc ks (T.setTop (mkF m (pc + 1) l' (St)))) : own_Ends p e below s G Q kc ks (T.setTop (mkF m pc Ls (x :: St))) := own_of (fun _ q => XS.astoreN X.here hx rfl (hb hby hd) rfl hv hl q) k
theorem own_astore (X : Stand p l e R sS m args below meth c T locs cells slots) (hx : p.tables.exec = Jvm.exec) {code : ByteArray} (hby : c.code = code) {pc : Nat} {Ls : Array Slot} {St : List Value} {k : Nat} {x : Value} {l' : Array Slot} (hd : decode code pc = .ok (.astore k, 2)) (hv : x.isRef = true) (hl : storeLocals Ls k x = some l') (k : own_Ends p e below s G Q kc ks (T.setTop (mkF m (pc + 2) l' (St)))) : own_Ends p e below s G Q kc ks (T.setTop (mkF m pc Ls (x :: St))) := own_of (fun _ q => XS.astore X.here hx rfl (hb hby hd) rfl hv hl q) k
theorem own_aconstNull (X : Stand p l e R sS m args below meth c T locs cells slots) (hx : p.tables.exec = Jvm.exec) {code : ByteArray} (hby : c.code = code) {pc : Nat} {Ls : Array Slot} {St : List Value}  (hd : decode code pc = .ok (.aconst_null, 1)) (k : own_Ends p e below s G Q kc ks (T.setTop (mkF m (pc + 1) Ls (.null :: St)))) : own_Ends p e below s G Q kc ks (T.setTop (mkF m pc Ls (St))) := own_of (fun _ q => XS.aconstNull X.here hx rfl (hb hby hd) q) k
theorem own_iadd (X : Stand p l e R sS m args below meth c T locs cells slots) (hx : p.tables.exec = Jvm.exec) {code : ByteArray} (hby : c.code = code) {pc : Nat} {Ls : Array Slot} {St : List Value} {x y : Int32} (hd : decode code pc = .ok (.iadd, 1)) (k : own_Ends p e below s G Q kc ks (T.setTop (mkF m (pc + 1) Ls (.int (x + y) :: St)))) : own_Ends p e below s G Q kc ks (T.setTop (mkF m pc Ls (.int y :: .int x :: St))) := own_of (fun _ q => XS.iadd X.here hx rfl (hb hby hd) rfl q) k
theorem own_isub (X : Stand p l e R sS m args below meth c T locs cells slots) (hx : p.tables.exec = Jvm.exec) {code : ByteArray} (hby : c.code = code) {pc : Nat} {Ls : Array Slot} {St : List Value} {x y : Int32} (hd : decode code pc = .ok (.isub, 1)) (k : own_Ends p e below s G Q kc ks (T.setTop (mkF m (pc + 1) Ls (.int (x - y) :: St)))) : own_Ends p e below s G Q kc ks (T.setTop (mkF m pc Ls (.int y :: .int x :: St))) := own_of (fun _ q => XS.isub X.here hx rfl (hb hby hd) rfl q) k
theorem own_imul (X : Stand p l e R sS m args below meth c T locs cells slots) (hx : p.tables.exec = Jvm.exec) {code : ByteArray} (hby : c.code = code) {pc : Nat} {Ls : Array Slot} {St : List Value} {x y : Int32} (hd : decode code pc = .ok (.imul, 1)) (k : own_Ends p e below s G Q kc ks (T.setTop (mkF m (pc + 1) Ls (.int (x * y) :: St)))) : own_Ends p e below s G Q kc ks (T.setTop (mkF m pc Ls (.int y :: .int x :: St))) := own_of (fun _ q => XS.imul X.here hx rfl (hb hby hd) rfl q) k
theorem own_iand (X : Stand p l e R sS m args below meth c T locs cells slots) (hx : p.tables.exec = Jvm.exec) {code : ByteArray} (hby : c.code = code) {pc : Nat} {Ls : Array Slot} {St : List Value} {x y : Int32} (hd : decode code pc = .ok (.iand, 1)) (k : own_Ends p e below s G Q kc ks (T.setTop (mkF m (pc + 1) Ls (.int (x &&& y) :: St)))) : own_Ends p e below s G Q kc ks (T.setTop (mkF m pc Ls (.int y :: .int x :: St))) := own_of (fun _ q => XS.iand X.here hx rfl (hb hby hd) rfl q) k
theorem own_ior (X : Stand p l e R sS m args below meth c T locs cells slots) (hx : p.tables.exec = Jvm.exec) {code : ByteArray} (hby : c.code = code) {pc : Nat} {Ls : Array Slot} {St : List Value} {x y : Int32} (hd : decode code pc = .ok (.ior, 1)) (k : own_Ends p e below s G Q kc ks (T.setTop (mkF m (pc + 1) Ls (.int (x ||| y) :: St)))) : own_Ends p e below s G Q kc ks (T.setTop (mkF m pc Ls (.int y :: .int x :: St))) := own_of (fun _ q => XT.ior X.here hx rfl (hb hby hd) rfl q) k
theorem own_ixor (X : Stand p l e R sS m args below meth c T locs cells slots) (hx : p.tables.exec = Jvm.exec) {code : ByteArray} (hby : c.code = code) {pc : Nat} {Ls : Array Slot} {St : List Value} {x y : Int32} (hd : decode code pc = .ok (.ixor, 1)) (k : own_Ends p e below s G Q kc ks (T.setTop (mkF m (pc + 1) Ls (.int (x ^^^ y) :: St)))) : own_Ends p e below s G Q kc ks (T.setTop (mkF m pc Ls (.int y :: .int x :: St))) := own_of (fun _ q => XT.ixor X.here hx rfl (hb hby hd) rfl q) k
theorem own_ladd (X : Stand p l e R sS m args below meth c T locs cells slots) (hx : p.tables.exec = Jvm.exec) {code : ByteArray} (hby : c.code = code) {pc : Nat} {Ls : Array Slot} {St : List Value} {x y : Int64} (hd : decode code pc = .ok (.ladd, 1)) (k : own_Ends p e below s G Q kc ks (T.setTop (mkF m (pc + 1) Ls (.long (x + y) :: St)))) : own_Ends p e below s G Q kc ks (T.setTop (mkF m pc Ls (.long y :: .long x :: St))) := own_of (fun _ q => XT.ladd X.here hx rfl (hb hby hd) rfl q) k
theorem own_lsub (X : Stand p l e R sS m args below meth c T locs cells slots) (hx : p.tables.exec = Jvm.exec) {code : ByteArray} (hby : c.code = code) {pc : Nat} {Ls : Array Slot} {St : List Value} {x y : Int64} (hd : decode code pc = .ok (.lsub, 1)) (k : own_Ends p e below s G Q kc ks (T.setTop (mkF m (pc + 1) Ls (.long (x - y) :: St)))) : own_Ends p e below s G Q kc ks (T.setTop (mkF m pc Ls (.long y :: .long x :: St))) := own_of (fun _ q => XT.lsub X.here hx rfl (hb hby hd) rfl q) k
theorem own_lmul (X : Stand p l e R sS m args below meth c T locs cells slots) (hx : p.tables.exec = Jvm.exec) {code : ByteArray} (hby : c.code = code) {pc : Nat} {Ls : Array Slot} {St : List Value} {x y : Int64} (hd : decode code pc = .ok (.lmul, 1)) (k : own_Ends p e below s G Q kc ks (T.setTop (mkF m (pc + 1) Ls (.long (x * y) :: St)))) : own_Ends p e below s G Q kc ks (T.setTop (mkF m pc Ls (.long y :: .long x :: St))) := own_of (fun _ q => XT.lmul X.here hx rfl (hb hby hd) rfl q) k
theorem own_land (X : Stand p l e R sS m args below meth c T locs cells slots) (hx : p.tables.exec = Jvm.exec) {code : ByteArray} (hby : c.code = code) {pc : Nat} {Ls : Array Slot} {St : List Value} {x y : Int64} (hd : decode code pc = .ok (.land, 1)) (k : own_Ends p e below s G Q kc ks (T.setTop (mkF m (pc + 1) Ls (.long (x &&& y) :: St)))) : own_Ends p e below s G Q kc ks (T.setTop (mkF m pc Ls (.long y :: .long x :: St))) := own_of (fun _ q => XT.land X.here hx rfl (hb hby hd) rfl q) k
theorem own_lor (X : Stand p l e R sS m args below meth c T locs cells slots) (hx : p.tables.exec = Jvm.exec) {code : ByteArray} (hby : c.code = code) {pc : Nat} {Ls : Array Slot} {St : List Value} {x y : Int64} (hd : decode code pc = .ok (.lor, 1)) (k : own_Ends p e below s G Q kc ks (T.setTop (mkF m (pc + 1) Ls (.long (x ||| y) :: St)))) : own_Ends p e below s G Q kc ks (T.setTop (mkF m pc Ls (.long y :: .long x :: St))) := own_of (fun _ q => XT.lor X.here hx rfl (hb hby hd) rfl q) k
theorem own_lxor (X : Stand p l e R sS m args below meth c T locs cells slots) (hx : p.tables.exec = Jvm.exec) {code : ByteArray} (hby : c.code = code) {pc : Nat} {Ls : Array Slot} {St : List Value} {x y : Int64} (hd : decode code pc = .ok (.lxor, 1)) (k : own_Ends p e below s G Q kc ks (T.setTop (mkF m (pc + 1) Ls (.long (x ^^^ y) :: St)))) : own_Ends p e below s G Q kc ks (T.setTop (mkF m pc Ls (.long y :: .long x :: St))) := own_of (fun _ q => XT.lxor X.here hx rfl (hb hby hd) rfl q) k
theorem own_ishl (X : Stand p l e R sS m args below meth c T locs cells slots) (hx : p.tables.exec = Jvm.exec) {code : ByteArray} (hby : c.code = code) {pc : Nat} {Ls : Array Slot} {St : List Value} {x y : Int32} (hd : decode code pc = .ok (.ishl, 1)) (k : own_Ends p e below s G Q kc ks (T.setTop (mkF m (pc + 1) Ls (.int (x <<< (y &&& 31)) :: St)))) : own_Ends p e below s G Q kc ks (T.setTop (mkF m pc Ls (.int y :: .int x :: St))) := own_of (fun _ q => XT.ishl X.here hx rfl (hb hby hd) rfl q) k
theorem own_ishr (X : Stand p l e R sS m args below meth c T locs cells slots) (hx : p.tables.exec = Jvm.exec) {code : ByteArray} (hby : c.code = code) {pc : Nat} {Ls : Array Slot} {St : List Value} {x y : Int32} (hd : decode code pc = .ok (.ishr, 1)) (k : own_Ends p e below s G Q kc ks (T.setTop (mkF m (pc + 1) Ls (.int (x >>> (y &&& 31)) :: St)))) : own_Ends p e below s G Q kc ks (T.setTop (mkF m pc Ls (.int y :: .int x :: St))) := own_of (fun _ q => XT.ishr X.here hx rfl (hb hby hd) rfl q) k
theorem own_iushr (X : Stand p l e R sS m args below meth c T locs cells slots) (hx : p.tables.exec = Jvm.exec) {code : ByteArray} (hby : c.code = code) {pc : Nat} {Ls : Array Slot} {St : List Value} {x y : Int32} (hd : decode code pc = .ok (.iushr, 1)) (k : own_Ends p e below s G Q kc ks (T.setTop (mkF m (pc + 1) Ls (.int (XT.ushr x y) :: St)))) : own_Ends p e below s G Q kc ks (T.setTop (mkF m pc Ls (.int y :: .int x :: St))) := own_of (fun _ q => XT.iushr X.here hx rfl (hb hby hd) rfl q) k
theorem own_lshl (X : Stand p l e R sS m args below meth c T locs cells slots) (hx : p.tables.exec = Jvm.exec) {code : ByteArray} (hby : c.code = code) {pc : Nat} {Ls : Array Slot} {St : List Value} {x : Int64} {y : Int32} (hd : decode code pc = .ok (.lshl, 1)) (k : own_Ends p e below s G Q kc ks (T.setTop (mkF m (pc + 1) Ls (.long (x <<< (y.toInt64 &&& 63)) :: St)))) : own_Ends p e below s G Q kc ks (T.setTop (mkF m pc Ls (.int y :: .long x :: St))) := own_of (fun _ q => XT.lshl X.here hx rfl (hb hby hd) rfl q) k
theorem own_lshr (X : Stand p l e R sS m args below meth c T locs cells slots) (hx : p.tables.exec = Jvm.exec) {code : ByteArray} (hby : c.code = code) {pc : Nat} {Ls : Array Slot} {St : List Value} {x : Int64} {y : Int32} (hd : decode code pc = .ok (.lshr, 1)) (k : own_Ends p e below s G Q kc ks (T.setTop (mkF m (pc + 1) Ls (.long (x >>> (y.toInt64 &&& 63)) :: St)))) : own_Ends p e below s G Q kc ks (T.setTop (mkF m pc Ls (.int y :: .long x :: St))) := own_of (fun _ q => XT.lshr X.here hx rfl (hb hby hd) rfl q) k
theorem own_lushr (X : Stand p l e R sS m args below meth c T locs cells slots) (hx : p.tables.exec = Jvm.exec) {code : ByteArray} (hby : c.code = code) {pc : Nat} {Ls : Array Slot} {St : List Value} {x : Int64} {y : Int32} (hd : decode code pc = .ok (.lushr, 1)) (k : own_Ends p e below s G Q kc ks (T.setTop (mkF m (pc + 1) Ls (.long (XT.ushrL x y) :: St)))) : own_Ends p e below s G Q kc ks (T.setTop (mkF m pc Ls (.int y :: .long x :: St))) := own_of (fun _ q => XT.lushr X.here hx rfl (hb hby hd) rfl q) k
theorem own_ineg (X : Stand p l e R sS m args below meth c T locs cells slots) (hx : p.tables.exec = Jvm.exec) {code : ByteArray} (hby : c.code = code) {pc : Nat} {Ls : Array Slot} {St : List Value} {x : Int32} (hd : decode code pc = .ok (.ineg, 1)) (k : own_Ends p e below s G Q kc ks (T.setTop (mkF m (pc + 1) Ls (.int (-x) :: St)))) : own_Ends p e below s G Q kc ks (T.setTop (mkF m pc Ls (.int x :: St))) := own_of (fun _ q => XS.ineg X.here hx rfl (hb hby hd) rfl q) k
theorem own_lneg (X : Stand p l e R sS m args below meth c T locs cells slots) (hx : p.tables.exec = Jvm.exec) {code : ByteArray} (hby : c.code = code) {pc : Nat} {Ls : Array Slot} {St : List Value} {x : Int64} (hd : decode code pc = .ok (.lneg, 1)) (k : own_Ends p e below s G Q kc ks (T.setTop (mkF m (pc + 1) Ls (.long (-x) :: St)))) : own_Ends p e below s G Q kc ks (T.setTop (mkF m pc Ls (.long x :: St))) := own_of (fun _ q => XT.lneg X.here hx rfl (hb hby hd) rfl q) k
theorem own_i2l (X : Stand p l e R sS m args below meth c T locs cells slots) (hx : p.tables.exec = Jvm.exec) {code : ByteArray} (hby : c.code = code) {pc : Nat} {Ls : Array Slot} {St : List Value} {x : Int32} (hd : decode code pc = .ok (.i2l, 1)) (k : own_Ends p e below s G Q kc ks (T.setTop (mkF m (pc + 1) Ls (.long (x.toInt64) :: St)))) : own_Ends p e below s G Q kc ks (T.setTop (mkF m pc Ls (.int x :: St))) := own_of (fun _ q => XT.i2l X.here hx rfl (hb hby hd) rfl q) k
theorem own_l2i (X : Stand p l e R sS m args below meth c T locs cells slots) (hx : p.tables.exec = Jvm.exec) {code : ByteArray} (hby : c.code = code) {pc : Nat} {Ls : Array Slot} {St : List Value} {x : Int64} (hd : decode code pc = .ok (.l2i, 1)) (k : own_Ends p e below s G Q kc ks (T.setTop (mkF m (pc + 1) Ls (.int (x.toInt32) :: St)))) : own_Ends p e below s G Q kc ks (T.setTop (mkF m pc Ls (.long x :: St))) := own_of (fun _ q => XT.l2i X.here hx rfl (hb hby hd) rfl q) k
theorem own_i2b (X : Stand p l e R sS m args below meth c T locs cells slots) (hx : p.tables.exec = Jvm.exec) {code : ByteArray} (hby : c.code = code) {pc : Nat} {Ls : Array Slot} {St : List Value} {x : Int32} (hd : decode code pc = .ok (.i2b, 1)) (k : own_Ends p e below s G Q kc ks (T.setTop (mkF m (pc + 1) Ls (.int (x.toInt8.toInt32) :: St)))) : own_Ends p e below s G Q kc ks (T.setTop (mkF m pc Ls (.int x :: St))) := own_of (fun _ q => XT.i2b X.here hx rfl (hb hby hd) rfl q) k
theorem own_i2s (X : Stand p l e R sS m args below meth c T locs cells slots) (hx : p.tables.exec = Jvm.exec) {code : ByteArray} (hby : c.code = code) {pc : Nat} {Ls : Array Slot} {St : List Value} {x : Int32} (hd : decode code pc = .ok (.i2s, 1)) (k : own_Ends p e below s G Q kc ks (T.setTop (mkF m (pc + 1) Ls (.int (x.toInt16.toInt32) :: St)))) : own_Ends p e below s G Q kc ks (T.setTop (mkF m pc Ls (.int x :: St))) := own_of (fun _ q => XT.i2s X.here hx rfl (hb hby hd) rfl q) k
theorem own_i2c (X : Stand p l e R sS m args below meth c T locs cells slots) (hx : p.tables.exec = Jvm.exec) {code : ByteArray} (hby : c.code = code) {pc : Nat} {Ls : Array Slot} {St : List Value} {x : Int32} (hd : decode code pc = .ok (.i2c, 1)) (k : own_Ends p e below s G Q kc ks (T.setTop (mkF m (pc + 1) Ls (.int (x.toUInt32.toUInt16.toUInt32.toInt32) :: St)))) : own_Ends p e below s G Q kc ks (T.setTop (mkF m pc Ls (.int x :: St))) := own_of (fun _ q => XT.i2c X.here hx rfl (hb hby hd) rfl q) k
theorem own_lcmp (X : Stand p l e R sS m args below meth c T locs cells slots) (hx : p.tables.exec = Jvm.exec) {code : ByteArray} (hby : c.code = code) {pc : Nat} {Ls : Array Slot} {St : List Value} {x y : Int64} (hd : decode code pc = .ok (.lcmp, 1)) (k : own_Ends p e below s G Q kc ks (T.setTop (mkF m (pc + 1) Ls (.int (XT.cmpL x y) :: St)))) : own_Ends p e below s G Q kc ks (T.setTop (mkF m pc Ls (.long y :: .long x :: St))) := own_of (fun _ q => XT.lcmp X.here hx rfl (hb hby hd) rfl q) k
theorem own_dup (X : Stand p l e R sS m args below meth c T locs cells slots) (hx : p.tables.exec = Jvm.exec) {code : ByteArray} (hby : c.code = code) {pc : Nat} {Ls : Array Slot} {St : List Value} {x : Value} (hd : decode code pc = .ok (.dup, 1)) (hc : x.category = 1) (k : own_Ends p e below s G Q kc ks (T.setTop (mkF m (pc + 1) Ls (x :: x :: St)))) : own_Ends p e below s G Q kc ks (T.setTop (mkF m pc Ls (x :: St))) := own_of (fun _ q => XS.dup X.here hx rfl (hb hby hd) rfl hc q) k
theorem own_dupX1 (X : Stand p l e R sS m args below meth c T locs cells slots) (hx : p.tables.exec = Jvm.exec) {code : ByteArray} (hby : c.code = code) {pc : Nat} {Ls : Array Slot} {St : List Value} {x y : Value} (hd : decode code pc = .ok (.dup_x1, 1)) (hc : x.category = 1) (hc' : y.category = 1) (k : own_Ends p e below s G Q kc ks (T.setTop (mkF m (pc + 1) Ls (x :: y :: x :: St)))) : own_Ends p e below s G Q kc ks (T.setTop (mkF m pc Ls (x :: y :: St))) := own_of (fun _ q => XT.dupX1 X.here hx rfl (hb hby hd) rfl hc hc' q) k
theorem own_dup2 (X : Stand p l e R sS m args below meth c T locs cells slots) (hx : p.tables.exec = Jvm.exec) {code : ByteArray} (hby : c.code = code) {pc : Nat} {Ls : Array Slot} {St : List Value} {x y : Value} (hd : decode code pc = .ok (.dup2, 1)) (hc : x.category = 1) (hc' : y.category = 1) (k : own_Ends p e below s G Q kc ks (T.setTop (mkF m (pc + 1) Ls (x :: y :: x :: y :: St)))) : own_Ends p e below s G Q kc ks (T.setTop (mkF m pc Ls (x :: y :: St))) := own_of (fun _ q => XT.dup2 X.here hx rfl (hb hby hd) rfl hc hc' q) k
theorem own_dup2L (X : Stand p l e R sS m args below meth c T locs cells slots) (hx : p.tables.exec = Jvm.exec) {code : ByteArray} (hby : c.code = code) {pc : Nat} {Ls : Array Slot} {St : List Value} {x : Int64} (hd : decode code pc = .ok (.dup2, 1)) (k : own_Ends p e below s G Q kc ks (T.setTop (mkF m (pc + 1) Ls (.long x :: .long x :: St)))) : own_Ends p e below s G Q kc ks (T.setTop (mkF m pc Ls (.long x :: St))) := own_of (fun _ q => XT.dup2L X.here hx rfl (hb hby hd) rfl q) k
theorem own_pop (X : Stand p l e R sS m args below meth c T locs cells slots) (hx : p.tables.exec = Jvm.exec) {code : ByteArray} (hby : c.code = code) {pc : Nat} {Ls : Array Slot} {St : List Value} {x : Value} (hd : decode code pc = .ok (.pop, 1)) (hc : x.category = 1) (k : own_Ends p e below s G Q kc ks (T.setTop (mkF m (pc + 1) Ls (St)))) : own_Ends p e below s G Q kc ks (T.setTop (mkF m pc Ls (x :: St))) := own_of (fun _ q => XT.pop X.here hx rfl (hb hby hd) rfl hc q) k
theorem own_iinc (X : Stand p l e R sS m args below meth c T locs cells slots) (hx : p.tables.exec = Jvm.exec) {code : ByteArray} (hby : c.code = code) {pc : Nat} {Ls : Array Slot} {St : List Value} {k : Nat} {cst : Int} {x : Int32} {l' : Array Slot} (hd : decode code pc = .ok (.iinc k cst, 3)) (hl : Ls[k]? = some (.val (.int x))) (hl' : storeLocals Ls k (.int (x + Int32.ofInt cst)) = some l') (k : own_Ends p e below s G Q kc ks (T.setTop (mkF m (pc + 3) l' (St)))) : own_Ends p e below s G Q kc ks (T.setTop (mkF m pc Ls (St))) := own_of (fun _ q => XS.iinc X.here hx rfl (hb hby hd) hl hl' q) k
theorem own_iconst (X : Stand p l e R sS m args below meth c T locs cells slots) (hx : p.tables.exec = Jvm.exec) {code : ByteArray} (hby : c.code = code) {pc : Nat} {Ls : Array Slot} {St : List Value} {i : Int} (z : Int32) (hd : decode code pc = .ok (.iconst i, 1)) (hz : Int32.ofInt i = z) (k : own_Ends p e below s G Q kc ks (T.setTop (mkF m (pc + 1) Ls (.int z :: St)))) : own_Ends p e below s G Q kc ks (T.setTop (mkF m pc Ls St)) := by subst hz; exact own_of (fun _ q => XS.iconst X.here hx rfl (hb hby hd) q) k
theorem own_bipush (X : Stand p l e R sS m args below meth c T locs cells slots) (hx : p.tables.exec = Jvm.exec) {code : ByteArray} (hby : c.code = code) {pc : Nat} {Ls : Array Slot} {St : List Value} {i : Int} (z : Int32) (hd : decode code pc = .ok (.bipush i, 2)) (hz : (Int8.ofInt i).toInt32 = z) (k : own_Ends p e below s G Q kc ks (T.setTop (mkF m (pc + 2) Ls (.int z :: St)))) : own_Ends p e below s G Q kc ks (T.setTop (mkF m pc Ls St)) := by subst hz; exact own_of (fun _ q => XS.bipush X.here hx rfl (hb hby hd) q) k
theorem own_sipush (X : Stand p l e R sS m args below meth c T locs cells slots) (hx : p.tables.exec = Jvm.exec) {code : ByteArray} (hby : c.code = code) {pc : Nat} {Ls : Array Slot} {St : List Value} {i : Int} (z : Int32) (hd : decode code pc = .ok (.sipush i, 3)) (hz : (Int16.ofInt i).toInt32 = z) (k : own_Ends p e below s G Q kc ks (T.setTop (mkF m (pc + 3) Ls (.int z :: St)))) : own_Ends p e below s G Q kc ks (T.setTop (mkF m pc Ls St)) := by subst hz; exact own_of (fun _ q => XS.sipush X.here hx rfl (hb hby hd) q) k
theorem own_lconst (X : Stand p l e R sS m args below meth c T locs cells slots) (hx : p.tables.exec = Jvm.exec) {code : ByteArray} (hby : c.code = code) {pc : Nat} {Ls : Array Slot} {St : List Value} {i : Fin 2} (z : Int64) (hd : decode code pc = .ok (.lconst i, 1)) (hz : Int64.ofNat i = z) (k : own_Ends p e below s G Q kc ks (T.setTop (mkF m (pc + 1) Ls (.long z :: St)))) : own_Ends p e below s G Q kc ks (T.setTop (mkF m pc Ls St)) := by subst hz; exact own_of (fun _ q => XT.lconst X.here hx rfl (hb hby hd) q) k
theorem own_goto (X : Stand p l e R sS m args below meth c T locs cells slots) (hx : p.tables.exec = Jvm.exec) {code : ByteArray} (hby : c.code = code) {Ls : Array Slot} {St : List Value} (pc pc' : Nat) {o : Int}  (hd : decode code pc = .ok (.goto o, 3)) (ho : 0 ≤ (pc : Int) + o) (hp : ((pc : Int) + o).toNat = pc') (k : own_Ends p e below s G Q kc ks (T.setTop (mkF m pc' Ls St))) : own_Ends p e below s G Q kc ks (T.setTop (mkF m pc Ls (St))) := own_of (fun _ q => XS.goto X.here hx rfl (pc0 := pc) (pc' := pc') rfl (hb hby hd) ho hp q) k
theorem own_ifYes (X : Stand p l e R sS m args below meth c T locs cells slots) (hx : p.tables.exec = Jvm.exec) {code : ByteArray} (hby : c.code = code) {Ls : Array Slot} {St : List Value} (pc pc' : Nat) {o : Int} {cd : ClassFile.Cond} {x : Int32} (hd : decode code pc = .ok (.ifCond cd o, 3)) (hc : ifCond.holds cd x = true) (ho : 0 ≤ (pc : Int) + o) (hp : ((pc : Int) + o).toNat = pc') (k : own_Ends p e below s G Q kc ks (T.setTop (mkF m pc' Ls St))) : own_Ends p e below s G Q kc ks (T.setTop (mkF m pc Ls (.int x :: St))) := own_of (fun _ q => XS.ifYes X.here hx rfl (pc0 := pc) (pc' := pc') rfl (hb hby hd) rfl hc ho hp q) k
theorem own_icmpYes (X : Stand p l e R sS m args below meth c T locs cells slots) (hx : p.tables.exec = Jvm.exec) {code : ByteArray} (hby : c.code = code) {Ls : Array Slot} {St : List Value} (pc pc' : Nat) {o : Int} {cd : ClassFile.Cond} {x y : Int32} (hd : decode code pc = .ok (.if_icmp cd o, 3)) (hc : if_icmp.holds cd x y = true) (ho : 0 ≤ (pc : Int) + o) (hp : ((pc : Int) + o).toNat = pc') (k : own_Ends p e below s G Q kc ks (T.setTop (mkF m pc' Ls St))) : own_Ends p e below s G Q kc ks (T.setTop (mkF m pc Ls (.int y :: .int x :: St))) := own_of (fun _ q => XS.icmpYes X.here hx rfl (pc0 := pc) (pc' := pc') rfl (hb hby hd) rfl hc ho hp q) k
theorem own_ifnullYes (X : Stand p l e R sS m args below meth c T locs cells slots) (hx : p.tables.exec = Jvm.exec) {code : ByteArray} (hby : c.code = code) {Ls : Array Slot} {St : List Value} (pc pc' : Nat) {o : Int}  (hd : decode code pc = .ok (.ifnull o, 3)) (ho : 0 ≤ (pc : Int) + o) (hp : ((pc : Int) + o).toNat = pc') (k : own_Ends p e below s G Q kc ks (T.setTop (mkF m pc' Ls St))) : own_Ends p e below s G Q kc ks (T.setTop (mkF m pc Ls (.null :: St))) := own_of (fun _ q => XS.ifnullYes X.here hx rfl (pc0 := pc) (pc' := pc') rfl (hb hby hd) rfl ho hp q) k
theorem own_ifnonnullYes (X : Stand p l e R sS m args below meth c T locs cells slots) (hx : p.tables.exec = Jvm.exec) {code : ByteArray} (hby : c.code = code) {Ls : Array Slot} {St : List Value} (pc pc' : Nat) {o : Int} {b : Addr} (hd : decode code pc = .ok (.ifnonnull o, 3)) (ho : 0 ≤ (pc : Int) + o) (hp : ((pc : Int) + o).toNat = pc') (k : own_Ends p e below s G Q kc ks (T.setTop (mkF m pc' Ls St))) : own_Ends p e below s G Q kc ks (T.setTop (mkF m pc Ls (.ref b :: St))) := own_of (fun _ q => XT.ifnonnullYes X.here hx rfl (pc0 := pc) (pc' := pc') rfl (hb hby hd) rfl ho hp q) k
theorem own_ifNo (X : Stand p l e R sS m args below meth c T locs cells slots) (hx : p.tables.exec = Jvm.exec) {code : ByteArray} (hby : c.code = code) {pc : Nat} {Ls : Array Slot} {St : List Value} {cd : ClassFile.Cond} {o : Int} {x : Int32} (hd : decode code pc = .ok (.ifCond cd o, 3)) (hc : ifCond.holds cd x = false) (k : own_Ends p e below s G Q kc ks (T.setTop (mkF m (pc + 3) Ls (St)))) : own_Ends p e below s G Q kc ks (T.setTop (mkF m pc Ls (.int x :: St))) := own_of (fun _ q => XS.ifNo X.here hx rfl (hb hby hd) rfl hc q) k
theorem own_icmpNo (X : Stand p l e R sS m args below meth c T locs cells slots) (hx : p.tables.exec = Jvm.exec) {code : ByteArray} (hby : c.code = code) {pc : Nat} {Ls : Array Slot} {St : List Value} {cd : ClassFile.Cond} {o : Int} {x y : Int32} (hd : decode code pc = .ok (.if_icmp cd o, 3)) (hc : if_icmp.holds cd x y = false) (k : own_Ends p e below s G Q kc ks (T.setTop (mkF m (pc + 3) Ls (St)))) : own_Ends p e below s G Q kc ks (T.setTop (mkF m pc Ls (.int y :: .int x :: St))) := own_of (fun _ q => XS.icmpNo X.here hx rfl (hb hby hd) rfl hc q) k
theorem own_ifnullNo (X : Stand p l e R sS m args below meth c T locs cells slots) (hx : p.tables.exec = Jvm.exec) {code : ByteArray} (hby : c.code = code) {pc : Nat} {Ls : Array Slot} {St : List Value} {o : Int} {b : Addr} (hd : decode code pc = .ok (.ifnull o, 3)) (k : own_Ends p e below s G Q kc ks (T.setTop (mkF m (pc + 3) Ls (St)))) : own_Ends p e below s G Q kc ks (T.setTop (mkF m pc Ls (.ref b :: St))) := own_of (fun _ q => XS.ifnullNo X.here hx rfl (hb hby hd) rfl q) k
theorem own_ifnonnullNo (X : Stand p l e R sS m args below meth c T locs cells slots) (hx : p.tables.exec = Jvm.exec) {code : ByteArray} (hby : c.code = code) {pc : Nat} {Ls : Array Slot} {St : List Value} {o : Int} (hd : decode code pc = .ok (.ifnonnull o, 3)) (k : own_Ends p e below s G Q kc ks (T.setTop (mkF m (pc + 3) Ls (St)))) : own_Ends p e below s G Q kc ks (T.setTop (mkF m pc Ls (.null :: St))) := own_of (fun _ q => XT.ifnonnullNo X.here hx rfl (hb hby hd) rfl q) k
end Own2
theorem own_w {Z : State} {a0 : Array Value} (hw : ∀ d ∈ tables_1, d.before a0 Z = true) (i : Nat) {d : Jvm.Cond} (h : tables_1[i]? = some d) : d.before a0 Z = true := hw _ (List.mem_of_getElem? h)
theorem own_eqk {args : Array Value} {s : State} {t : Term} {k : Int32} (h : (Cond.eq t (.int k)).value args s none s [] = some true) : t.eval args s none [] s = some (.int k) := by
  obtain ⟨x, y, ex, ey, k1, k2⟩ := cmp_v (Or.inl h)
  obtain rfl : y = .int k := (Option.some.inj ((Term.int_eval k).symm.trans ey)).symm
  obtain ⟨z, rfl⟩ := k2
  rw [ex, gotT (Cond.eq_ints ex ey) h]
def own_kind (i : Int32) (a0 a1 a2 a3 a4 a5 : Addr) : Addr := if i = 0 then a0 else if i = 1 then a1 else if i = 2 then a2 else if i = 3 then a3 else if i = 4 then a4 else a5
def own_exp (i : Int32) : Int32 := if i = 0 then 1 else if i = 1 then 1 else if i = 2 then 1 else if i = 3 then 1 else if i = 4 then 1 else 0
def own_cl (a t : Addr) : Int32 := if a = t then 0 else 1
theorem own_law (i : Int32) {a0 a1 a2 a3 a4 a5 : Addr} (h0 : a0 ≠ a5) (h1 : a1 ≠ a5) (h2 : a2 ≠ a5) (h3 : a3 ≠ a5) (h4 : a4 ≠ a5) : own_cl (own_kind i a0 a1 a2 a3 a4 a5) a5 = own_exp i := by
  unfold own_kind own_exp own_cl
  by_cases q0 : i = 0
  · rw [if_pos q0, if_pos q0, if_neg h0]
  rw [if_neg q0, if_neg q0]
  by_cases q1 : i = 1
  · rw [if_pos q1, if_pos q1, if_neg h1]
  rw [if_neg q1, if_neg q1]
  by_cases q2 : i = 2
  · rw [if_pos q2, if_pos q2, if_neg h2]
  rw [if_neg q2, if_neg q2]
  by_cases q3 : i = 3
  · rw [if_pos q3, if_pos q3, if_neg h3]
  rw [if_neg q3, if_neg q3]
  by_cases q4 : i = 4
  · rw [if_pos q4, if_pos q4, if_neg h4]
  rw [if_neg q4, if_neg q4, if_pos rfl]
abbrev mN_0 : MethodName := ⟨"com/example/lifecycle_runner/lifecyclerunner/model/LifecycleIsClaimablePinLaw", "kindAt", "(I)Lcom/example/lifecycle_runner/lifecyclerunner/model/StateKind;"⟩
theorem d1_0 : decode method_2_code 0 = .ok (.iload_n 0, 1) := by decide +kernel
theorem d1_1 : decode method_2_code 1 = .ok (.ifCond .ne 7, 3) := by decide +kernel
theorem d1_4 : decode method_2_code 4 = .ok (.getstatic 7, 3) := by decide +kernel
theorem d1_7 : decode method_2_code 7 = .ok (.areturn, 1) := by decide +kernel
theorem d1_8 : decode method_2_code 8 = .ok (.iload_n 0, 1) := by decide +kernel
theorem d1_9 : decode method_2_code 9 = .ok (.iconst 1, 1) := by decide +kernel
theorem d1_10 : decode method_2_code 10 = .ok (.if_icmp .ne 7, 3) := by decide +kernel
theorem d1_13 : decode method_2_code 13 = .ok (.getstatic 13, 3) := by decide +kernel
theorem d1_16 : decode method_2_code 16 = .ok (.areturn, 1) := by decide +kernel
theorem d1_17 : decode method_2_code 17 = .ok (.iload_n 0, 1) := by decide +kernel
theorem d1_18 : decode method_2_code 18 = .ok (.iconst 2, 1) := by decide +kernel
theorem d1_19 : decode method_2_code 19 = .ok (.if_icmp .ne 7, 3) := by decide +kernel
theorem d1_22 : decode method_2_code 22 = .ok (.getstatic 16, 3) := by decide +kernel
theorem d1_25 : decode method_2_code 25 = .ok (.areturn, 1) := by decide +kernel
theorem d1_26 : decode method_2_code 26 = .ok (.iload_n 0, 1) := by decide +kernel
theorem d1_27 : decode method_2_code 27 = .ok (.iconst 3, 1) := by decide +kernel
theorem d1_28 : decode method_2_code 28 = .ok (.if_icmp .ne 7, 3) := by decide +kernel
theorem d1_31 : decode method_2_code 31 = .ok (.getstatic 19, 3) := by decide +kernel
theorem d1_34 : decode method_2_code 34 = .ok (.areturn, 1) := by decide +kernel
theorem d1_35 : decode method_2_code 35 = .ok (.iload_n 0, 1) := by decide +kernel
theorem d1_36 : decode method_2_code 36 = .ok (.iconst 4, 1) := by decide +kernel
theorem d1_37 : decode method_2_code 37 = .ok (.if_icmp .ne 7, 3) := by decide +kernel
theorem d1_40 : decode method_2_code 40 = .ok (.getstatic 22, 3) := by decide +kernel
theorem d1_43 : decode method_2_code 43 = .ok (.areturn, 1) := by decide +kernel
theorem d1_44 : decode method_2_code 44 = .ok (.getstatic 25, 3) := by decide +kernel
theorem d1_47 : decode method_2_code 47 = .ok (.areturn, 1) := by decide +kernel
theorem pn_0 : plainName "com/example/lifecycle_runner/lifecyclerunner/model/LifecycleIsClaimablePinLaw" = true := by first | (simp [plainName, overriddenIn]; done) | decide +kernel
theorem ef_k (m : MethodId) (x0 : Int32) : entryFrame m #[(.int x0)] 1 = mkF m 0 #[.val (.int x0)] [] := by first | (simp [entryFrame, mkF, argsToLocals, Value.category]; done) | rfl
def Qk (p1 : Int32) (k0 k1 k2 k3 k4 k5 : Addr) (h0 : Heap) (n0 : Nat) (v : Option Value) (h : Heap) (L : List Loc) : Prop := v = some (.ref (own_kind p1 k0 k1 k2 k3 k4 k5)) ∧ Fr n0 L ∧ h = h0
set_option maxRecDepth 65536 in
set_option maxHeartbeats 40000000 in
theorem rmk (l : Launch) (Z : State) (a0 : Array Value) (hw : ∀ d ∈ tables_1, d.before a0 Z = true) (ws : List Jvm.Cond) (p1 : Int32) (k0 k1 k2 k3 k4 k5 : Addr) (h0 : Heap) (n0 : Nat) (Z0 : n0 ≤ h0.size) (S0 : Sta Z h0 "com/example/lifecycle_runner/lifecyclerunner/model/StateKind" "INITIAL" "Lcom/example/lifecycle_runner/lifecyclerunner/model/StateKind;" (.ref k0)) (S1 : Sta Z h0 "com/example/lifecycle_runner/lifecyclerunner/model/StateKind" "WORKING" "Lcom/example/lifecycle_runner/lifecyclerunner/model/StateKind;" (.ref k1)) (S2 : Sta Z h0 "com/example/lifecycle_runner/lifecyclerunner/model/StateKind" "WAITING" "Lcom/example/lifecycle_runner/lifecyclerunner/model/StateKind;" (.ref k2)) (S3 : Sta Z h0 "com/example/lifecycle_runner/lifecyclerunner/model/StateKind" "PAUSED" "Lcom/example/lifecycle_runner/lifecyclerunner/model/StateKind;" (.ref k3)) (S4 : Sta Z h0 "com/example/lifecycle_runner/lifecyclerunner/model/StateKind" "FAILED" "Lcom/example/lifecycle_runner/lifecyclerunner/model/StateKind;" (.ref k4)) (S5 : Sta Z h0 "com/example/lifecycle_runner/lifecyclerunner/model/StateKind" "TERMINAL" "Lcom/example/lifecycle_runner/lifecyclerunner/model/StateKind;" (.ref k5)) :
    MetFree l mN_0 (head1 (Jvm.Cond.code mN_0 method_2_code 1 (some (.object "com/example/lifecycle_runner/lifecyclerunner/model/StateKind")) :: ws) ({ frames := 0, cells := 0, slots := 0, locals := 0 } : Room)) (fun a U => a = #[(.int p1)] ∧ Z.Warmed39 U.vm ∧ U.heap = h0) (fun _ _ _ _ _ => True) (fun _ U o U' => ∃ v L, o = .returned v ∧ (Qk p1 k0 k1 k2 k3 k4 k5 h0 n0) v U'.heap L ∧ FrameEnd U o U' L ({ frames := 0, cells := 0, slots := 0, locals := 0 } : Room).cells ({ frames := 0, cells := 0, slots := 0, locals := 0 } : Room).slots) := by
  refine MetFree.of_bodySF (plainFor_of_name pn_0) hisR ?_
  intro p e s m args below meth c s₁ Bd hml0 hP hK
  obtain ⟨rfl, hZ, hh⟩ := hP
  have hx := Bd.exec
  have hby := Bd.bytes
  have hml : c.maxLocals = 1 := hml0
  have hown : s.vm.findClass "com/example/lifecycle_runner/lifecyclerunner/model/LifecycleIsClaimablePinLaw" = some m.cls := findClass_of_methodNamed Bd.named
  have hnm := (name_of_methodNamed Bd.named Bd.method).1
  have hlk := Bd.notSynchronized
  have X0 : Stand p l e ({ frames := 0, cells := 0, slots := 0, locals := 0 } : Room) s m #[(.int p1)] below meth c s₁ [] 0 0 := Stand.of_body Bd
  have e0 : s₁.heap = h0 := by rw [← hh, Bd.state]; rfl
  have N0 := Fr.nil n0
  show own_Ends p e below s FrameEnd (Qk p1 k0 k1 k2 k3 k4 k5 h0 n0) 0 0 (s₁.setTop (entryFrame m #[(.int p1)] 1))
  refine own_of (U' := (s₁.setTop (mkF m 0 #[.val (.int p1)] []))) (fun _ k => castTop (ef_k m p1) k) ?_
  refine own_iloadN X0 hx hby d1_0 rfl ?_
  by_cases hc1_1 : p1 = (0 : Int32)
  · skip
    refine own_ifNo X0 hx hby d1_1 ((if0 _ _).trans (teq hc1_1).2) ?_
    obtain ⟨T2, X2, e2, st2⟩ := getS2 X0 hx hZ hown (host := "") (Or.inl (own_w hw 5 rfl)) Via.refl e0 S0 (g := (mkF m 4 #[.val (.int p1)] [])) rfl (hb hby d1_4)
    refine own_of (U' := (T2.setTop (mkF m 7 #[.val (.int p1)] [(.ref k0)]))) (st2) ?_
    exact own_retA X2 hx hlk Bd.returns rfl rfl (hb hby d1_7) (by decide) (by decide) (⟨congrArg (fun z => some (Value.ref z)) (show k0 = own_kind p1 k0 k1 k2 k3 k4 k5 from by simp [own_kind, hc1_1]), N0, e2⟩)
  · skip
    refine own_ifYes X0 hx hby 1 8 d1_1 ((if0 _ _).trans (feq hc1_1).2) (by decide) (by decide) ?_
    refine own_iloadN X0 hx hby d1_8 rfl ?_
    refine own_iconst X0 hx hby 1 d1_9 rfl ?_
    by_cases hc10_3 : p1 = (1 : Int32)
    · skip
      refine own_icmpNo X0 hx hby d1_10 (teq hc10_3).2 ?_
      obtain ⟨T4, X4, e4, st4⟩ := getS2 X0 hx hZ hown (host := "") (Or.inl (own_w hw 21 rfl)) Via.refl e0 S1 (g := (mkF m 13 #[.val (.int p1)] [])) rfl (hb hby d1_13)
      refine own_of (U' := (T4.setTop (mkF m 16 #[.val (.int p1)] [(.ref k1)]))) (st4) ?_
      exact own_retA X4 hx hlk Bd.returns rfl rfl (hb hby d1_16) (by decide) (by decide) (⟨congrArg (fun z => some (Value.ref z)) (show k1 = own_kind p1 k0 k1 k2 k3 k4 k5 from by simp [own_kind, hc1_1, hc10_3]), N0, e4⟩)
    · skip
      refine own_icmpYes X0 hx hby 10 17 d1_10 (feq hc10_3).2 (by decide) (by decide) ?_
      refine own_iloadN X0 hx hby d1_17 rfl ?_
      refine own_iconst X0 hx hby 2 d1_18 rfl ?_
      by_cases hc19_5 : p1 = (2 : Int32)
      · skip
        refine own_icmpNo X0 hx hby d1_19 (teq hc19_5).2 ?_
        obtain ⟨T6, X6, e6, st6⟩ := getS2 X0 hx hZ hown (host := "") (Or.inl (own_w hw 19 rfl)) Via.refl e0 S2 (g := (mkF m 22 #[.val (.int p1)] [])) rfl (hb hby d1_22)
        refine own_of (U' := (T6.setTop (mkF m 25 #[.val (.int p1)] [(.ref k2)]))) (st6) ?_
        exact own_retA X6 hx hlk Bd.returns rfl rfl (hb hby d1_25) (by decide) (by decide) (⟨congrArg (fun z => some (Value.ref z)) (show k2 = own_kind p1 k0 k1 k2 k3 k4 k5 from by simp [own_kind, hc1_1, hc10_3, hc19_5]), N0, e6⟩)
      · skip
        refine own_icmpYes X0 hx hby 19 26 d1_19 (feq hc19_5).2 (by decide) (by decide) ?_
        refine own_iloadN X0 hx hby d1_26 rfl ?_
        refine own_iconst X0 hx hby 3 d1_27 rfl ?_
        by_cases hc28_7 : p1 = (3 : Int32)
        · skip
          refine own_icmpNo X0 hx hby d1_28 (teq hc28_7).2 ?_
          obtain ⟨T8, X8, e8, st8⟩ := getS2 X0 hx hZ hown (host := "") (Or.inl (own_w hw 17 rfl)) Via.refl e0 S3 (g := (mkF m 31 #[.val (.int p1)] [])) rfl (hb hby d1_31)
          refine own_of (U' := (T8.setTop (mkF m 34 #[.val (.int p1)] [(.ref k3)]))) (st8) ?_
          exact own_retA X8 hx hlk Bd.returns rfl rfl (hb hby d1_34) (by decide) (by decide) (⟨congrArg (fun z => some (Value.ref z)) (show k3 = own_kind p1 k0 k1 k2 k3 k4 k5 from by simp [own_kind, hc1_1, hc10_3, hc19_5, hc28_7]), N0, e8⟩)
        · skip
          refine own_icmpYes X0 hx hby 28 35 d1_28 (feq hc28_7).2 (by decide) (by decide) ?_
          refine own_iloadN X0 hx hby d1_35 rfl ?_
          refine own_iconst X0 hx hby 4 d1_36 rfl ?_
          by_cases hc37_9 : p1 = (4 : Int32)
          · skip
            refine own_icmpNo X0 hx hby d1_37 (teq hc37_9).2 ?_
            obtain ⟨T10, X10, e10, st10⟩ := getS2 X0 hx hZ hown (host := "") (Or.inl (own_w hw 24 rfl)) Via.refl e0 S4 (g := (mkF m 40 #[.val (.int p1)] [])) rfl (hb hby d1_40)
            refine own_of (U' := (T10.setTop (mkF m 43 #[.val (.int p1)] [(.ref k4)]))) (st10) ?_
            exact own_retA X10 hx hlk Bd.returns rfl rfl (hb hby d1_43) (by decide) (by decide) (⟨congrArg (fun z => some (Value.ref z)) (show k4 = own_kind p1 k0 k1 k2 k3 k4 k5 from by simp [own_kind, hc1_1, hc10_3, hc19_5, hc28_7, hc37_9]), N0, e10⟩)
          · skip
            refine own_icmpYes X0 hx hby 37 44 d1_37 (feq hc37_9).2 (by decide) (by decide) ?_
            obtain ⟨T11, X11, e11, st11⟩ := getS2 X0 hx hZ hown (host := "") (Or.inl (own_w hw 23 rfl)) Via.refl e0 S5 (g := (mkF m 44 #[.val (.int p1)] [])) rfl (hb hby d1_44)
            refine own_of (U' := (T11.setTop (mkF m 47 #[.val (.int p1)] [(.ref k5)]))) (st11) ?_
            exact own_retA X11 hx hlk Bd.returns rfl rfl (hb hby d1_47) (by decide) (by decide) (⟨congrArg (fun z => some (Value.ref z)) (show k5 = own_kind p1 k0 k1 k2 k3 k4 k5 from by simp [own_kind, hc1_1, hc10_3, hc19_5, hc28_7, hc37_9]), N0, e11⟩)
abbrev mN_1 : MethodName := ⟨"com/example/lifecycle_runner/lifecyclerunner/model/LifecycleIsClaimablePinLaw", "expectedAt", "(I)Z"⟩
theorem d2_0 : decode method_3_code 0 = .ok (.iload_n 0, 1) := by decide +kernel
theorem d2_1 : decode method_3_code 1 = .ok (.ifCond .ne 5, 3) := by decide +kernel
theorem d2_4 : decode method_3_code 4 = .ok (.iconst 1, 1) := by decide +kernel
theorem d2_5 : decode method_3_code 5 = .ok (.ireturn, 1) := by decide +kernel
theorem d2_6 : decode method_3_code 6 = .ok (.iload_n 0, 1) := by decide +kernel
theorem d2_7 : decode method_3_code 7 = .ok (.iconst 1, 1) := by decide +kernel
theorem d2_8 : decode method_3_code 8 = .ok (.if_icmp .ne 5, 3) := by decide +kernel
theorem d2_11 : decode method_3_code 11 = .ok (.iconst 1, 1) := by decide +kernel
theorem d2_12 : decode method_3_code 12 = .ok (.ireturn, 1) := by decide +kernel
theorem d2_13 : decode method_3_code 13 = .ok (.iload_n 0, 1) := by decide +kernel
theorem d2_14 : decode method_3_code 14 = .ok (.iconst 2, 1) := by decide +kernel
theorem d2_15 : decode method_3_code 15 = .ok (.if_icmp .ne 5, 3) := by decide +kernel
theorem d2_18 : decode method_3_code 18 = .ok (.iconst 1, 1) := by decide +kernel
theorem d2_19 : decode method_3_code 19 = .ok (.ireturn, 1) := by decide +kernel
theorem d2_20 : decode method_3_code 20 = .ok (.iload_n 0, 1) := by decide +kernel
theorem d2_21 : decode method_3_code 21 = .ok (.iconst 3, 1) := by decide +kernel
theorem d2_22 : decode method_3_code 22 = .ok (.if_icmp .ne 5, 3) := by decide +kernel
theorem d2_25 : decode method_3_code 25 = .ok (.iconst 1, 1) := by decide +kernel
theorem d2_26 : decode method_3_code 26 = .ok (.ireturn, 1) := by decide +kernel
theorem d2_27 : decode method_3_code 27 = .ok (.iload_n 0, 1) := by decide +kernel
theorem d2_28 : decode method_3_code 28 = .ok (.iconst 4, 1) := by decide +kernel
theorem d2_29 : decode method_3_code 29 = .ok (.if_icmp .ne 5, 3) := by decide +kernel
theorem d2_32 : decode method_3_code 32 = .ok (.iconst 1, 1) := by decide +kernel
theorem d2_33 : decode method_3_code 33 = .ok (.ireturn, 1) := by decide +kernel
theorem d2_34 : decode method_3_code 34 = .ok (.iconst 0, 1) := by decide +kernel
theorem d2_35 : decode method_3_code 35 = .ok (.ireturn, 1) := by decide +kernel
theorem ef_e (m : MethodId) (x0 : Int32) : entryFrame m #[(.int x0)] 1 = mkF m 0 #[.val (.int x0)] [] := by first | (simp [entryFrame, mkF, argsToLocals, Value.category]; done) | rfl
def Qe (p1 : Int32) (h0 : Heap) (n0 : Nat) (v : Option Value) (h : Heap) (L : List Loc) : Prop := v = some (.int (own_exp p1)) ∧ Fr n0 L ∧ h = h0
set_option maxRecDepth 65536 in
set_option maxHeartbeats 40000000 in
theorem rme (l : Launch) (Z : State) (a0 : Array Value) (hw : ∀ d ∈ tables_1, d.before a0 Z = true) (ws : List Jvm.Cond) (p1 : Int32) (h0 : Heap) (n0 : Nat) (Z0 : n0 ≤ h0.size)  :
    MetFree l mN_1 (head1 (Jvm.Cond.code mN_1 method_3_code 1 (some .boolean) :: ws) ({ frames := 0, cells := 0, slots := 0, locals := 0 } : Room)) (fun a U => a = #[(.int p1)] ∧ Z.Warmed39 U.vm ∧ U.heap = h0) (fun _ _ _ _ _ => True) (fun _ U o U' => ∃ v L, o = .returned v ∧ (Qe p1 h0 n0) v U'.heap L ∧ FrameEnd U o U' L ({ frames := 0, cells := 0, slots := 0, locals := 0 } : Room).cells ({ frames := 0, cells := 0, slots := 0, locals := 0 } : Room).slots) := by
  refine MetFree.of_bodySF (plainFor_of_name pn_0) hisR ?_
  intro p e s m args below meth c s₁ Bd hml0 hP hK
  obtain ⟨rfl, hZ, hh⟩ := hP
  have hx := Bd.exec
  have hby := Bd.bytes
  have hml : c.maxLocals = 1 := hml0
  have hown : s.vm.findClass "com/example/lifecycle_runner/lifecyclerunner/model/LifecycleIsClaimablePinLaw" = some m.cls := findClass_of_methodNamed Bd.named
  have hnm := (name_of_methodNamed Bd.named Bd.method).1
  have hlk := Bd.notSynchronized
  have X0 : Stand p l e ({ frames := 0, cells := 0, slots := 0, locals := 0 } : Room) s m #[(.int p1)] below meth c s₁ [] 0 0 := Stand.of_body Bd
  have e0 : s₁.heap = h0 := by rw [← hh, Bd.state]; rfl
  have N0 := Fr.nil n0
  show own_Ends p e below s FrameEnd (Qe p1 h0 n0) 0 0 (s₁.setTop (entryFrame m #[(.int p1)] 1))
  refine own_of (U' := (s₁.setTop (mkF m 0 #[.val (.int p1)] []))) (fun _ k => castTop (ef_e m p1) k) ?_
  refine own_iloadN X0 hx hby d2_0 rfl ?_
  by_cases hc1_12 : p1 = (0 : Int32)
  · skip
    refine own_ifNo X0 hx hby d2_1 ((if0 _ _).trans (teq hc1_12).2) ?_
    refine own_iconst X0 hx hby 1 d2_4 rfl ?_
    exact own_retN X0 hx hlk (t := .boolean) Bd.returns (by simp) (hb hby d2_5) (by decide) (by decide) (⟨congrArg (fun z => some (Value.int z)) (show nar .boolean (1 : Int32) = own_exp p1 from by simp [own_exp, own_b0, own_b1, hc1_12]), N0, e0⟩)
  · skip
    refine own_ifYes X0 hx hby 1 6 d2_1 ((if0 _ _).trans (feq hc1_12).2) (by decide) (by decide) ?_
    refine own_iloadN X0 hx hby d2_6 rfl ?_
    refine own_iconst X0 hx hby 1 d2_7 rfl ?_
    by_cases hc8_13 : p1 = (1 : Int32)
    · skip
      refine own_icmpNo X0 hx hby d2_8 (teq hc8_13).2 ?_
      refine own_iconst X0 hx hby 1 d2_11 rfl ?_
      exact own_retN X0 hx hlk (t := .boolean) Bd.returns (by simp) (hb hby d2_12) (by decide) (by decide) (⟨congrArg (fun z => some (Value.int z)) (show nar .boolean (1 : Int32) = own_exp p1 from by simp [own_exp, own_b0, own_b1, hc1_12, hc8_13]), N0, e0⟩)
    · skip
      refine own_icmpYes X0 hx hby 8 13 d2_8 (feq hc8_13).2 (by decide) (by decide) ?_
      refine own_iloadN X0 hx hby d2_13 rfl ?_
      refine own_iconst X0 hx hby 2 d2_14 rfl ?_
      by_cases hc15_14 : p1 = (2 : Int32)
      · skip
        refine own_icmpNo X0 hx hby d2_15 (teq hc15_14).2 ?_
        refine own_iconst X0 hx hby 1 d2_18 rfl ?_
        exact own_retN X0 hx hlk (t := .boolean) Bd.returns (by simp) (hb hby d2_19) (by decide) (by decide) (⟨congrArg (fun z => some (Value.int z)) (show nar .boolean (1 : Int32) = own_exp p1 from by simp [own_exp, own_b0, own_b1, hc1_12, hc8_13, hc15_14]), N0, e0⟩)
      · skip
        refine own_icmpYes X0 hx hby 15 20 d2_15 (feq hc15_14).2 (by decide) (by decide) ?_
        refine own_iloadN X0 hx hby d2_20 rfl ?_
        refine own_iconst X0 hx hby 3 d2_21 rfl ?_
        by_cases hc22_15 : p1 = (3 : Int32)
        · skip
          refine own_icmpNo X0 hx hby d2_22 (teq hc22_15).2 ?_
          refine own_iconst X0 hx hby 1 d2_25 rfl ?_
          exact own_retN X0 hx hlk (t := .boolean) Bd.returns (by simp) (hb hby d2_26) (by decide) (by decide) (⟨congrArg (fun z => some (Value.int z)) (show nar .boolean (1 : Int32) = own_exp p1 from by simp [own_exp, own_b0, own_b1, hc1_12, hc8_13, hc15_14, hc22_15]), N0, e0⟩)
        · skip
          refine own_icmpYes X0 hx hby 22 27 d2_22 (feq hc22_15).2 (by decide) (by decide) ?_
          refine own_iloadN X0 hx hby d2_27 rfl ?_
          refine own_iconst X0 hx hby 4 d2_28 rfl ?_
          by_cases hc29_16 : p1 = (4 : Int32)
          · skip
            refine own_icmpNo X0 hx hby d2_29 (teq hc29_16).2 ?_
            refine own_iconst X0 hx hby 1 d2_32 rfl ?_
            exact own_retN X0 hx hlk (t := .boolean) Bd.returns (by simp) (hb hby d2_33) (by decide) (by decide) (⟨congrArg (fun z => some (Value.int z)) (show nar .boolean (1 : Int32) = own_exp p1 from by simp [own_exp, own_b0, own_b1, hc1_12, hc8_13, hc15_14, hc22_15, hc29_16]), N0, e0⟩)
          · skip
            refine own_icmpYes X0 hx hby 29 34 d2_29 (feq hc29_16).2 (by decide) (by decide) ?_
            refine own_iconst X0 hx hby 0 d2_34 rfl ?_
            exact own_retN X0 hx hlk (t := .boolean) Bd.returns (by simp) (hb hby d2_35) (by decide) (by decide) (⟨congrArg (fun z => some (Value.int z)) (show nar .boolean (0 : Int32) = own_exp p1 from by simp [own_exp, own_b0, own_b1, hc1_12, hc8_13, hc15_14, hc22_15, hc29_16]), N0, e0⟩)
abbrev mN_2 : MethodName := ⟨"com/example/lifecycle_runner/lifecyclerunner/model/Lifecycle", "isClaimable", "(Lcom/example/lifecycle_runner/lifecyclerunner/model/StateKind;)Z"⟩
theorem d3_0 : decode prog_31_method_9_code 0 = .ok (.aload_n 0, 1) := by decide +kernel
theorem d3_1 : decode prog_31_method_9_code 1 = .ok (.getstatic 189, 3) := by decide +kernel
theorem d3_4 : decode prog_31_method_9_code 4 = .ok (.if_acmp .eq 7, 3) := by decide +kernel
theorem d3_7 : decode prog_31_method_9_code 7 = .ok (.iconst 1, 1) := by decide +kernel
theorem d3_8 : decode prog_31_method_9_code 8 = .ok (.goto 4, 3) := by decide +kernel
theorem d3_11 : decode prog_31_method_9_code 11 = .ok (.iconst 0, 1) := by decide +kernel
theorem d3_12 : decode prog_31_method_9_code 12 = .ok (.ireturn, 1) := by decide +kernel
theorem pn_1 : plainName "com/example/lifecycle_runner/lifecyclerunner/model/Lifecycle" = true := by first | (simp [plainName, overriddenIn]; done) | decide +kernel
theorem ef_c (m : MethodId) (x0 : Addr) : entryFrame m #[(.ref x0)] 1 = mkF m 0 #[.val (.ref x0)] [] := by first | (simp [entryFrame, mkF, argsToLocals, Value.category]; done) | rfl
def Qc (a1 k5 : Addr) (h0 : Heap) (n0 : Nat) (v : Option Value) (h : Heap) (L : List Loc) : Prop := v = some (.int (own_cl a1 k5)) ∧ Fr n0 L ∧ h = h0
set_option maxRecDepth 65536 in
set_option maxHeartbeats 40000000 in
theorem rmc (l : Launch) (Z : State) (a0 : Array Value) (hw : ∀ d ∈ tables_1, d.before a0 Z = true) (ws : List Jvm.Cond) (a1 k5 : Addr) (h0 : Heap) (n0 : Nat) (Z0 : n0 ≤ h0.size) (S5 : Sta Z h0 "com/example/lifecycle_runner/lifecyclerunner/model/StateKind" "TERMINAL" "Lcom/example/lifecycle_runner/lifecyclerunner/model/StateKind;" (.ref k5)) :
    MetFree l mN_2 (head1 (Jvm.Cond.code mN_2 prog_31_method_9_code 1 (some .boolean) :: ws) ({ frames := 0, cells := 0, slots := 0, locals := 0 } : Room)) (fun a U => a = #[(.ref a1)] ∧ Z.Warmed39 U.vm ∧ U.heap = h0) (fun _ _ _ _ _ => True) (fun _ U o U' => ∃ v L, o = .returned v ∧ (Qc a1 k5 h0 n0) v U'.heap L ∧ FrameEnd U o U' L ({ frames := 0, cells := 0, slots := 0, locals := 0 } : Room).cells ({ frames := 0, cells := 0, slots := 0, locals := 0 } : Room).slots) := by
  refine MetFree.of_bodySF (plainFor_of_name pn_1) hisR ?_
  intro p e s m args below meth c s₁ Bd hml0 hP hK
  obtain ⟨rfl, hZ, hh⟩ := hP
  have hx := Bd.exec
  have hby := Bd.bytes
  have hml : c.maxLocals = 1 := hml0
  have hown : s.vm.findClass "com/example/lifecycle_runner/lifecyclerunner/model/Lifecycle" = some m.cls := findClass_of_methodNamed Bd.named
  have hnm := (name_of_methodNamed Bd.named Bd.method).1
  have hlk := Bd.notSynchronized
  have X0 : Stand p l e ({ frames := 0, cells := 0, slots := 0, locals := 0 } : Room) s m #[(.ref a1)] below meth c s₁ [] 0 0 := Stand.of_body Bd
  have e0 : s₁.heap = h0 := by rw [← hh, Bd.state]; rfl
  have N0 := Fr.nil n0
  show own_Ends p e below s FrameEnd (Qc a1 k5 h0 n0) 0 0 (s₁.setTop (entryFrame m #[(.ref a1)] 1))
  refine own_of (U' := (s₁.setTop (mkF m 0 #[.val (.ref a1)] []))) (fun _ k => castTop (ef_c m a1) k) ?_
  refine own_aloadN X0 hx hby d3_0 rfl rfl ?_
  obtain ⟨T17, X17, e17, st17⟩ := getS2 X0 hx hZ hown (host := "") (Or.inl (own_w hw 15 rfl)) Via.refl e0 S5 (g := (mkF m 1 #[.val (.ref a1)] [(.ref a1)])) rfl (hb hby d3_1)
  refine own_of (U' := (T17.setTop (mkF m 4 #[.val (.ref a1)] [(.ref k5), (.ref a1)]))) (st17) ?_
  by_cases hc4_18 : a1 = k5
  · skip
    refine own_of (U' := (T17.setTop (mkF m 11 #[.val (.ref a1)] []))) (fun _ k => Jvm.RoadKit.acmp (g := (mkF m 4 #[.val (.ref a1)] [(.ref k5), (.ref a1)])) X17 hx rfl rfl rfl (pc0 := 4) (pc' := 11) (same := true) rfl (hb hby d3_4) rfl (decide_eq_true (congrArg Value.ref hc4_18)) (by decide) (by decide) k) ?_
    refine own_iconst X17 hx hby 0 d3_11 rfl ?_
    exact own_retN X17 hx hlk (t := .boolean) Bd.returns (by simp) (hb hby d3_12) (by decide) (by decide) (⟨congrArg (fun z => some (Value.int z)) (show nar .boolean (0 : Int32) = own_cl a1 k5 from by simp [own_cl, own_b0, own_b1, hc4_18]), N0, e17⟩)
  · skip
    refine own_of (U' := (T17.setTop (mkF m 7 #[.val (.ref a1)] []))) (fun _ k => Jvm.RoadKit.acmp (g := (mkF m 4 #[.val (.ref a1)] [(.ref k5), (.ref a1)])) X17 hx rfl rfl rfl (pc0 := 4) (pc' := 7) (same := false) rfl (hb hby d3_4) rfl (decide_eq_false fun q => hc4_18 (Value.ref.inj q)) (by decide) (by decide) k) ?_
    refine own_iconst X17 hx hby 1 d3_7 rfl ?_
    refine own_goto X17 hx hby 8 12 d3_8 (by decide) (by decide) ?_
    exact own_retN X17 hx hlk (t := .boolean) Bd.returns (by simp) (hb hby d3_12) (by decide) (by decide) (⟨congrArg (fun z => some (Value.int z)) (show nar .boolean (1 : Int32) = own_cl a1 k5 from by simp [own_cl, own_b0, own_b1, hc4_18]), N0, e17⟩)
theorem pd_0 : parseMethodDescriptor "(I)Lcom/example/lifecycle_runner/lifecyclerunner/model/StateKind;" = some ⟨[.int], some (.object "com/example/lifecycle_runner/lifecyclerunner/model/StateKind")⟩ := by decide +kernel
theorem pd_1 : parseMethodDescriptor "(I)Z" = some ⟨[.int], some .boolean⟩ := by decide +kernel
theorem pd_2 : parseMethodDescriptor "(Lcom/example/lifecycle_runner/lifecyclerunner/model/StateKind;)Z" = some ⟨[(.object "com/example/lifecycle_runner/lifecyclerunner/model/StateKind")], some .boolean⟩ := by decide +kernel
theorem ef_0 (m : MethodId) (x0 : Int32) : entryFrame m #[(.int x0)] maxLocals = mkF m 0 #[.val (.int x0), .unset, .unset, .unset] [] := by first | (simp [entryFrame, mkF, argsToLocals, Value.category, maxLocals]; done) | rfl
def Q0 (n0 : Nat) (v : Option Value) (h : Heap) (L : List Loc) : Prop := v = some (.int 1) ∧ Fr n0 L
set_option maxRecDepth 65536 in
set_option maxHeartbeats 40000000 in
theorem rm0 (l : Launch) (Z : State) (a0 : Array Value) (hw : ∀ d ∈ tables_1, d.before a0 Z = true) (ws : List Jvm.Cond) (p1 : Int32) (k0 k1 k2 k3 k4 k5 : Addr) (h0 : Heap) (n0 : Nat) (Z0 : n0 ≤ h0.size) (S0 : Sta Z h0 "com/example/lifecycle_runner/lifecyclerunner/model/StateKind" "INITIAL" "Lcom/example/lifecycle_runner/lifecyclerunner/model/StateKind;" (.ref k0)) (S1 : Sta Z h0 "com/example/lifecycle_runner/lifecyclerunner/model/StateKind" "WORKING" "Lcom/example/lifecycle_runner/lifecyclerunner/model/StateKind;" (.ref k1)) (S2 : Sta Z h0 "com/example/lifecycle_runner/lifecyclerunner/model/StateKind" "WAITING" "Lcom/example/lifecycle_runner/lifecyclerunner/model/StateKind;" (.ref k2)) (S3 : Sta Z h0 "com/example/lifecycle_runner/lifecyclerunner/model/StateKind" "PAUSED" "Lcom/example/lifecycle_runner/lifecyclerunner/model/StateKind;" (.ref k3)) (S4 : Sta Z h0 "com/example/lifecycle_runner/lifecyclerunner/model/StateKind" "FAILED" "Lcom/example/lifecycle_runner/lifecyclerunner/model/StateKind;" (.ref k4)) (S5 : Sta Z h0 "com/example/lifecycle_runner/lifecyclerunner/model/StateKind" "TERMINAL" "Lcom/example/lifecycle_runner/lifecyclerunner/model/StateKind;" (.ref k5)) (ne0 : k0 ≠ k5) (ne1 : k1 ≠ k5) (ne2 : k2 ≠ k5) (ne3 : k3 ≠ k5) (ne4 : k4 ≠ k5) :
    MetFree l x (head1 (Jvm.Cond.code x code maxLocals ret :: ws) room_1) (fun a U => a = #[(.int p1)] ∧ Z.Warmed39 U.vm ∧ U.heap = h0) (fun _ _ _ _ _ => True) (fun _ U o U' => ∃ v L, o = .returned v ∧ (Q0 n0) v U'.heap L ∧ FrameEnd U o U' L 0 0) := by
  refine MetFree.of_bodySF (plainFor_of_name pn_0) hisR ?_
  intro p e s m args below meth c s₁ Bd hml0 hP hK
  obtain ⟨rfl, hZ, hh⟩ := hP
  have hx := Bd.exec
  have hby := Bd.bytes
  have hml : c.maxLocals = 4 := hml0
  have hown : s.vm.findClass "com/example/lifecycle_runner/lifecyclerunner/model/LifecycleIsClaimablePinLaw" = some m.cls := findClass_of_methodNamed Bd.named
  have hnm := (name_of_methodNamed Bd.named Bd.method).1
  have hlk := Bd.notSynchronized
  have X0 : Stand p l e room_1 s m #[(.int p1)] below meth c s₁ [] 0 0 := Stand.of_body Bd
  have e0 : s₁.heap = h0 := by rw [← hh, Bd.state]; rfl
  have N0 := Fr.nil n0
  show own_Ends p e below s FrameEnd (Q0 n0) 0 0 (s₁.setTop (entryFrame m #[(.int p1)] maxLocals))
  refine own_of (U' := (s₁.setTop (mkF m 0 #[.val (.int p1), .unset, .unset, .unset] []))) (fun _ k => castTop (ef_0 m p1) k) ?_
  refine own_iloadN X0 hx hby at_0 rfl ?_
  refine own_of (U' := (s₁.setTop (mkF m 3 #[.val (.int p1), .unset, .unset, .unset] [(.int (2147483647 : Int32)), (.int p1)]))) (X0.ldcInt hx hown (mvT hZ (own_w hw 0 rfl)) (g := (mkF m 1 #[.val (.int p1), .unset, .unset, .unset] [(.int p1)])) rfl (hb hby at_1)) ?_
  refine own_iand X0 hx hby at_3 ?_
  refine own_bipush X0 hx hby 6 at_4 rfl ?_
  refine own_of (U' := (s₁.setTop (mkF m 7 #[.val (.int p1), .unset, .unset, .unset] [(.int ((p1 &&& (2147483647 : Int32)) % (6 : Int32)))]))) (fun _ k => iremM (g := (mkF m 6 #[.val (.int p1), .unset, .unset, .unset] [(.int (6 : Int32)), (.int (p1 &&& (2147483647 : Int32)))])) X0 hx rfl (hb hby at_6) rfl (by decide) k) ?_
  obtain ⟨i1, hi1⟩ : ∃ z, z = ((p1 &&& (2147483647 : Int32)) % (6 : Int32)) := ⟨_, rfl⟩
  refine own_eq (U' := (s₁.setTop (mkF m 7 #[.val (.int p1), .unset, .unset, .unset] [(.int i1)]))) (by rw [hi1]) ?_
  refine own_istoreN X0 hx hby at_7 (l' := #[.val (.int p1), .val (.int i1), .unset, .unset]) rfl ?_
  refine own_iloadN X0 hx hby at_8 rfl ?_
  obtain ⟨_, _, ⟨T19, L19, k19, n19⟩, -, X19, ⟨Lc19, hQ19, l19, y19, z19⟩, st19⟩ := Jvm.LawKit.callS X0 hx (y := mN_0) hown (mvT hZ (own_w hw 1 rfl)) (mvT hZ (own_w hw 2 rfl)) (mvT hZ (own_w hw 3 rfl)) (mvT hZ (own_w hw 4 rfl)) (by decide) (backOf (W := 0) (rmk l Z a0 hw [] i1 k0 k1 k2 k3 k4 k5 h0 n0 Z0 S0 S1 S2 S3 S4 S5) hZ (own_w hw 4 rfl) (own_w hw 3 rfl) (by decide) (by decide)) (g := (mkF m 9 #[.val (.int p1), .val (.int i1), .unset, .unset] [(.int i1)])) rfl (by rw [hml]; rfl) (argsL := [(.int i1)]) (rest := []) (lenOf pd_0 rfl) rfl (by show 2 * 0 + _ ≤ _; exact Nat.le_of_eq rfl) (hb hby at_9) (fun _ _ => ⟨rfl, e0, (by decide : 0 + 0 ≤ _), (by decide : 0 + 0 ≤ _)⟩)
  dsimp only [Pt.U, Pt.locs, Pt.cells, Pt.slots] at X19 l19 y19 z19 st19 hQ19
  subst l19 y19 z19
  obtain ⟨rfl, Nq19, e19⟩ := hQ19
  have N19 := Fr.app N0 Nq19
  refine own_of (U' := (T19.setTop (mkF m 12 #[.val (.int p1), .val (.int i1), .unset, .unset] [(.ref (own_kind i1 k0 k1 k2 k3 k4 k5))]))) (st19) ?_
  obtain ⟨kd, hkd⟩ : ∃ z, z = (own_kind i1 k0 k1 k2 k3 k4 k5) := ⟨_, rfl⟩
  refine own_eq (U' := (T19.setTop (mkF m 12 #[.val (.int p1), .val (.int i1), .unset, .unset] [(.ref kd)]))) (by rw [hkd]) ?_
  refine own_astoreN X19 hx hby at_12 rfl (l' := #[.val (.int p1), .val (.int i1), .val (.ref kd), .unset]) rfl ?_
  refine own_iloadN X19 hx hby at_13 rfl ?_
  obtain ⟨_, _, ⟨T20, L20, k20, n20⟩, -, X20, ⟨Lc20, hQ20, l20, y20, z20⟩, st20⟩ := Jvm.LawKit.callS X19 hx (y := mN_1) hown (mvT hZ (own_w hw 8 rfl)) (mvT hZ (own_w hw 9 rfl)) (mvT hZ (own_w hw 3 rfl)) (mvT hZ (own_w hw 10 rfl)) (by decide) (backOf (W := 0) (rme l Z a0 hw [] i1 h0 n0 Z0 ) hZ (own_w hw 10 rfl) (own_w hw 3 rfl) (by decide) (by decide)) (g := (mkF m 14 #[.val (.int p1), .val (.int i1), .val (.ref kd), .unset] [(.int i1)])) rfl (by rw [hml]; rfl) (argsL := [(.int i1)]) (rest := []) (lenOf pd_1 rfl) rfl (by show 2 * 0 + _ ≤ _; exact Nat.le_of_eq rfl) (hb hby at_14) (fun _ _ => ⟨rfl, e19, (by decide : 0 + 0 ≤ _), (by decide : 0 + 0 ≤ _)⟩)
  dsimp only [Pt.U, Pt.locs, Pt.cells, Pt.slots] at X20 l20 y20 z20 st20 hQ20
  subst l20 y20 z20
  obtain ⟨rfl, Nq20, e20⟩ := hQ20
  have N20 := Fr.app N19 Nq20
  refine own_of (U' := (T20.setTop (mkF m 17 #[.val (.int p1), .val (.int i1), .val (.ref kd), .unset] [(.int (own_exp i1))]))) (st20) ?_
  refine own_istoreN X20 hx hby at_17 (l' := #[.val (.int p1), .val (.int i1), .val (.ref kd), .val (.int (own_exp i1))]) rfl ?_
  refine own_aloadN X20 hx hby at_18 rfl rfl ?_
  obtain ⟨_, _, ⟨T21, L21, k21, n21⟩, -, X21, ⟨Lc21, hQ21, l21, y21, z21⟩, st21⟩ := Jvm.LawKit.callS X20 hx (y := mN_2) hown (mvT hZ (own_w hw 11 rfl)) (mvT hZ (own_w hw 12 rfl)) (mvT hZ (own_w hw 13 rfl)) (mvT hZ (own_w hw 14 rfl)) (by decide) (backOf (W := 0) (rmc l Z a0 hw [] kd k5 h0 n0 Z0 S5) hZ (own_w hw 14 rfl) (own_w hw 13 rfl) (by decide) (by decide)) (g := (mkF m 19 #[.val (.int p1), .val (.int i1), .val (.ref kd), .val (.int (own_exp i1))] [(.ref kd)])) rfl (by rw [hml]; rfl) (argsL := [(.ref kd)]) (rest := []) (lenOf pd_2 rfl) rfl (by show 2 * 0 + _ ≤ _; exact Nat.le_of_eq rfl) (hb hby at_19) (fun _ _ => ⟨rfl, e20, (by decide : 0 + 0 ≤ _), (by decide : 0 + 0 ≤ _)⟩)
  dsimp only [Pt.U, Pt.locs, Pt.cells, Pt.slots] at X21 l21 y21 z21 st21 hQ21
  subst l21 y21 z21
  obtain ⟨rfl, Nq21, e21⟩ := hQ21
  have N21 := Fr.app N20 Nq21
  refine own_of (U' := (T21.setTop (mkF m 22 #[.val (.int p1), .val (.int i1), .val (.ref kd), .val (.int (own_exp i1))] [(.int (own_cl kd k5))]))) (st21) ?_
  refine own_iloadN X21 hx hby at_22 rfl ?_
  have hc23_22 : (own_cl kd k5) = (own_exp i1) := by rw [hkd]; exact own_law i1 ne0 ne1 ne2 ne3 ne4
  refine own_icmpNo X21 hx hby at_23 (teq hc23_22).2 ?_
  refine own_iconst X21 hx hby 1 at_26 rfl ?_
  refine own_goto X21 hx hby 27 31 at_27 (by decide) (by decide) ?_
  exact own_retN X21 hx hlk (t := .boolean) Bd.returns (by simp) (hb hby at_31) (by decide) (by decide) (⟨rfl, N21⟩)
set_option maxRecDepth 65536 in
set_option maxHeartbeats 40000000 in
theorem comes_1 {Post : Tables → Env → Array Value → State → Outcome → State → Prop} (hpost : ∀ tb e args s v u, (limb_1_1.after args s (.returned v) u = true ∧ limb_1_2.after args s (.returned v) u = true ∧ True) → FrameEnd s (.returned v) u (Jvm.fieldLocs frame_1_writes args s ++ Jvm.arrayLocs frame_1_arrays args s ++ Jvm.staticLocs frame_1_statics s) 0 0 → Post tb e args s (.returned v) u) :
    ArmFor flags0 classFile x code maxLocals ret World_1 tables_1 room_1 Calls_1 rest_1 Pre_1 Post := by
  intro l hfl _ _ p e ha hc hk s m args below hf hA hF happ hP
  obtain ⟨hcalls, hrest, hpre⟩ := hP
  obtain ⟨-, -, -, hnamed, -, -, -, hat⟩ := (Spec.applies_iff hf).mp happ
  obtain ⟨hg, hn⟩ := and_e (Cond.before_iff.mp (show (Jvm.Cond.and given_1 narrow_1).before args s = true from hpre))
  obtain ⟨hcount, hv0⟩ := and_e hg
  obtain ⟨w0, rfl⟩ : ∃ w0 : Value, args = #[w0] := by
    have hs : args.size = 1 := by simpa [Cond.value, given_1] using hcount
    obtain ⟨L⟩ := args
    match L, hs with
    | [w0], _ => exact ⟨w0, rfl⟩
  have hw := fun d (hd : d ∈ tables_1) => atoms_spec (ws := Jvm.Cond.code x code maxLocals ret :: tables_1) hat d (List.mem_cons_of_mem _ hd)
  have hfit : Fit s := fun {y c} hc i hi => by
    obtain ⟨ha, rfl⟩ := Array.getElem?_eq_some_iff.mp hc
    have q := List.all_eq_true.mp ((Array.all_eq_true_iff_forall_mem.mp hF) _ (Array.getElem_mem ha)) i (List.mem_range.mpr hi)
    simpa [Array.getElem?_eq_getElem hi] using q
  obtain ⟨i0, ei0⟩ := is_v hv0
  obtain rfl : w0 = (.int i0) := Option.some.inj ei0
  obtain ⟨nn0, nr0⟩ := and_e hn
  obtain ⟨nn1, nr1⟩ := and_e nr0
  obtain ⟨nn2, nr2⟩ := and_e nr1
  obtain ⟨nn3, nr3⟩ := and_e nr2
  obtain ⟨nn4, nr4⟩ := and_e nr3
  obtain ⟨nn5, nr5⟩ := and_e nr4
  obtain ⟨nn6, nr6⟩ := and_e nr5
  obtain ⟨nn7, nr7⟩ := and_e nr6
  obtain ⟨nn8, nr8⟩ := and_e nr7
  obtain ⟨nn9, nr9⟩ := and_e nr8
  obtain ⟨nn10, nr10⟩ := and_e nr9
  obtain ⟨a0, ea0⟩ := exa_v nn0
  have S0 : Sta s s.heap "com/example/lifecycle_runner/lifecyclerunner/model/StateKind" "INITIAL" "Lcom/example/lifecycle_runner/lifecyclerunner/model/StateKind;" (.ref a0) := Sta.start ea0 (Or.inr ⟨(own_w hw 6 rfl), (own_w hw 7 rfl)⟩)
  have E0 : Exa s s.heap a0 "com/example/lifecycle_runner/lifecyclerunner/model/StateKind" := Exa.start ea0 nn0
  have F0 : Fld s s.heap a0 "java/lang/Enum" "ordinal" "I" (.int (0 : Int32)) := Fld.start ((fld_at ea0).symm.trans (own_eqk nn2))
  obtain ⟨a1, ea1⟩ := exa_v nn8
  have S1 : Sta s s.heap "com/example/lifecycle_runner/lifecyclerunner/model/StateKind" "WORKING" "Lcom/example/lifecycle_runner/lifecyclerunner/model/StateKind;" (.ref a1) := Sta.start ea1 (Or.inr ⟨(own_w hw 6 rfl), (own_w hw 22 rfl)⟩)
  have E1 : Exa s s.heap a1 "com/example/lifecycle_runner/lifecyclerunner/model/StateKind" := Exa.start ea1 nn8
  have F1 : Fld s s.heap a1 "java/lang/Enum" "ordinal" "I" (.int (1 : Int32)) := Fld.start ((fld_at ea1).symm.trans (own_eqk nn9))
  obtain ⟨a2, ea2⟩ := exa_v nn6
  have S2 : Sta s s.heap "com/example/lifecycle_runner/lifecyclerunner/model/StateKind" "WAITING" "Lcom/example/lifecycle_runner/lifecyclerunner/model/StateKind;" (.ref a2) := Sta.start ea2 (Or.inr ⟨(own_w hw 6 rfl), (own_w hw 20 rfl)⟩)
  have E2 : Exa s s.heap a2 "com/example/lifecycle_runner/lifecyclerunner/model/StateKind" := Exa.start ea2 nn6
  have F2 : Fld s s.heap a2 "java/lang/Enum" "ordinal" "I" (.int (2 : Int32)) := Fld.start ((fld_at ea2).symm.trans (own_eqk nn7))
  obtain ⟨a3, ea3⟩ := exa_v nn4
  have S3 : Sta s s.heap "com/example/lifecycle_runner/lifecyclerunner/model/StateKind" "PAUSED" "Lcom/example/lifecycle_runner/lifecyclerunner/model/StateKind;" (.ref a3) := Sta.start ea3 (Or.inr ⟨(own_w hw 6 rfl), (own_w hw 18 rfl)⟩)
  have E3 : Exa s s.heap a3 "com/example/lifecycle_runner/lifecyclerunner/model/StateKind" := Exa.start ea3 nn4
  have F3 : Fld s s.heap a3 "java/lang/Enum" "ordinal" "I" (.int (3 : Int32)) := Fld.start ((fld_at ea3).symm.trans (own_eqk nn5))
  obtain ⟨a4, ea4⟩ := exa_v nn10
  have S4 : Sta s s.heap "com/example/lifecycle_runner/lifecyclerunner/model/StateKind" "FAILED" "Lcom/example/lifecycle_runner/lifecyclerunner/model/StateKind;" (.ref a4) := Sta.start ea4 (Or.inr ⟨(own_w hw 6 rfl), (own_w hw 25 rfl)⟩)
  have E4 : Exa s s.heap a4 "com/example/lifecycle_runner/lifecyclerunner/model/StateKind" := Exa.start ea4 nn10
  have F4 : Fld s s.heap a4 "java/lang/Enum" "ordinal" "I" (.int (4 : Int32)) := Fld.start ((fld_at ea4).symm.trans (own_eqk nr10))
  obtain ⟨a5, ea5⟩ := exa_v nn1
  have S5 : Sta s s.heap "com/example/lifecycle_runner/lifecyclerunner/model/StateKind" "TERMINAL" "Lcom/example/lifecycle_runner/lifecyclerunner/model/StateKind;" (.ref a5) := Sta.start ea5 (Or.inr ⟨(own_w hw 6 rfl), (own_w hw 16 rfl)⟩)
  have E5 : Exa s s.heap a5 "com/example/lifecycle_runner/lifecyclerunner/model/StateKind" := Exa.start ea5 nn1
  have F5 : Fld s s.heap a5 "java/lang/Enum" "ordinal" "I" (.int (5 : Int32)) := Fld.start ((fld_at ea5).symm.trans (own_eqk nn3))
  obtain ⟨n, o, h1, h2, h3, _, L, rfl, ⟨rfl, N⟩, hq⟩ := rm0 l s _ hw tables_1 i0 a0 a1 a2 a3 a4 a5 s.heap s.heap.size (Nat.le_refl _) S0 S1 S2 S3 S4 S5 (F0.ne F5 (by decide)) (F1.ne F5 (by decide)) (F2.ne F5 (by decide)) (F3.ne F5 (by decide)) (F4.ne F5 (by decide)) p e ha hc hk s m _ below hf ((Spec.applies_iff_loose hf).mp happ).1 ⟨rfl, State.Warmed39.refl s, rfl⟩ trivial
  exact ⟨n, _, h1, h2, h3, hpost _ _ _ _ _ _ ⟨Cond.after_iff.mpr rfl, Cond.after_iff.mpr (eq_i res_at (Term.int_eval (1)) rfl), trivial⟩ ⟨hq.1, hq.2.1, (hq.2.2.sift fun y hy => Or.inr (N y hy)).mono (by decide) (by decide)⟩⟩
theorem main_1_1 : Claimed_1_1 := comes_1 fun _ _ _ _ _ _ h hF => ⟨h.1, hF⟩
theorem main_1_2 : Claimed_1_2 := comes_1 fun _ _ _ _ _ _ h hF => ⟨h.2.1, hF⟩
end Jvm.Pilot.@@N@@
namespace Jvm.Pilot.@@N@@
open Jvm Jvm.ClassFile Sem Op Lib Jvm.Free Jvm.Stand Jvm.Pilot.@@N@@.Jvm.D
/-! MADE BY PROGRAM (witnessworld.py) out of the Statement's table words and the real class files: 13 classes; the members and pool entries that the words name. The judged class is class 1, her method 3. -/
namespace start1
open Jvm.ClassFile
def u (s : String) : CpInfo := .utf8 (stringToUtf16 s)
/-- a pool by its gaps: so many unusable entries, then the entry; so many at the end -/
def gap : Nat → List CpInfo → List CpInfo
  | 0, r => r
  | n + 1, r => .unusable :: gap n r
def poolList (es : List (Nat × CpInfo)) (last : Nat) : List CpInfo := es.foldr (fun e r => gap e.1 (e.2 :: r)) (gap last [])
def pool (es : List (Nat × CpInfo)) (last : Nat) : Array CpInfo := ⟨poolList es last⟩
def fileOf (pool : Array CpInfo) (this : Nat) (attrs : Array Attribute := #[]) (ms : Array MethodInfo := #[]) (fl : Nat := 33) (sup : Nat := 0) (ifs : Array Nat := #[]) (fds : Array FieldInfo := #[]) : ClassFile where
  minorVersion := 0
  majorVersion := 65
  constantPool := pool
  accessFlags := fl
  thisClass := this
  superClass := sup
  interfaces := ifs
  fields := fds
  methods := ms
  attributes := attrs
def plain (name : String) (sup : Option ClassId) : Class where
  name := name
  kind := .ordinary
  loader := none
  accessFlags := 33
  super := sup
  interfaces := #[]
  cf := none
  fields := #[]
  methods := #[]
  instanceTypes := #[]
  staticTypes := #[]
  resolved := #[]
  callSites := []
  init := .initialized
  statics := none
  mirror := none

def pool0 : Array CpInfo := pool [(5, u "<init>"), (0, u "()V"), (1, .class_ 10), (1, u "java/lang/Object")] 113

def k0m0 : Method := { name := "<init>", desc := "()V", sig := { parameters := [], returnType := none }, accessFlags := 1, code := none }
/-- java/lang/Object -/
def k0 : Class := { plain "java/lang/Object" none with
  accessFlags := 33
  interfaces := #[]
  cf := some (fileOf pool0 8 #[] #[{ accessFlags := 1, nameIndex := 5, descriptorIndex := 6, attributes := #[] }] 33 0 #[] #[])
  fields := #[]
  methods := #[k0m0]
  instanceTypes := #[]
  staticTypes := #[]
  resolved := Array.replicate 124 none
  statics := none }

def pool1 : Array CpInfo := pool [(2, .class_ 4), (1, u "java/lang/Object"), (0, u "<init>"), (0, u "()V"), (0, .fieldref 8 9), (0, .class_ 10), (0, .nameAndType 11 12), (0, u "com/example/lifecycle_runner/lifecyclerunner/model/StateKind"), (0, u "INITIAL"), (0, u "Lcom/example/lifecycle_runner/lifecyclerunner/model/StateKind;"), (0, .fieldref 8 14), (0, .nameAndType 15 12), (0, u "WORKING"), (0, .fieldref 8 17), (0, .nameAndType 18 12), (0, u "WAITING"), (0, .fieldref 8 20), (0, .nameAndType 21 12), (0, u "PAUSED"), (0, .fieldref 8 23), (0, .nameAndType 24 12), (0, u "FAILED"), (0, .fieldref 8 26), (0, .nameAndType 27 12), (0, u "TERMINAL"), (0, .integer 2147483647), (0, .methodref 30 31), (0, .class_ 32), (0, .nameAndType 33 34), (0, u "com/example/lifecycle_runner/lifecyclerunner/model/LifecycleIsClaimablePinLaw"), (0, u "kindAt"), (0, u "(I)Lcom/example/lifecycle_runner/lifecyclerunner/model/StateKind;"), (0, .methodref 30 36), (0, .nameAndType 37 38), (0, u "expectedAt"), (0, u "(I)Z"), (0, .methodref 40 41), (0, .class_ 42), (0, .nameAndType 43 44), (0, u "com/example/lifecycle_runner/lifecyclerunner/model/Lifecycle"), (0, u "isClaimable"), (0, u "(Lcom/example/lifecycle_runner/lifecyclerunner/model/StateKind;)Z"), (3, u "law")] 2

def k1m0 : Method := { name := "<init>", desc := "()V", sig := { parameters := [], returnType := none }, accessFlags := 2, code := none }
def k1c1 : Code := { maxStack := 2, maxLocals := 1, code := method_2_code, exceptionTable := #[], attributes := #[] }
def k1m1 : Method := { name := "kindAt", desc := "(I)Lcom/example/lifecycle_runner/lifecyclerunner/model/StateKind;", sig := { parameters := [.int], returnType := some (.object "com/example/lifecycle_runner/lifecyclerunner/model/StateKind") }, accessFlags := 10, code := some k1c1 }
def k1c2 : Code := { maxStack := 2, maxLocals := 1, code := method_3_code, exceptionTable := #[], attributes := #[] }
def k1m2 : Method := { name := "expectedAt", desc := "(I)Z", sig := { parameters := [.int], returnType := some .boolean }, accessFlags := 10, code := some k1c2 }
def k1c3 : Code := { maxStack := 2, maxLocals := 4, code := code, exceptionTable := #[], attributes := #[] }
def k1m3 : Method := { name := "law", desc := "(I)Z", sig := { parameters := [.int], returnType := some .boolean }, accessFlags := 9, code := some k1c3 }
/-- com/example/lifecycle_runner/lifecyclerunner/model/LifecycleIsClaimablePinLaw -/
def k1 : Class := { plain "com/example/lifecycle_runner/lifecyclerunner/model/LifecycleIsClaimablePinLaw" (some 0) with
  accessFlags := 49
  interfaces := #[]
  cf := some (fileOf pool1 30 #[] #[{ accessFlags := 2, nameIndex := 5, descriptorIndex := 6, attributes := #[] }, { accessFlags := 10, nameIndex := 33, descriptorIndex := 34, attributes := #[] }, { accessFlags := 10, nameIndex := 37, descriptorIndex := 38, attributes := #[] }, { accessFlags := 9, nameIndex := 48, descriptorIndex := 38, attributes := #[] }] 49 2 #[] #[])
  fields := #[]
  methods := #[k1m0, k1m1, k1m2, k1m3]
  instanceTypes := #[]
  staticTypes := #[]
  resolved := Array.replicate 51 none
  statics := none }

def pool2 : Array CpInfo := pool [(1, .class_ 2), (0, u "java/lang/constant/Constable"), (0, .class_ 4), (0, u "java/lang/Object")] 6

/-- java/lang/constant/Constable -/
def k2 : Class := { plain "java/lang/constant/Constable" (some 0) with
  accessFlags := 1537
  interfaces := #[]
  cf := some (fileOf pool2 1 #[] #[] 1537 3 #[] #[])
  fields := #[]
  methods := #[]
  instanceTypes := #[]
  staticTypes := #[]
  resolved := Array.replicate 11 none
  statics := none }

def pool3 : Array CpInfo := pool [(1, .class_ 2), (0, u "java/lang/Comparable"), (0, .class_ 4), (0, u "java/lang/Object")] 7

/-- java/lang/Comparable -/
def k3 : Class := { plain "java/lang/Comparable" (some 0) with
  accessFlags := 1537
  interfaces := #[]
  cf := some (fileOf pool3 1 #[] #[] 1537 3 #[] #[])
  fields := #[]
  methods := #[]
  instanceTypes := #[]
  staticTypes := #[]
  resolved := Array.replicate 12 none
  statics := none }

def pool4 : Array CpInfo := pool [(1, .class_ 2), (0, u "java/io/Serializable"), (0, .class_ 4), (0, u "java/lang/Object")] 2

/-- java/io/Serializable -/
def k4 : Class := { plain "java/io/Serializable" (some 0) with
  accessFlags := 1537
  interfaces := #[]
  cf := some (fileOf pool4 1 #[] #[] 1537 3 #[] #[])
  fields := #[]
  methods := #[]
  instanceTypes := #[]
  staticTypes := #[]
  resolved := Array.replicate 7 none
  statics := none }

def pool5 : Array CpInfo := pool [(2, .class_ 4), (1, u "java/lang/Enum"), (0, u "name"), (0, u "Ljava/lang/String;"), (2, u "ordinal"), (0, u "I"), (1, .class_ 14), (1, u "java/lang/Object"), (4, u "hash"), (86, .class_ 108), (1, u "java/lang/Enum$EnumDesc"), (2, .class_ 112), (0, u "java/lang/constant/Constable"), (0, .class_ 114), (0, u "java/lang/Comparable"), (0, .class_ 116), (0, u "java/io/Serializable")] 87

/-- java/lang/Enum -/
def k5 : Class := { plain "java/lang/Enum" (some 0) with
  accessFlags := 1057
  interfaces := #[2, 3, 4]
  cf := some (fileOf pool5 2 #[.nestMembers #[106]] #[] 1057 12 #[111, 113, 115] #[{ accessFlags := 18, nameIndex := 5, descriptorIndex := 6, attributes := #[] }, { accessFlags := 18, nameIndex := 9, descriptorIndex := 10, attributes := #[] }, { accessFlags := 2, nameIndex := 19, descriptorIndex := 10, attributes := #[] }])
  fields := #[{ name := "name", type := (.object "java/lang/String"), accessFlags := 18, slot := 0, constantValue := 0 }, { name := "ordinal", type := .int, accessFlags := 18, slot := 1, constantValue := 0 }, { name := "hash", type := .int, accessFlags := 2, slot := 2, constantValue := 0 }]
  methods := #[]
  instanceTypes := #[(.object "java/lang/String"), .int, .int]
  staticTypes := #[]
  resolved := Array.replicate 204 none
  statics := none }

def pool6 : Array CpInfo := pool [(1, .class_ 2), (0, u "com/example/lifecycle_runner/lifecyclerunner/model/StateKind"), (2, u "INITIAL"), (0, u "Lcom/example/lifecycle_runner/lifecyclerunner/model/StateKind;"), (2, u "WORKING"), (2, u "WAITING"), (2, u "PAUSED"), (2, u "FAILED"), (2, u "TERMINAL"), (2, u "$VALUES"), (0, u "[Lcom/example/lifecycle_runner/lifecyclerunner/model/StateKind;"), (6, .class_ 34), (1, u "java/lang/Enum"), (14, u "fileName"), (0, u "Ljava/lang/String;"), (2, u "FILE_NAMES"), (0, u "Lcom/example/lifecycle_runner/lifecyclerunner/model/FileNames;")] 35

/-- com/example/lifecycle_runner/lifecyclerunner/model/StateKind -/
def k6 : Class := { plain "com/example/lifecycle_runner/lifecyclerunner/model/StateKind" (some 5) with
  accessFlags := 16433
  interfaces := #[]
  cf := some (fileOf pool6 1 #[] #[] 16433 32 #[] #[{ accessFlags := 16409, nameIndex := 5, descriptorIndex := 6, attributes := #[] }, { accessFlags := 16409, nameIndex := 9, descriptorIndex := 6, attributes := #[] }, { accessFlags := 16409, nameIndex := 12, descriptorIndex := 6, attributes := #[] }, { accessFlags := 16409, nameIndex := 15, descriptorIndex := 6, attributes := #[] }, { accessFlags := 16409, nameIndex := 18, descriptorIndex := 6, attributes := #[] }, { accessFlags := 16409, nameIndex := 21, descriptorIndex := 6, attributes := #[] }, { accessFlags := 24, nameIndex := 53, descriptorIndex := 54, attributes := #[] }, { accessFlags := 18, nameIndex := 49, descriptorIndex := 50, attributes := #[] }, { accessFlags := 4122, nameIndex := 24, descriptorIndex := 25, attributes := #[] }])
  fields := #[{ name := "INITIAL", type := (.object "com/example/lifecycle_runner/lifecyclerunner/model/StateKind"), accessFlags := 16409, slot := 0, constantValue := 0 }, { name := "WORKING", type := (.object "com/example/lifecycle_runner/lifecyclerunner/model/StateKind"), accessFlags := 16409, slot := 1, constantValue := 0 }, { name := "WAITING", type := (.object "com/example/lifecycle_runner/lifecyclerunner/model/StateKind"), accessFlags := 16409, slot := 2, constantValue := 0 }, { name := "PAUSED", type := (.object "com/example/lifecycle_runner/lifecyclerunner/model/StateKind"), accessFlags := 16409, slot := 3, constantValue := 0 }, { name := "FAILED", type := (.object "com/example/lifecycle_runner/lifecyclerunner/model/StateKind"), accessFlags := 16409, slot := 4, constantValue := 0 }, { name := "TERMINAL", type := (.object "com/example/lifecycle_runner/lifecyclerunner/model/StateKind"), accessFlags := 16409, slot := 5, constantValue := 0 }, { name := "FILE_NAMES", type := (.object "com/example/lifecycle_runner/lifecyclerunner/model/FileNames"), accessFlags := 24, slot := 6, constantValue := 0 }, { name := "fileName", type := (.object "java/lang/String"), accessFlags := 18, slot := 3, constantValue := 0 }, { name := "$VALUES", type := (.array (.object "com/example/lifecycle_runner/lifecyclerunner/model/StateKind")), accessFlags := 4122, slot := 7, constantValue := 0 }]
  methods := #[]
  instanceTypes := #[(.object "java/lang/String"), .int, .int, (.object "java/lang/String")]
  staticTypes := #[(.object "com/example/lifecycle_runner/lifecyclerunner/model/StateKind"), (.object "com/example/lifecycle_runner/lifecyclerunner/model/StateKind"), (.object "com/example/lifecycle_runner/lifecyclerunner/model/StateKind"), (.object "com/example/lifecycle_runner/lifecyclerunner/model/StateKind"), (.object "com/example/lifecycle_runner/lifecyclerunner/model/StateKind"), (.object "com/example/lifecycle_runner/lifecyclerunner/model/StateKind"), (.object "com/example/lifecycle_runner/lifecyclerunner/model/FileNames"), (.array (.object "com/example/lifecycle_runner/lifecyclerunner/model/StateKind"))]
  resolved := Array.replicate 90 none
  statics := some 0 }

def pool7 : Array CpInfo := pool [(2, .class_ 4), (1, u "java/lang/Object"), (6, .class_ 13), (1, u "com/example/lifecycle_runner/lifecyclerunner/model/Lifecycle"), (0, u "statesByName"), (0, u "Ljava/util/Map;"), (2, u "targets"), (2, u "returning"), (2, u "failedFrom"), (1, u "name"), (8, u "Ljava/lang/String;"), (8, u "states"), (0, u "Ljava/util/List;"), (2, u "transitions"), (80, .class_ 131), (1, u "com/example/lifecycle_runner/lifecyclerunner/model/StateKind"), (1, u "Lcom/example/lifecycle_runner/lifecyclerunner/model/StateKind;"), (5, u "circling"), (3, u "Ljava/util/Set;"), (25, u "initial"), (0, u "Lcom/example/lifecycle_runner/lifecyclerunner/model/State;"), (16, u "isClaimable"), (0, u "(Lcom/example/lifecycle_runner/lifecyclerunner/model/StateKind;)Z"), (0, .fieldref 129 190), (0, .nameAndType 191 133), (0, u "TERMINAL"), (9, u "WORKED_KINDS"), (152, u "TIMED_KINDS"), (2, u "TIMED_KIND_NAMES"), (50, u "NAME"), (0, u "Ljava/util/regex/Pattern;"), (50, u "WORK_RULE"), (0, u "NAME_RULE")] 131

def k7c0 : Code := { maxStack := 2, maxLocals := 1, code := prog_31_method_9_code, exceptionTable := #[], attributes := #[] }
def k7m0 : Method := { name := "isClaimable", desc := "(Lcom/example/lifecycle_runner/lifecyclerunner/model/StateKind;)Z", sig := { parameters := [(.object "com/example/lifecycle_runner/lifecyclerunner/model/StateKind")], returnType := some .boolean }, accessFlags := 9, code := some k7c0 }
/-- com/example/lifecycle_runner/lifecyclerunner/model/Lifecycle -/
def k7 : Class := { plain "com/example/lifecycle_runner/lifecyclerunner/model/Lifecycle" (some 0) with
  accessFlags := 49
  interfaces := #[]
  cf := some (fileOf pool7 11 #[] #[{ accessFlags := 9, nameIndex := 187, descriptorIndex := 188, attributes := #[] }] 49 2 #[] #[{ accessFlags := 25, nameIndex := 461, descriptorIndex := 35, attributes := #[] }, { accessFlags := 26, nameIndex := 408, descriptorIndex := 409, attributes := #[] }, { accessFlags := 26, nameIndex := 354, descriptorIndex := 143, attributes := #[] }, { accessFlags := 26, nameIndex := 357, descriptorIndex := 35, attributes := #[] }, { accessFlags := 26, nameIndex := 201, descriptorIndex := 143, attributes := #[] }, { accessFlags := 25, nameIndex := 460, descriptorIndex := 35, attributes := #[] }, { accessFlags := 18, nameIndex := 26, descriptorIndex := 35, attributes := #[] }, { accessFlags := 18, nameIndex := 44, descriptorIndex := 45, attributes := #[] }, { accessFlags := 18, nameIndex := 48, descriptorIndex := 45, attributes := #[] }, { accessFlags := 18, nameIndex := 14, descriptorIndex := 15, attributes := #[] }, { accessFlags := 18, nameIndex := 18, descriptorIndex := 15, attributes := #[] }, { accessFlags := 18, nameIndex := 21, descriptorIndex := 15, attributes := #[] }, { accessFlags := 18, nameIndex := 24, descriptorIndex := 15, attributes := #[] }, { accessFlags := 18, nameIndex := 139, descriptorIndex := 143, attributes := #[] }, { accessFlags := 18, nameIndex := 169, descriptorIndex := 170, attributes := #[] }])
  fields := #[{ name := "NAME_RULE", type := (.object "java/lang/String"), accessFlags := 25, slot := 0, constantValue := 0 }, { name := "NAME", type := (.object "java/util/regex/Pattern"), accessFlags := 26, slot := 1, constantValue := 0 }, { name := "TIMED_KINDS", type := (.object "java/util/Set"), accessFlags := 26, slot := 2, constantValue := 0 }, { name := "TIMED_KIND_NAMES", type := (.object "java/lang/String"), accessFlags := 26, slot := 3, constantValue := 0 }, { name := "WORKED_KINDS", type := (.object "java/util/Set"), accessFlags := 26, slot := 4, constantValue := 0 }, { name := "WORK_RULE", type := (.object "java/lang/String"), accessFlags := 25, slot := 5, constantValue := 0 }, { name := "name", type := (.object "java/lang/String"), accessFlags := 18, slot := 0, constantValue := 0 }, { name := "states", type := (.object "java/util/List"), accessFlags := 18, slot := 1, constantValue := 0 }, { name := "transitions", type := (.object "java/util/List"), accessFlags := 18, slot := 2, constantValue := 0 }, { name := "statesByName", type := (.object "java/util/Map"), accessFlags := 18, slot := 3, constantValue := 0 }, { name := "targets", type := (.object "java/util/Map"), accessFlags := 18, slot := 4, constantValue := 0 }, { name := "returning", type := (.object "java/util/Map"), accessFlags := 18, slot := 5, constantValue := 0 }, { name := "failedFrom", type := (.object "java/util/Map"), accessFlags := 18, slot := 6, constantValue := 0 }, { name := "circling", type := (.object "java/util/Set"), accessFlags := 18, slot := 7, constantValue := 0 }, { name := "initial", type := (.object "com/example/lifecycle_runner/lifecyclerunner/model/State"), accessFlags := 18, slot := 8, constantValue := 0 }]
  methods := #[k7m0]
  instanceTypes := #[(.object "java/lang/String"), (.object "java/util/List"), (.object "java/util/List"), (.object "java/util/Map"), (.object "java/util/Map"), (.object "java/util/Map"), (.object "java/util/Map"), (.object "java/util/Set"), (.object "com/example/lifecycle_runner/lifecyclerunner/model/State")]
  staticTypes := #[(.object "java/lang/String"), (.object "java/util/regex/Pattern"), (.object "java/util/Set"), (.object "java/lang/String"), (.object "java/util/Set"), (.object "java/lang/String")]
  resolved := Array.replicate 593 none
  statics := none }

def pool8 : Array CpInfo := pool [(1, u "java/lang/Cloneable"), (0, .class_ 1), (0, u "java/lang/Object"), (0, .class_ 3)] 3

/-- java/lang/Cloneable -/
def k8 : Class := { plain "java/lang/Cloneable" (some 0) with
  accessFlags := 1537
  interfaces := #[]
  cf := some (fileOf pool8 2 #[] #[] 1537 4 #[] #[])
  fields := #[]
  methods := #[]
  instanceTypes := #[]
  staticTypes := #[]
  resolved := Array.replicate 8 none
  statics := none }

/-- the primitive byte -/
def k9 : Class := { plain "byte" none with kind := .primitive 'B', accessFlags := 0x411 }
/-- [B -/
def k10 : Class := { plain "[B" (some 0) with kind := .array 9 .byte, interfaces := #[8, 4], accessFlags := 1041 }

/-- the primitive int -/
def k11 : Class := { plain "int" none with kind := .primitive 'I', accessFlags := 0x411 }
/-- [I -/
def k12 : Class := { plain "[I" (some 0) with kind := .array 11 .int, interfaces := #[8, 4], accessFlags := 1041 }

def heap : Heap := #[{ cls := 6, slots := #[.ref 1, .ref 2, .ref 3, .ref 4, .ref 5, .ref 6, .null, .null], vm := .statics 6 },
  { cls := 6, slots := #[.null, .int 0, .int 0, .null], vm := .none },
  { cls := 6, slots := #[.null, .int 1, .int 0, .null], vm := .none },
  { cls := 6, slots := #[.null, .int 2, .int 0, .null], vm := .none },
  { cls := 6, slots := #[.null, .int 3, .int 0, .null], vm := .none },
  { cls := 6, slots := #[.null, .int 4, .int 0, .null], vm := .none },
  { cls := 6, slots := #[.null, .int 5, .int 0, .null], vm := .none }]
def classes : Array Class := #[k0, k1, k2, k3, k4, k5, k6, k7, k8, k9, k10, k11, k12]
def interned : List (Array UInt16 × Addr) := []
def slotsUsed : Nat := 32
def theMethod : MethodId := ⟨1, 3⟩
def args0 : Array Value := #[.int 2]
def aboutOver (below : List Frame) : State where
  vm := { classes := classes, interned := interned.toArray }
  heap := heap
  slotsUsed := slotsUsed
  threads := #[{ frames := .invoking theMethod args0 :: below }]
def below0 : List Frame := [.native { method := ⟨0, 0⟩, args := #[] }]
def about1 : State := aboutOver below0
def p0 : Program := .bare "" "" ""
def e0 : Env := launch0.env 0 0 0
theorem w_frames : about1.frames = Frame.invoking theMethod args0 :: below0 := rfl
set_option maxRecDepth 65536 in
theorem w_args : argsFit about1.vm theMethod args0 = true := by decide +kernel
set_option maxRecDepth 65536 in
theorem w_heap : heapFits about1 = true := by decide +kernel
set_option maxRecDepth 65536 in
theorem w_runnable : about1.curStatus? = some .runnable := by decide +kernel
set_option maxRecDepth 65536 in
theorem w_alone : about1.alone = true := by decide +kernel
set_option maxRecDepth 65536 in
theorem w_named : about1.methodNamed? x = some theMethod := by decide +kernel
set_option maxRecDepth 65536 in
theorem w_hears : about1.hears theMethod below0 = true := by decide +kernel
set_option maxRecDepth 65536 in
theorem w_ripe : about1.ripe theMethod args0 below0 = true := by decide +kernel
theorem w_running : about1.status = .running := rfl
set_option maxRecDepth 65536 in
theorem w_room : about1.hasRoom e0.platform room_1 = true :=
  launch0.hasRoom_least _ room_1 (by decide +kernel) (by decide +kernel) (by decide +kernel) (by decide +kernel) (by decide +kernel) (by decide +kernel)
theorem allAtoms_all (ts : List Jvm.Cond) (a : Array Jvm.Value) (st : Jvm.State) : (allAtoms ts).before a st = ts.all (fun c => c.before a st) := by
  induction ts with
  | nil => rfl
  | cons c t ih =>
    show (Jvm.Cond.and c (allAtoms t)).before a st = _
    rw [Jvm.Cond.before_and, ih, List.all_cons]
def words1 : List Jvm.Cond := Jvm.Cond.code x code maxLocals ret :: tables_1
/-- a 'code' word, met by the world's own term for the bytes: nothing is compared byte by byte -/
theorem code_word {y : MethodName} {bytes : ByteArray} {mx : Nat} {rt : Option FieldType} {a : Array Value} {s : State} {m : MethodId} {meth : Method} {c : Code} (h1 : s.methodNamed? y = some m) (h2 : s.vm.method? m = some meth) (h3 : meth.code = some c) (h4 : c.code = bytes)
    (h5 : (c.maxLocals == mx && c.exceptionTable.isEmpty && decide (c.maxStack ≤ mostOperands) && decide (meth.sig.returnType = rt) && !meth.locks && decide (parseMethodDescriptor y.desc = some meth.sig)) = true) : (Jvm.Cond.code y bytes mx rt).before a s = true := by
  simp only [Bool.and_eq_true, beq_iff_eq, Bool.not_eq_true', decide_eq_true_eq] at h5
  obtain ⟨⟨⟨⟨⟨g1, g2⟩, g3⟩, g4⟩, g5⟩, g6⟩ := h5
  simp [Cond.before, Cond.holds, Cond.value, h1, h2, h3, h4, g1, g2, g3, g4, g5, g6]
def isCode : Jvm.Cond → Bool
  | .code _ _ _ _ => true
  | _ => false
theorem all_split {L : List Jvm.Cond} {P : Jvm.Cond → Bool} (h1 : L.all (fun c => isCode c || P c) = true) (h2 : ∀ c ∈ L.filter isCode, P c = true) : L.all P = true := by
  refine List.all_eq_true.mpr fun c hc => ?_
  have h := List.all_eq_true.mp h1 c hc
  rcases Bool.eq_false_or_eq_true (isCode c) with hi | hi
  · exact h2 c (List.mem_filter.mpr ⟨hc, hi⟩)
  · simpa [hi] using h
set_option maxRecDepth 65536 in
theorem w_c0 : (Jvm.Cond.code x code maxLocals ret).before args0 about1 = true := code_word (m := ⟨1, 3⟩) (meth := k1m3) (c := k1c3) (by decide +kernel) rfl rfl rfl (by decide +kernel)
set_option maxRecDepth 65536 in
theorem w_c1 : (Jvm.Cond.code ({ cls := "com/example/lifecycle_runner/lifecyclerunner/model/LifecycleIsClaimablePinLaw", name := "kindAt", desc := "(I)Lcom/example/lifecycle_runner/lifecyclerunner/model/StateKind;" } : Jvm.MethodName) method_2_code (1 : Nat) (Option.some (Jvm.ClassFile.FieldType.object "com/example/lifecycle_runner/lifecyclerunner/model/StateKind"))).before args0 about1 = true := code_word (m := ⟨1, 1⟩) (meth := k1m1) (c := k1c1) (by decide +kernel) rfl rfl rfl (by decide +kernel)
set_option maxRecDepth 65536 in
theorem w_c2 : (Jvm.Cond.code ({ cls := "com/example/lifecycle_runner/lifecyclerunner/model/LifecycleIsClaimablePinLaw", name := "expectedAt", desc := "(I)Z" } : Jvm.MethodName) method_3_code (1 : Nat) (Option.some Jvm.ClassFile.FieldType.boolean)).before args0 about1 = true := code_word (m := ⟨1, 2⟩) (meth := k1m2) (c := k1c2) (by decide +kernel) rfl rfl rfl (by decide +kernel)
set_option maxRecDepth 65536 in
theorem w_c3 : (Jvm.Cond.code ({ cls := "com/example/lifecycle_runner/lifecyclerunner/model/Lifecycle", name := "isClaimable", desc := "(Lcom/example/lifecycle_runner/lifecyclerunner/model/StateKind;)Z" } : Jvm.MethodName) prog_31_method_9_code (1 : Nat) (Option.some Jvm.ClassFile.FieldType.boolean)).before args0 about1 = true := code_word (m := ⟨7, 0⟩) (meth := k7m0) (c := k7c0) (by decide +kernel) rfl rfl rfl (by decide +kernel)
def codes1 : List Jvm.Cond := [Jvm.Cond.code x code maxLocals ret, Jvm.Cond.code ({ cls := "com/example/lifecycle_runner/lifecyclerunner/model/LifecycleIsClaimablePinLaw", name := "kindAt", desc := "(I)Lcom/example/lifecycle_runner/lifecyclerunner/model/StateKind;" } : Jvm.MethodName) method_2_code (1 : Nat) (Option.some (Jvm.ClassFile.FieldType.object "com/example/lifecycle_runner/lifecyclerunner/model/StateKind")), Jvm.Cond.code ({ cls := "com/example/lifecycle_runner/lifecyclerunner/model/LifecycleIsClaimablePinLaw", name := "expectedAt", desc := "(I)Z" } : Jvm.MethodName) method_3_code (1 : Nat) (Option.some Jvm.ClassFile.FieldType.boolean), Jvm.Cond.code ({ cls := "com/example/lifecycle_runner/lifecyclerunner/model/Lifecycle", name := "isClaimable", desc := "(Lcom/example/lifecycle_runner/lifecyclerunner/model/StateKind;)Z" } : Jvm.MethodName) prog_31_method_9_code (1 : Nat) (Option.some Jvm.ClassFile.FieldType.boolean)]
set_option maxRecDepth 65536 in
theorem codes_eq : words1.filter isCode = codes1 := rfl
theorem w_codes : ∀ c ∈ words1.filter isCode, c.before args0 about1 = true := by
  rw [codes_eq]
  intro c hc
  simp only [codes1, List.mem_cons, List.not_mem_nil, or_false] at hc
  rcases hc with rfl | rfl | rfl | rfl
  · exact w_c0
  · exact w_c1
  · exact w_c2
  · exact w_c3
set_option maxRecDepth 65536 in
theorem w_t1 : (words1.take 24).all (fun c => isCode c || c.before args0 about1) = true := by decide +kernel
set_option maxRecDepth 65536 in
theorem w_t2 : (words1.drop 24).all (fun c => isCode c || c.before args0 about1) = true := by decide +kernel
theorem w_tables : (allAtoms (Jvm.Cond.code x code maxLocals ret :: tables_1)).before args0 about1 = true := by
  rw [allAtoms_all]
  show words1.all (fun c => c.before args0 about1) = true
  refine all_split ?_ w_codes
  rw [← List.take_append_drop 24 words1, List.all_append, w_t1, w_t2]
  rfl
set_option maxRecDepth 65536 in
theorem w_case : (Jvm.Cond.and given_1 narrow_1).before args0 about1 = true := by decide +kernel
theorem w_applies : (headSpec (Jvm.Cond.code x code maxLocals ret :: tables_1) room_1).applies x e0.platform about1 = true :=
  (Spec.applies_iff w_frames).mpr ⟨w_running, w_runnable, w_alone, w_named, w_hears, w_ripe, w_room, w_tables⟩
theorem atStart : AtStart classFile x code maxLocals ret World_1 tables_1 room_1 Calls_1 rest_1 Pre_1 launch0 p0 e0 about1 theMethod args0 below0 :=
  ⟨lists_1, trivial, launch0.admits_env _ _ _, launch0.least_env, fairChoices_fair.cas, fairChoices_fair.clock, w_frames, w_args, w_heap, w_applies, trivial, trivial, w_case⟩
end start1
theorem witness_1 : WitnessClaimed_1 := ⟨start1.p0, start1.e0, start1.about1, start1.theMethod, start1.args0, start1.below0, start1.atStart⟩
end Jvm.Pilot.@@N@@
