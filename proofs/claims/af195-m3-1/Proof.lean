import JvmDerived
import JvmDerived.Pilot.@@N@@Statement
import JvmDerived.Pilot.@@N@@Code
set_option linter.unusedVariables false
set_option linter.unusedSimpArgs false
@@BLOCK:NumsL.lean.txt@@
namespace Jvm.Pilot.@@N@@
open Jvm Jvm.ClassFile Sem Op Lib Jvm.Free Jvm.Stand Jvm.LawKit Jvm.RoadKit Bundle Jvm.Pilot.@@N@@.Jvm.D
section Own
variable {p : Program} {l : Launch} {e : Env} {R : Room} {s : State} {m : MethodId} {args : Array Value} {below : List Frame} {meth : Method} {c : Code} {T : State} {locs : List Loc} {cells slots : Nat} {Q : Option Value → Heap → List Loc → Prop} {kc ks : Nat} {G : State → Outcome → State → List Loc → Nat → Nat → Prop}
/-- the run from U returns; Q says of what it returned, of the heap and of the places written; kc, ks: how much it may have made -/
def own_Ends (p : Program) (e : Env) (below : List Frame) (s : State) (G : State → Outcome → State → List Loc → Nat → Nat → Prop) (Q : Option Value → Heap → List Loc → Prop) (kc ks : Nat) (U : State) : Prop :=
  ∃ s₂ o, Steps p.tables e below U s₂ ∧ s₂.status = .running ∧ Ended s₂ below o ∧ ∃ v L, o = .returned v ∧ Q v s₂.heap L ∧ G s o s₂ L kc ks
theorem own_of {U U' : State} (h : ∀ t, Steps p.tables e below U' t → Steps p.tables e below U t) (k : own_Ends p e below s G Q kc ks U') : own_Ends p e below s G Q kc ks U := by
  obtain ⟨s₂, o, h1, r⟩ := k
  exact ⟨s₂, o, h _ h1, r⟩
theorem own_eq {U U' : State} (h : U = U') (k : own_Ends p e below s G Q kc ks U') : own_Ends p e below s G Q kc ks U := h ▸ k
theorem own_retN (X : Stand p l e R s m args below meth c T locs cells slots) (hx : p.tables.exec = Jvm.exec) (hlk : meth.locks = false) {pc : Nat} {Ls : Array Slot} {z : Int32} {t : FieldType} {rest : List Value} (hret : meth.sig.returnType = some t) (ht : t = .boolean ∨ t = .byte ∨ t = .char ∨ t = .short)
    (hd : decode c.code pc = .ok (.ireturn, 1)) (hc : cells ≤ kc) (hs : slots ≤ ks) (hq : Q (some (.int (nar t z))) T.heap locs) : own_Ends p e below s FrameEnd Q kc ks (T.setTop (mkF m pc Ls (.int z :: rest))) := by
  obtain ⟨fs, hr, hrun, hended, hW, hsame⟩ := X.leave (v := some (.int (nar t z))) (fun h => by rw [hret] at h; cases h) hlk
  exact ⟨_, _, retN X hx hret ht hd hr, hrun, hended, _, _, rfl, hq, ⟨_, rfl⟩, hW, hsame.mono hc hs⟩
theorem own_retI (X : Stand p l e R s m args below meth c T locs cells slots) (hx : p.tables.exec = Jvm.exec) (hlk : meth.locks = false) {pc : Nat} {Ls : Array Slot} {z : Int32} {rest : List Value} (hret : meth.sig.returnType = some .int)
    (hd : decode c.code pc = .ok (.ireturn, 1)) (hc : cells ≤ kc) (hs : slots ≤ ks) (hq : Q (some (.int z)) T.heap locs) : own_Ends p e below s FrameEnd Q kc ks (T.setTop (mkF m pc Ls (.int z :: rest))) := by
  obtain ⟨fs, hr, hrun, hended, hW, hsame⟩ := X.leave (v := some (.int z)) (fun h => by rw [hret] at h; cases h) hlk
  exact ⟨_, _, retOut X hx hret rfl (Or.inl ⟨rfl, Or.inl rfl, _, rfl⟩) hd hr, hrun, hended, _, _, rfl, hq, ⟨_, rfl⟩, hW, hsame.mono hc hs⟩
theorem own_retL (X : Stand p l e R s m args below meth c T locs cells slots) (hx : p.tables.exec = Jvm.exec) (hlk : meth.locks = false) {pc : Nat} {Ls : Array Slot} {z : Int64} {rest : List Value} (hret : meth.sig.returnType = some .long)
    (hd : decode c.code pc = .ok (.lreturn, 1)) (hc : cells ≤ kc) (hs : slots ≤ ks) (hq : Q (some (.long z)) T.heap locs) : own_Ends p e below s FrameEnd Q kc ks (T.setTop (mkF m pc Ls (.long z :: rest))) := by
  obtain ⟨fs, hr, hrun, hended, hW, hsame⟩ := X.leave (v := some (.long z)) (fun h => by rw [hret] at h; cases h) hlk
  exact ⟨_, _, retOut X hx hret rfl (Or.inr (Or.inl ⟨rfl, rfl, _, rfl⟩)) hd hr, hrun, hended, _, _, rfl, hq, ⟨_, rfl⟩, hW, hsame.mono hc hs⟩
theorem own_retA (X : Stand p l e R s m args below meth c T locs cells slots) (hx : p.tables.exec = Jvm.exec) (hlk : meth.locks = false) {pc : Nat} {Ls : Array Slot} {w : Value} {t : FieldType} {rest : List Value} (hret : meth.sig.returnType = some t) (ht : t.isReference = true) (hw : w.isRef = true)
    (hd : decode c.code pc = .ok (.areturn, 1)) (hc : cells ≤ kc) (hs : slots ≤ ks) (hq : Q (some w) T.heap locs) : own_Ends p e below s FrameEnd Q kc ks (T.setTop (mkF m pc Ls (w :: rest))) := by
  obtain ⟨fs, hr, hrun, hended, hW, hsame⟩ := X.leave (v := some w) (fun h => by rw [hret] at h; cases h) hlk
  have hn : narrow t w = w := by cases t <;> first | (cases ht; done) | rfl | (cases w <;> rfl)
  exact ⟨_, _, retOut X hx hret hn (Or.inr (Or.inr (Or.inr (Or.inr ⟨rfl, ht, hw⟩)))) hd hr, hrun, hended, _, _, rfl, hq, ⟨_, rfl⟩, hW, hsame.mono hc hs⟩
theorem own_ret0 (X : Stand p l e R s m args below meth c T locs cells slots) (hx : p.tables.exec = Jvm.exec) (hlk : meth.locks = false) {pc : Nat} {Ls : Array Slot} (hret : meth.sig.returnType = none)
    (hd : decode c.code pc = .ok (.return_, 1)) (hc : cells ≤ kc) (hs : slots ≤ ks) (hq : Q none T.heap locs) : own_Ends p e below s FrameEnd Q kc ks (T.setTop (mkF m pc Ls [])) := by
  obtain ⟨fs, hr, hrun, hended, hW, hsame⟩ := X.leave (v := none) (fun _ => rfl) hlk
  exact ⟨_, _, X.returnOut hx hret hd hr, hrun, hended, _, _, rfl, hq, ⟨_, rfl⟩, hW, hsame.mono hc hs⟩
variable {vm₁ : Vm} {nS : Nat}
theorem own_monoW {t : State} {o : Outcome} {L : List Loc} {k n k' n' : Nat} (h : ReturnedEndW s o t L k n) (hk : k ≤ k') (hn : n ≤ n') : ReturnedEndW s o t L k' n' := ⟨h.1, h.2.1, h.2.2.1, h.2.2.2.mono hk hn⟩
theorem own_retNW (X : Stand p l e R (s.setVm vm₁) m args below meth c T locs cells slots) (hx : p.tables.exec = Jvm.exec) (hlk : meth.locks = false) (hS : s.Since vm₁ nS) (hk : nS ≤ T.heap.size) {pc : Nat} {Ls : Array Slot} {z : Int32} {t : FieldType} {rest : List Value} (hret : meth.sig.returnType = some t) (ht : t = .boolean ∨ t = .byte ∨ t = .char ∨ t = .short)
    (hd : decode c.code pc = .ok (.ireturn, 1)) (hc : cells ≤ kc) (hs : slots ≤ ks) (hq : Q (some (.int (nar t z))) T.heap locs) : own_Ends p e below s ReturnedEndW Q kc ks (T.setTop (mkF m pc Ls (.int z :: rest))) := by
  obtain ⟨fs, hr, hrun, hended, hW⟩ := X.leaveW hS hk (v := some (.int (nar t z))) (fun h => by rw [hret] at h; cases h) hlk
  exact ⟨_, _, retN X hx hret ht hd hr, hrun, hended, _, _, rfl, hq, own_monoW hW hc hs⟩
theorem own_retIW (X : Stand p l e R (s.setVm vm₁) m args below meth c T locs cells slots) (hx : p.tables.exec = Jvm.exec) (hlk : meth.locks = false) (hS : s.Since vm₁ nS) (hk : nS ≤ T.heap.size) {pc : Nat} {Ls : Array Slot} {z : Int32} {rest : List Value} (hret : meth.sig.returnType = some .int)
    (hd : decode c.code pc = .ok (.ireturn, 1)) (hc : cells ≤ kc) (hs : slots ≤ ks) (hq : Q (some (.int z)) T.heap locs) : own_Ends p e below s ReturnedEndW Q kc ks (T.setTop (mkF m pc Ls (.int z :: rest))) := by
  obtain ⟨fs, hr, hrun, hended, hW⟩ := X.leaveW hS hk (v := some (.int z)) (fun h => by rw [hret] at h; cases h) hlk
  exact ⟨_, _, retOut X hx hret rfl (Or.inl ⟨rfl, Or.inl rfl, _, rfl⟩) hd hr, hrun, hended, _, _, rfl, hq, own_monoW hW hc hs⟩
theorem own_retAW (X : Stand p l e R (s.setVm vm₁) m args below meth c T locs cells slots) (hx : p.tables.exec = Jvm.exec) (hlk : meth.locks = false) (hS : s.Since vm₁ nS) (hk : nS ≤ T.heap.size) {pc : Nat} {Ls : Array Slot} {w : Value} {t : FieldType} {rest : List Value} (hret : meth.sig.returnType = some t) (ht : t.isReference = true) (hw : w.isRef = true)
    (hd : decode c.code pc = .ok (.areturn, 1)) (hc : cells ≤ kc) (hs : slots ≤ ks) (hq : Q (some w) T.heap locs) : own_Ends p e below s ReturnedEndW Q kc ks (T.setTop (mkF m pc Ls (w :: rest))) := by
  obtain ⟨fs, hr, hrun, hended, hW⟩ := X.leaveW hS hk (v := some w) (fun h => by rw [hret] at h; cases h) hlk
  have hn : narrow t w = w := by cases t <;> first | (cases ht; done) | rfl | (cases w <;> rfl)
  exact ⟨_, _, retOut X hx hret hn (Or.inr (Or.inr (Or.inr (Or.inr ⟨rfl, ht, hw⟩)))) hd hr, hrun, hended, _, _, rfl, hq, own_monoW hW hc hs⟩
theorem own_ret0W (X : Stand p l e R (s.setVm vm₁) m args below meth c T locs cells slots) (hx : p.tables.exec = Jvm.exec) (hlk : meth.locks = false) (hS : s.Since vm₁ nS) (hk : nS ≤ T.heap.size) {pc : Nat} {Ls : Array Slot} (hret : meth.sig.returnType = none)
    (hd : decode c.code pc = .ok (.return_, 1)) (hc : cells ≤ kc) (hs : slots ≤ ks) (hq : Q none T.heap locs) : own_Ends p e below s ReturnedEndW Q kc ks (T.setTop (mkF m pc Ls [])) := by
  obtain ⟨fs, hr, hrun, hended, hW⟩ := X.leaveW hS hk (v := none) (fun _ => rfl) hlk
  exact ⟨_, _, X.returnOut hx hret hd hr, hrun, hended, _, _, rfl, hq, own_monoW hW hc hs⟩
end Own
theorem own_b1 : nar .boolean (1 : Int32) = 1 := rfl
theorem own_b0 : nar .boolean (0 : Int32) = 0 := rfl
section Own2
variable {p : Program} {l : Launch} {e : Env} {R : Room} {s sS : State} {m : MethodId} {args : Array Value} {below : List Frame} {meth : Method} {c : Code} {T : State} {locs : List Loc} {cells slots : Nat} {Q : Option Value → Heap → List Loc → Prop} {kc ks : Nat} {G : State → Outcome → State → List Loc → Nat → Nat → Prop}
theorem own_iloadN (X : Stand p l e R sS m args below meth c T locs cells slots) (hx : p.tables.exec = Jvm.exec) {code : ByteArray} (hby : c.code = code) {pc : Nat} {Ls : Array Slot} {St : List Value} {k : Fin 4} {v : Int32} (hd : decode code pc = .ok (.iload_n k, 1)) (hl : Ls[k.val]? = some (.val (.int v))) (k : own_Ends p e below s G Q kc ks (T.setTop (mkF m (pc + 1) Ls (.int v :: St)))) : own_Ends p e below s G Q kc ks (T.setTop (mkF m pc Ls (St))) := own_of (fun _ q => XS.iloadN X.here hx rfl (hb hby hd) hl q) k
theorem own_iload (X : Stand p l e R sS m args below meth c T locs cells slots) (hx : p.tables.exec = Jvm.exec) {code : ByteArray} (hby : c.code = code) {pc : Nat} {Ls : Array Slot} {St : List Value} {k : Nat} {v : Int32} (hd : decode code pc = .ok (.iload k, 2)) (hl : Ls[k]? = some (.val (.int v))) (k : own_Ends p e below s G Q kc ks (T.setTop (mkF m (pc + 2) Ls (.int v :: St)))) : own_Ends p e below s G Q kc ks (T.setTop (mkF m pc Ls (St))) := own_of (fun _ q => XS.iload X.here hx rfl (hb hby hd) hl q) k
theorem own_lloadN (X : Stand p l e R sS m args below meth c T locs cells slots) (hx : p.tables.exec = Jvm.exec) {code : ByteArray} (hby : c.code = code) {pc : Nat} {Ls : Array Slot} {St : List Value} {k : Fin 4} {v : Int64} (hd : decode code pc = .ok (.lload_n k, 1)) (hl : Ls[k.val]? = some (.val (.long v))) (k : own_Ends p e below s G Q kc ks (T.setTop (mkF m (pc + 1) Ls (.long v :: St)))) : own_Ends p e below s G Q kc ks (T.setTop (mkF m pc Ls (St))) := own_of (fun _ q => XT.lloadN X.here hx rfl (hb hby hd) hl q) k
theorem own_lload (X : Stand p l e R sS m args below meth c T locs cells slots) (hx : p.tables.exec = Jvm.exec) {code : ByteArray} (hby : c.code = code) {pc : Nat} {Ls : Array Slot} {St : List Value} {k : Nat} {v : Int64} (hd : decode code pc = .ok (.lload k, 2)) (hl : Ls[k]? = some (.val (.long v))) (k : own_Ends p e below s G Q kc ks (T.setTop (mkF m (pc + 2) Ls (.long v :: St)))) : own_Ends p e below s G Q kc ks (T.setTop (mkF m pc Ls (St))) := own_of (fun _ q => XT.lload X.here hx rfl (hb hby hd) hl q) k
theorem own_dloadN (X : Stand p l e R sS m args below meth c T locs cells slots) (hx : p.tables.exec = Jvm.exec) {code : ByteArray} (hby : c.code = code) {pc : Nat} {Ls : Array Slot} {St : List Value} {k : Fin 4} {v : UInt64} (hd : decode code pc = .ok (.dload_n k, 1)) (hl : Ls[k.val]? = some (.val (.double v))) (k : own_Ends p e below s G Q kc ks (T.setTop (mkF m (pc + 1) Ls (.double v :: St)))) : own_Ends p e below s G Q kc ks (T.setTop (mkF m pc Ls (St))) := own_of (fun _ q => XS.dloadN X.here hx rfl (hb hby hd) hl q) k
theorem own_dload (X : Stand p l e R sS m args below meth c T locs cells slots) (hx : p.tables.exec = Jvm.exec) {code : ByteArray} (hby : c.code = code) {pc : Nat} {Ls : Array Slot} {St : List Value} {k : Nat} {v : UInt64} (hd : decode code pc = .ok (.dload k, 2)) (hl : Ls[k]? = some (.val (.double v))) (k : own_Ends p e below s G Q kc ks (T.setTop (mkF m (pc + 2) Ls (.double v :: St)))) : own_Ends p e below s G Q kc ks (T.setTop (mkF m pc Ls (St))) := own_of (fun _ q => XS.dload X.here hx rfl (hb hby hd) hl q) k
theorem own_aloadN (X : Stand p l e R sS m args below meth c T locs cells slots) (hx : p.tables.exec = Jvm.exec) {code : ByteArray} (hby : c.code = code) {pc : Nat} {Ls : Array Slot} {St : List Value} {k : Fin 4} {v : Value} (hd : decode code pc = .ok (.aload_n k, 1)) (hl : Ls[k.val]? = some (.val v)) (hv : v.isRef = true) (k : own_Ends p e below s G Q kc ks (T.setTop (mkF m (pc + 1) Ls (v :: St)))) : own_Ends p e below s G Q kc ks (T.setTop (mkF m pc Ls (St))) := own_of (fun _ q => XS.aloadN X.here hx rfl (hb hby hd) hl hv q) k
theorem own_aload (X : Stand p l e R sS m args below meth c T locs cells slots) (hx : p.tables.exec = Jvm.exec) {code : ByteArray} (hby : c.code = code) {pc : Nat} {Ls : Array Slot} {St : List Value} {k : Nat} {v : Value} (hd : decode code pc = .ok (.aload k, 2)) (hl : Ls[k]? = some (.val v)) (hv : v.isRef = true) (k : own_Ends p e below s G Q kc ks (T.setTop (mkF m (pc + 2) Ls (v :: St)))) : own_Ends p e below s G Q kc ks (T.setTop (mkF m pc Ls (St))) := own_of (fun _ q => XS.aload X.here hx rfl (hb hby hd) hl hv q) k
theorem own_istoreN (X : Stand p l e R sS m args below meth c T locs cells slots) (hx : p.tables.exec = Jvm.exec) {code : ByteArray} (hby : c.code = code) {pc : Nat} {Ls : Array Slot} {St : List Value} {k : Fin 4} {x : Int32} {l' : Array Slot} (hd : decode code pc = .ok (.istore_n k, 1)) (hl : storeLocals Ls k.val (.int x) = some l') (k : own_Ends p e below s G Q kc ks (T.setTop (mkF m (pc + 1) l' (St)))) : own_Ends p e below s G Q kc ks (T.setTop (mkF m pc Ls (.int x :: St))) := own_of (fun _ q => XS.istoreN X.here hx rfl (hb hby hd) rfl hl q) k
theorem own_istore (X : Stand p l e R sS m args below meth c T locs cells slots) (hx : p.tables.exec = Jvm.exec) {code : ByteArray} (hby : c.code = code) {pc : Nat} {Ls : Array Slot} {St : List Value} {k : Nat} {x : Int32} {l' : Array Slot} (hd : decode code pc = .ok (.istore k, 2)) (hl : storeLocals Ls k (.int x) = some l') (k : own_Ends p e below s G Q kc ks (T.setTop (mkF m (pc + 2) l' (St)))) : own_Ends p e below s G Q kc ks (T.setTop (mkF m pc Ls (.int x :: St))) := own_of (fun _ q => XS.istore X.here hx rfl (hb hby hd) rfl hl q) k
theorem own_lstoreN (X : Stand p l e R sS m args below meth c T locs cells slots) (hx : p.tables.exec = Jvm.exec) {code : ByteArray} (hby : c.code = code) {pc : Nat} {Ls : Array Slot} {St : List Value} {k : Fin 4} {x : Int64} {l' : Array Slot} (hd : decode code pc = .ok (.lstore_n k, 1)) (hl : storeLocals Ls k.val (.long x) = some l') (k : own_Ends p e below s G Q kc ks (T.setTop (mkF m (pc + 1) l' (St)))) : own_Ends p e below s G Q kc ks (T.setTop (mkF m pc Ls (.long x :: St))) := own_of (fun _ q => XT.lstoreN X.here hx rfl (hb hby hd) rfl hl q) k
theorem own_lstore (X : Stand p l e R sS m args below meth c T locs cells slots) (hx : p.tables.exec = Jvm.exec) {code : ByteArray} (hby : c.code = code) {pc : Nat} {Ls : Array Slot} {St : List Value} {k : Nat} {x : Int64} {l' : Array Slot} (hd : decode code pc = .ok (.lstore k, 2)) (hl : storeLocals Ls k (.long x) = some l') (k : own_Ends p e below s G Q kc ks (T.setTop (mkF m (pc + 2) l' (St)))) : own_Ends p e below s G Q kc ks (T.setTop (mkF m pc Ls (.long x :: St))) := own_of (fun _ q => XT.lstore X.here hx rfl (hb hby hd) rfl hl q) k
theorem own_astoreN (X : Stand p l e R sS m args below meth c T locs cells slots) (hx : p.tables.exec = Jvm.exec) {code : ByteArray} (hby : c.code = code) {pc : Nat} {Ls : Array Slot} {St : List Value} {k : Fin 4} {x : Value} {l' : Array Slot} (hd : decode code pc = .ok (.astore_n k, 1)) (hv : x.isRef = true) (hl : storeLocals Ls k.val x = some l') (k : own_Ends p e below s G Q kc ks (T.setTop (mkF m (pc + 1) l' (St)))) : own_Ends p e below s G Q kc ks (T.setTop (mkF m pc Ls (x :: St))) := own_of (fun _ q => XS.astoreN X.here hx rfl (hb hby hd) rfl hv hl q) k
theorem own_astore (X : Stand p l e R sS m args below meth c T locs cells slots) (hx : p.tables.exec = Jvm.exec) {code : ByteArray} (hby : c.code = code) {pc : Nat} {Ls : Array Slot} {St : List Value} {k : Nat} {x : Value} {l' : Array Slot} (hd : decode code pc = .ok (.astore k, 2)) (hv : x.isRef = true) (hl : storeLocals Ls k x = some l') (k : own_Ends p e below s G Q kc ks (T.setTop (mkF m (pc + 2) l' (St)))) : own_Ends p e below s G Q kc ks (T.setTop (mkF m pc Ls (x :: St))) := own_of (fun _ q => XS.astore X.here hx rfl (hb hby hd) rfl hv hl q) k
theorem own_aconstNull (X : Stand p l e R sS m args below meth c T locs cells slots) (hx : p.tables.exec = Jvm.exec) {code : ByteArray} (hby : c.code = code) {pc : Nat} {Ls : Array Slot} {St : List Value}  (hd : decode code pc = .ok (.aconst_null, 1)) (k : own_Ends p e below s G Q kc ks (T.setTop (mkF m (pc + 1) Ls (.null :: St)))) : own_Ends p e below s G Q kc ks (T.setTop (mkF m pc Ls (St))) := own_of (fun _ q => XS.aconstNull X.here hx rfl (hb hby hd) q) k
theorem own_iadd (X : Stand p l e R sS m args below meth c T locs cells slots) (hx : p.tables.exec = Jvm.exec) {code : ByteArray} (hby : c.code = code) {pc : Nat} {Ls : Array Slot} {St : List Value} {x y : Int32} (hd : decode code pc = .ok (.iadd, 1)) (k : own_Ends p e below s G Q kc ks (T.setTop (mkF m (pc + 1) Ls (.int (x + y) :: St)))) : own_Ends p e below s G Q kc ks (T.setTop (mkF m pc Ls (.int y :: .int x :: St))) := own_of (fun _ q => XS.iadd X.here hx rfl (hb hby hd) rfl q) k
theorem own_isub (X : Stand p l e R sS m args below meth c T locs cells slots) (hx : p.tables.exec = Jvm.exec) {code : ByteArray} (hby : c.code = code) {pc : Nat} {Ls : Array Slot} {St : List Value} {x y : Int32} (hd : decode code pc = .ok (.isub, 1)) (k : own_Ends p e below s G Q kc ks (T.setTop (mkF m (pc + 1) Ls (.int (x - y) :: St)))) : own_Ends p e below s G Q kc ks (T.setTop (mkF m pc Ls (.int y :: .int x :: St))) := own_of (fun _ q => XS.isub X.here hx rfl (hb hby hd) rfl q) k
theorem own_imul (X : Stand p l e R sS m args below meth c T locs cells slots) (hx : p.tables.exec = Jvm.exec) {code : ByteArray} (hby : c.code = code) {pc : Nat} {Ls : Array Slot} {St : List Value} {x y : Int32} (hd : decode code pc = .ok (.imul, 1)) (k : own_Ends p e below s G Q kc ks (T.setTop (mkF m (pc + 1) Ls (.int (x * y) :: St)))) : own_Ends p e below s G Q kc ks (T.setTop (mkF m pc Ls (.int y :: .int x :: St))) := own_of (fun _ q => XS.imul X.here hx rfl (hb hby hd) rfl q) k
theorem own_iand (X : Stand p l e R sS m args below meth c T locs cells slots) (hx : p.tables.exec = Jvm.exec) {code : ByteArray} (hby : c.code = code) {pc : Nat} {Ls : Array Slot} {St : List Value} {x y : Int32} (hd : decode code pc = .ok (.iand, 1)) (k : own_Ends p e below s G Q kc ks (T.setTop (mkF m (pc + 1) Ls (.int (x &&& y) :: St)))) : own_Ends p e below s G Q kc ks (T.setTop (mkF m pc Ls (.int y :: .int x :: St))) := own_of (fun _ q => XS.iand X.here hx rfl (hb hby hd) rfl q) k
theorem own_ior (X : Stand p l e R sS m args below meth c T locs cells slots) (hx : p.tables.exec = Jvm.exec) {code : ByteArray} (hby : c.code = code) {pc : Nat} {Ls : Array Slot} {St : List Value} {x y : Int32} (hd : decode code pc = .ok (.ior, 1)) (k : own_Ends p e below s G Q kc ks (T.setTop (mkF m (pc + 1) Ls (.int (x ||| y) :: St)))) : own_Ends p e below s G Q kc ks (T.setTop (mkF m pc Ls (.int y :: .int x :: St))) := own_of (fun _ q => XT.ior X.here hx rfl (hb hby hd) rfl q) k
theorem own_ixor (X : Stand p l e R sS m args below meth c T locs cells slots) (hx : p.tables.exec = Jvm.exec) {code : ByteArray} (hby : c.code = code) {pc : Nat} {Ls : Array Slot} {St : List Value} {x y : Int32} (hd : decode code pc = .ok (.ixor, 1)) (k : own_Ends p e below s G Q kc ks (T.setTop (mkF m (pc + 1) Ls (.int (x ^^^ y) :: St)))) : own_Ends p e below s G Q kc ks (T.setTop (mkF m pc Ls (.int y :: .int x :: St))) := own_of (fun _ q => XT.ixor X.here hx rfl (hb hby hd) rfl q) k
theorem own_ladd (X : Stand p l e R sS m args below meth c T locs cells slots) (hx : p.tables.exec = Jvm.exec) {code : ByteArray} (hby : c.code = code) {pc : Nat} {Ls : Array Slot} {St : List Value} {x y : Int64} (hd : decode code pc = .ok (.ladd, 1)) (k : own_Ends p e below s G Q kc ks (T.setTop (mkF m (pc + 1) Ls (.long (x + y) :: St)))) : own_Ends p e below s G Q kc ks (T.setTop (mkF m pc Ls (.long y :: .long x :: St))) := own_of (fun _ q => XT.ladd X.here hx rfl (hb hby hd) rfl q) k
theorem own_lsub (X : Stand p l e R sS m args below meth c T locs cells slots) (hx : p.tables.exec = Jvm.exec) {code : ByteArray} (hby : c.code = code) {pc : Nat} {Ls : Array Slot} {St : List Value} {x y : Int64} (hd : decode code pc = .ok (.lsub, 1)) (k : own_Ends p e below s G Q kc ks (T.setTop (mkF m (pc + 1) Ls (.long (x - y) :: St)))) : own_Ends p e below s G Q kc ks (T.setTop (mkF m pc Ls (.long y :: .long x :: St))) := own_of (fun _ q => XT.lsub X.here hx rfl (hb hby hd) rfl q) k
theorem own_lmul (X : Stand p l e R sS m args below meth c T locs cells slots) (hx : p.tables.exec = Jvm.exec) {code : ByteArray} (hby : c.code = code) {pc : Nat} {Ls : Array Slot} {St : List Value} {x y : Int64} (hd : decode code pc = .ok (.lmul, 1)) (k : own_Ends p e below s G Q kc ks (T.setTop (mkF m (pc + 1) Ls (.long (x * y) :: St)))) : own_Ends p e below s G Q kc ks (T.setTop (mkF m pc Ls (.long y :: .long x :: St))) := own_of (fun _ q => XT.lmul X.here hx rfl (hb hby hd) rfl q) k
theorem own_land (X : Stand p l e R sS m args below meth c T locs cells slots) (hx : p.tables.exec = Jvm.exec) {code : ByteArray} (hby : c.code = code) {pc : Nat} {Ls : Array Slot} {St : List Value} {x y : Int64} (hd : decode code pc = .ok (.land, 1)) (k : own_Ends p e below s G Q kc ks (T.setTop (mkF m (pc + 1) Ls (.long (x &&& y) :: St)))) : own_Ends p e below s G Q kc ks (T.setTop (mkF m pc Ls (.long y :: .long x :: St))) := own_of (fun _ q => XT.land X.here hx rfl (hb hby hd) rfl q) k
theorem own_lor (X : Stand p l e R sS m args below meth c T locs cells slots) (hx : p.tables.exec = Jvm.exec) {code : ByteArray} (hby : c.code = code) {pc : Nat} {Ls : Array Slot} {St : List Value} {x y : Int64} (hd : decode code pc = .ok (.lor, 1)) (k : own_Ends p e below s G Q kc ks (T.setTop (mkF m (pc + 1) Ls (.long (x ||| y) :: St)))) : own_Ends p e below s G Q kc ks (T.setTop (mkF m pc Ls (.long y :: .long x :: St))) := own_of (fun _ q => XT.lor X.here hx rfl (hb hby hd) rfl q) k
theorem own_lxor (X : Stand p l e R sS m args below meth c T locs cells slots) (hx : p.tables.exec = Jvm.exec) {code : ByteArray} (hby : c.code = code) {pc : Nat} {Ls : Array Slot} {St : List Value} {x y : Int64} (hd : decode code pc = .ok (.lxor, 1)) (k : own_Ends p e below s G Q kc ks (T.setTop (mkF m (pc + 1) Ls (.long (x ^^^ y) :: St)))) : own_Ends p e below s G Q kc ks (T.setTop (mkF m pc Ls (.long y :: .long x :: St))) := own_of (fun _ q => XT.lxor X.here hx rfl (hb hby hd) rfl q) k
theorem own_ishl (X : Stand p l e R sS m args below meth c T locs cells slots) (hx : p.tables.exec = Jvm.exec) {code : ByteArray} (hby : c.code = code) {pc : Nat} {Ls : Array Slot} {St : List Value} {x y : Int32} (hd : decode code pc = .ok (.ishl, 1)) (k : own_Ends p e below s G Q kc ks (T.setTop (mkF m (pc + 1) Ls (.int (x <<< (y &&& 31)) :: St)))) : own_Ends p e below s G Q kc ks (T.setTop (mkF m pc Ls (.int y :: .int x :: St))) := own_of (fun _ q => XT.ishl X.here hx rfl (hb hby hd) rfl q) k
theorem own_ishr (X : Stand p l e R sS m args below meth c T locs cells slots) (hx : p.tables.exec = Jvm.exec) {code : ByteArray} (hby : c.code = code) {pc : Nat} {Ls : Array Slot} {St : List Value} {x y : Int32} (hd : decode code pc = .ok (.ishr, 1)) (k : own_Ends p e below s G Q kc ks (T.setTop (mkF m (pc + 1) Ls (.int (x >>> (y &&& 31)) :: St)))) : own_Ends p e below s G Q kc ks (T.setTop (mkF m pc Ls (.int y :: .int x :: St))) := own_of (fun _ q => XT.ishr X.here hx rfl (hb hby hd) rfl q) k
theorem own_iushr (X : Stand p l e R sS m args below meth c T locs cells slots) (hx : p.tables.exec = Jvm.exec) {code : ByteArray} (hby : c.code = code) {pc : Nat} {Ls : Array Slot} {St : List Value} {x y : Int32} (hd : decode code pc = .ok (.iushr, 1)) (k : own_Ends p e below s G Q kc ks (T.setTop (mkF m (pc + 1) Ls (.int (XT.ushr x y) :: St)))) : own_Ends p e below s G Q kc ks (T.setTop (mkF m pc Ls (.int y :: .int x :: St))) := own_of (fun _ q => XT.iushr X.here hx rfl (hb hby hd) rfl q) k
theorem own_lshl (X : Stand p l e R sS m args below meth c T locs cells slots) (hx : p.tables.exec = Jvm.exec) {code : ByteArray} (hby : c.code = code) {pc : Nat} {Ls : Array Slot} {St : List Value} {x : Int64} {y : Int32} (hd : decode code pc = .ok (.lshl, 1)) (k : own_Ends p e below s G Q kc ks (T.setTop (mkF m (pc + 1) Ls (.long (x <<< (y.toInt64 &&& 63)) :: St)))) : own_Ends p e below s G Q kc ks (T.setTop (mkF m pc Ls (.int y :: .long x :: St))) := own_of (fun _ q => XT.lshl X.here hx rfl (hb hby hd) rfl q) k
theorem own_lshr (X : Stand p l e R sS m args below meth c T locs cells slots) (hx : p.tables.exec = Jvm.exec) {code : ByteArray} (hby : c.code = code) {pc : Nat} {Ls : Array Slot} {St : List Value} {x : Int64} {y : Int32} (hd : decode code pc = .ok (.lshr, 1)) (k : own_Ends p e below s G Q kc ks (T.setTop (mkF m (pc + 1) Ls (.long (x >>> (y.toInt64 &&& 63)) :: St)))) : own_Ends p e below s G Q kc ks (T.setTop (mkF m pc Ls (.int y :: .long x :: St))) := own_of (fun _ q => XT.lshr X.here hx rfl (hb hby hd) rfl q) k
theorem own_lushr (X : Stand p l e R sS m args below meth c T locs cells slots) (hx : p.tables.exec = Jvm.exec) {code : ByteArray} (hby : c.code = code) {pc : Nat} {Ls : Array Slot} {St : List Value} {x : Int64} {y : Int32} (hd : decode code pc = .ok (.lushr, 1)) (k : own_Ends p e below s G Q kc ks (T.setTop (mkF m (pc + 1) Ls (.long (XT.ushrL x y) :: St)))) : own_Ends p e below s G Q kc ks (T.setTop (mkF m pc Ls (.int y :: .long x :: St))) := own_of (fun _ q => XT.lushr X.here hx rfl (hb hby hd) rfl q) k
theorem own_ineg (X : Stand p l e R sS m args below meth c T locs cells slots) (hx : p.tables.exec = Jvm.exec) {code : ByteArray} (hby : c.code = code) {pc : Nat} {Ls : Array Slot} {St : List Value} {x : Int32} (hd : decode code pc = .ok (.ineg, 1)) (k : own_Ends p e below s G Q kc ks (T.setTop (mkF m (pc + 1) Ls (.int (-x) :: St)))) : own_Ends p e below s G Q kc ks (T.setTop (mkF m pc Ls (.int x :: St))) := own_of (fun _ q => XS.ineg X.here hx rfl (hb hby hd) rfl q) k
theorem own_lneg (X : Stand p l e R sS m args below meth c T locs cells slots) (hx : p.tables.exec = Jvm.exec) {code : ByteArray} (hby : c.code = code) {pc : Nat} {Ls : Array Slot} {St : List Value} {x : Int64} (hd : decode code pc = .ok (.lneg, 1)) (k : own_Ends p e below s G Q kc ks (T.setTop (mkF m (pc + 1) Ls (.long (-x) :: St)))) : own_Ends p e below s G Q kc ks (T.setTop (mkF m pc Ls (.long x :: St))) := own_of (fun _ q => XT.lneg X.here hx rfl (hb hby hd) rfl q) k
theorem own_i2l (X : Stand p l e R sS m args below meth c T locs cells slots) (hx : p.tables.exec = Jvm.exec) {code : ByteArray} (hby : c.code = code) {pc : Nat} {Ls : Array Slot} {St : List Value} {x : Int32} (hd : decode code pc = .ok (.i2l, 1)) (k : own_Ends p e below s G Q kc ks (T.setTop (mkF m (pc + 1) Ls (.long (x.toInt64) :: St)))) : own_Ends p e below s G Q kc ks (T.setTop (mkF m pc Ls (.int x :: St))) := own_of (fun _ q => XT.i2l X.here hx rfl (hb hby hd) rfl q) k
theorem own_l2i (X : Stand p l e R sS m args below meth c T locs cells slots) (hx : p.tables.exec = Jvm.exec) {code : ByteArray} (hby : c.code = code) {pc : Nat} {Ls : Array Slot} {St : List Value} {x : Int64} (hd : decode code pc = .ok (.l2i, 1)) (k : own_Ends p e below s G Q kc ks (T.setTop (mkF m (pc + 1) Ls (.int (x.toInt32) :: St)))) : own_Ends p e below s G Q kc ks (T.setTop (mkF m pc Ls (.long x :: St))) := own_of (fun _ q => XT.l2i X.here hx rfl (hb hby hd) rfl q) k
theorem own_i2b (X : Stand p l e R sS m args below meth c T locs cells slots) (hx : p.tables.exec = Jvm.exec) {code : ByteArray} (hby : c.code = code) {pc : Nat} {Ls : Array Slot} {St : List Value} {x : Int32} (hd : decode code pc = .ok (.i2b, 1)) (k : own_Ends p e below s G Q kc ks (T.setTop (mkF m (pc + 1) Ls (.int (x.toInt8.toInt32) :: St)))) : own_Ends p e below s G Q kc ks (T.setTop (mkF m pc Ls (.int x :: St))) := own_of (fun _ q => XT.i2b X.here hx rfl (hb hby hd) rfl q) k
theorem own_i2s (X : Stand p l e R sS m args below meth c T locs cells slots) (hx : p.tables.exec = Jvm.exec) {code : ByteArray} (hby : c.code = code) {pc : Nat} {Ls : Array Slot} {St : List Value} {x : Int32} (hd : decode code pc = .ok (.i2s, 1)) (k : own_Ends p e below s G Q kc ks (T.setTop (mkF m (pc + 1) Ls (.int (x.toInt16.toInt32) :: St)))) : own_Ends p e below s G Q kc ks (T.setTop (mkF m pc Ls (.int x :: St))) := own_of (fun _ q => XT.i2s X.here hx rfl (hb hby hd) rfl q) k
theorem own_i2c (X : Stand p l e R sS m args below meth c T locs cells slots) (hx : p.tables.exec = Jvm.exec) {code : ByteArray} (hby : c.code = code) {pc : Nat} {Ls : Array Slot} {St : List Value} {x : Int32} (hd : decode code pc = .ok (.i2c, 1)) (k : own_Ends p e below s G Q kc ks (T.setTop (mkF m (pc + 1) Ls (.int (x.toUInt32.toUInt16.toUInt32.toInt32) :: St)))) : own_Ends p e below s G Q kc ks (T.setTop (mkF m pc Ls (.int x :: St))) := own_of (fun _ q => XT.i2c X.here hx rfl (hb hby hd) rfl q) k
theorem own_lcmp (X : Stand p l e R sS m args below meth c T locs cells slots) (hx : p.tables.exec = Jvm.exec) {code : ByteArray} (hby : c.code = code) {pc : Nat} {Ls : Array Slot} {St : List Value} {x y : Int64} (hd : decode code pc = .ok (.lcmp, 1)) (k : own_Ends p e below s G Q kc ks (T.setTop (mkF m (pc + 1) Ls (.int (XT.cmpL x y) :: St)))) : own_Ends p e below s G Q kc ks (T.setTop (mkF m pc Ls (.long y :: .long x :: St))) := own_of (fun _ q => XT.lcmp X.here hx rfl (hb hby hd) rfl q) k
theorem own_dup (X : Stand p l e R sS m args below meth c T locs cells slots) (hx : p.tables.exec = Jvm.exec) {code : ByteArray} (hby : c.code = code) {pc : Nat} {Ls : Array Slot} {St : List Value} {x : Value} (hd : decode code pc = .ok (.dup, 1)) (hc : x.category = 1) (k : own_Ends p e below s G Q kc ks (T.setTop (mkF m (pc + 1) Ls (x :: x :: St)))) : own_Ends p e below s G Q kc ks (T.setTop (mkF m pc Ls (x :: St))) := own_of (fun _ q => XS.dup X.here hx rfl (hb hby hd) rfl hc q) k
theorem own_dupX1 (X : Stand p l e R sS m args below meth c T locs cells slots) (hx : p.tables.exec = Jvm.exec) {code : ByteArray} (hby : c.code = code) {pc : Nat} {Ls : Array Slot} {St : List Value} {x y : Value} (hd : decode code pc = .ok (.dup_x1, 1)) (hc : x.category = 1) (hc' : y.category = 1) (k : own_Ends p e below s G Q kc ks (T.setTop (mkF m (pc + 1) Ls (x :: y :: x :: St)))) : own_Ends p e below s G Q kc ks (T.setTop (mkF m pc Ls (x :: y :: St))) := own_of (fun _ q => XT.dupX1 X.here hx rfl (hb hby hd) rfl hc hc' q) k
theorem own_dup2 (X : Stand p l e R sS m args below meth c T locs cells slots) (hx : p.tables.exec = Jvm.exec) {code : ByteArray} (hby : c.code = code) {pc : Nat} {Ls : Array Slot} {St : List Value} {x y : Value} (hd : decode code pc = .ok (.dup2, 1)) (hc : x.category = 1) (hc' : y.category = 1) (k : own_Ends p e below s G Q kc ks (T.setTop (mkF m (pc + 1) Ls (x :: y :: x :: y :: St)))) : own_Ends p e below s G Q kc ks (T.setTop (mkF m pc Ls (x :: y :: St))) := own_of (fun _ q => XT.dup2 X.here hx rfl (hb hby hd) rfl hc hc' q) k
theorem own_dup2L (X : Stand p l e R sS m args below meth c T locs cells slots) (hx : p.tables.exec = Jvm.exec) {code : ByteArray} (hby : c.code = code) {pc : Nat} {Ls : Array Slot} {St : List Value} {x : Int64} (hd : decode code pc = .ok (.dup2, 1)) (k : own_Ends p e below s G Q kc ks (T.setTop (mkF m (pc + 1) Ls (.long x :: .long x :: St)))) : own_Ends p e below s G Q kc ks (T.setTop (mkF m pc Ls (.long x :: St))) := own_of (fun _ q => XT.dup2L X.here hx rfl (hb hby hd) rfl q) k
theorem own_pop (X : Stand p l e R sS m args below meth c T locs cells slots) (hx : p.tables.exec = Jvm.exec) {code : ByteArray} (hby : c.code = code) {pc : Nat} {Ls : Array Slot} {St : List Value} {x : Value} (hd : decode code pc = .ok (.pop, 1)) (hc : x.category = 1) (k : own_Ends p e below s G Q kc ks (T.setTop (mkF m (pc + 1) Ls (St)))) : own_Ends p e below s G Q kc ks (T.setTop (mkF m pc Ls (x :: St))) := own_of (fun _ q => XT.pop X.here hx rfl (hb hby hd) rfl hc q) k
theorem own_iinc (X : Stand p l e R sS m args below meth c T locs cells slots) (hx : p.tables.exec = Jvm.exec) {code : ByteArray} (hby : c.code = code) {pc : Nat} {Ls : Array Slot} {St : List Value} {k : Nat} {cst : Int} {x : Int32} {l' : Array Slot} (hd : decode code pc = .ok (.iinc k cst, 3)) (hl : Ls[k]? = some (.val (.int x))) (hl' : storeLocals Ls k (.int (x + Int32.ofInt cst)) = some l') (k : own_Ends p e below s G Q kc ks (T.setTop (mkF m (pc + 3) l' (St)))) : own_Ends p e below s G Q kc ks (T.setTop (mkF m pc Ls (St))) := own_of (fun _ q => XS.iinc X.here hx rfl (hb hby hd) hl hl' q) k
theorem own_iconst (X : Stand p l e R sS m args below meth c T locs cells slots) (hx : p.tables.exec = Jvm.exec) {code : ByteArray} (hby : c.code = code) {pc : Nat} {Ls : Array Slot} {St : List Value} {i : Int} (z : Int32) (hd : decode code pc = .ok (.iconst i, 1)) (hz : Int32.ofInt i = z) (k : own_Ends p e below s G Q kc ks (T.setTop (mkF m (pc + 1) Ls (.int z :: St)))) : own_Ends p e below s G Q kc ks (T.setTop (mkF m pc Ls St)) := by subst hz; exact own_of (fun _ q => XS.iconst X.here hx rfl (hb hby hd) q) k
theorem own_bipush (X : Stand p l e R sS m args below meth c T locs cells slots) (hx : p.tables.exec = Jvm.exec) {code : ByteArray} (hby : c.code = code) {pc : Nat} {Ls : Array Slot} {St : List Value} {i : Int} (z : Int32) (hd : decode code pc = .ok (.bipush i, 2)) (hz : (Int8.ofInt i).toInt32 = z) (k : own_Ends p e below s G Q kc ks (T.setTop (mkF m (pc + 2) Ls (.int z :: St)))) : own_Ends p e below s G Q kc ks (T.setTop (mkF m pc Ls St)) := by subst hz; exact own_of (fun _ q => XS.bipush X.here hx rfl (hb hby hd) q) k
theorem own_sipush (X : Stand p l e R sS m args below meth c T locs cells slots) (hx : p.tables.exec = Jvm.exec) {code : ByteArray} (hby : c.code = code) {pc : Nat} {Ls : Array Slot} {St : List Value} {i : Int} (z : Int32) (hd : decode code pc = .ok (.sipush i, 3)) (hz : (Int16.ofInt i).toInt32 = z) (k : own_Ends p e below s G Q kc ks (T.setTop (mkF m (pc + 3) Ls (.int z :: St)))) : own_Ends p e below s G Q kc ks (T.setTop (mkF m pc Ls St)) := by subst hz; exact own_of (fun _ q => XS.sipush X.here hx rfl (hb hby hd) q) k
theorem own_lconst (X : Stand p l e R sS m args below meth c T locs cells slots) (hx : p.tables.exec = Jvm.exec) {code : ByteArray} (hby : c.code = code) {pc : Nat} {Ls : Array Slot} {St : List Value} {i : Fin 2} (z : Int64) (hd : decode code pc = .ok (.lconst i, 1)) (hz : Int64.ofNat i = z) (k : own_Ends p e below s G Q kc ks (T.setTop (mkF m (pc + 1) Ls (.long z :: St)))) : own_Ends p e below s G Q kc ks (T.setTop (mkF m pc Ls St)) := by subst hz; exact own_of (fun _ q => XT.lconst X.here hx rfl (hb hby hd) q) k
theorem own_goto (X : Stand p l e R sS m args below meth c T locs cells slots) (hx : p.tables.exec = Jvm.exec) {code : ByteArray} (hby : c.code = code) {Ls : Array Slot} {St : List Value} (pc pc' : Nat) {o : Int}  (hd : decode code pc = .ok (.goto o, 3)) (ho : 0 ≤ (pc : Int) + o) (hp : ((pc : Int) + o).toNat = pc') (k : own_Ends p e below s G Q kc ks (T.setTop (mkF m pc' Ls St))) : own_Ends p e below s G Q kc ks (T.setTop (mkF m pc Ls (St))) := own_of (fun _ q => XS.goto X.here hx rfl (pc0 := pc) (pc' := pc') rfl (hb hby hd) ho hp q) k
theorem own_ifYes (X : Stand p l e R sS m args below meth c T locs cells slots) (hx : p.tables.exec = Jvm.exec) {code : ByteArray} (hby : c.code = code) {Ls : Array Slot} {St : List Value} (pc pc' : Nat) {o : Int} {cd : ClassFile.Cond} {x : Int32} (hd : decode code pc = .ok (.ifCond cd o, 3)) (hc : ifCond.holds cd x = true) (ho : 0 ≤ (pc : Int) + o) (hp : ((pc : Int) + o).toNat = pc') (k : own_Ends p e below s G Q kc ks (T.setTop (mkF m pc' Ls St))) : own_Ends p e below s G Q kc ks (T.setTop (mkF m pc Ls (.int x :: St))) := own_of (fun _ q => XS.ifYes X.here hx rfl (pc0 := pc) (pc' := pc') rfl (hb hby hd) rfl hc ho hp q) k
theorem own_icmpYes (X : Stand p l e R sS m args below meth c T locs cells slots) (hx : p.tables.exec = Jvm.exec) {code : ByteArray} (hby : c.code = code) {Ls : Array Slot} {St : List Value} (pc pc' : Nat) {o : Int} {cd : ClassFile.Cond} {x y : Int32} (hd : decode code pc = .ok (.if_icmp cd o, 3)) (hc : if_icmp.holds cd x y = true) (ho : 0 ≤ (pc : Int) + o) (hp : ((pc : Int) + o).toNat = pc') (k : own_Ends p e below s G Q kc ks (T.setTop (mkF m pc' Ls St))) : own_Ends p e below s G Q kc ks (T.setTop (mkF m pc Ls (.int y :: .int x :: St))) := own_of (fun _ q => XS.icmpYes X.here hx rfl (pc0 := pc) (pc' := pc') rfl (hb hby hd) rfl hc ho hp q) k
theorem own_ifnullYes (X : Stand p l e R sS m args below meth c T locs cells slots) (hx : p.tables.exec = Jvm.exec) {code : ByteArray} (hby : c.code = code) {Ls : Array Slot} {St : List Value} (pc pc' : Nat) {o : Int}  (hd : decode code pc = .ok (.ifnull o, 3)) (ho : 0 ≤ (pc : Int) + o) (hp : ((pc : Int) + o).toNat = pc') (k : own_Ends p e below s G Q kc ks (T.setTop (mkF m pc' Ls St))) : own_Ends p e below s G Q kc ks (T.setTop (mkF m pc Ls (.null :: St))) := own_of (fun _ q => XS.ifnullYes X.here hx rfl (pc0 := pc) (pc' := pc') rfl (hb hby hd) rfl ho hp q) k
theorem own_ifnonnullYes (X : Stand p l e R sS m args below meth c T locs cells slots) (hx : p.tables.exec = Jvm.exec) {code : ByteArray} (hby : c.code = code) {Ls : Array Slot} {St : List Value} (pc pc' : Nat) {o : Int} {b : Addr} (hd : decode code pc = .ok (.ifnonnull o, 3)) (ho : 0 ≤ (pc : Int) + o) (hp : ((pc : Int) + o).toNat = pc') (k : own_Ends p e below s G Q kc ks (T.setTop (mkF m pc' Ls St))) : own_Ends p e below s G Q kc ks (T.setTop (mkF m pc Ls (.ref b :: St))) := own_of (fun _ q => XT.ifnonnullYes X.here hx rfl (pc0 := pc) (pc' := pc') rfl (hb hby hd) rfl ho hp q) k
theorem own_ifNo (X : Stand p l e R sS m args below meth c T locs cells slots) (hx : p.tables.exec = Jvm.exec) {code : ByteArray} (hby : c.code = code) {pc : Nat} {Ls : Array Slot} {St : List Value} {cd : ClassFile.Cond} {o : Int} {x : Int32} (hd : decode code pc = .ok (.ifCond cd o, 3)) (hc : ifCond.holds cd x = false) (k : own_Ends p e below s G Q kc ks (T.setTop (mkF m (pc + 3) Ls (St)))) : own_Ends p e below s G Q kc ks (T.setTop (mkF m pc Ls (.int x :: St))) := own_of (fun _ q => XS.ifNo X.here hx rfl (hb hby hd) rfl hc q) k
theorem own_icmpNo (X : Stand p l e R sS m args below meth c T locs cells slots) (hx : p.tables.exec = Jvm.exec) {code : ByteArray} (hby : c.code = code) {pc : Nat} {Ls : Array Slot} {St : List Value} {cd : ClassFile.Cond} {o : Int} {x y : Int32} (hd : decode code pc = .ok (.if_icmp cd o, 3)) (hc : if_icmp.holds cd x y = false) (k : own_Ends p e below s G Q kc ks (T.setTop (mkF m (pc + 3) Ls (St)))) : own_Ends p e below s G Q kc ks (T.setTop (mkF m pc Ls (.int y :: .int x :: St))) := own_of (fun _ q => XS.icmpNo X.here hx rfl (hb hby hd) rfl hc q) k
theorem own_ifnullNo (X : Stand p l e R sS m args below meth c T locs cells slots) (hx : p.tables.exec = Jvm.exec) {code : ByteArray} (hby : c.code = code) {pc : Nat} {Ls : Array Slot} {St : List Value} {o : Int} {b : Addr} (hd : decode code pc = .ok (.ifnull o, 3)) (k : own_Ends p e below s G Q kc ks (T.setTop (mkF m (pc + 3) Ls (St)))) : own_Ends p e below s G Q kc ks (T.setTop (mkF m pc Ls (.ref b :: St))) := own_of (fun _ q => XS.ifnullNo X.here hx rfl (hb hby hd) rfl q) k
theorem own_ifnonnullNo (X : Stand p l e R sS m args below meth c T locs cells slots) (hx : p.tables.exec = Jvm.exec) {code : ByteArray} (hby : c.code = code) {pc : Nat} {Ls : Array Slot} {St : List Value} {o : Int} (hd : decode code pc = .ok (.ifnonnull o, 3)) (k : own_Ends p e below s G Q kc ks (T.setTop (mkF m (pc + 3) Ls (St)))) : own_Ends p e below s G Q kc ks (T.setTop (mkF m pc Ls (.null :: St))) := own_of (fun _ q => XT.ifnonnullNo X.here hx rfl (hb hby hd) rfl q) k
end Own2
theorem own_w {Z : State} {a0 : Array Value} (hw : ∀ d ∈ tables_1, d.before a0 Z = true) (i : Nat) {d : Jvm.Cond} (h : tables_1[i]? = some d) : d.before a0 Z = true := hw _ (List.mem_of_getElem? h)
theorem own_eqk {args : Array Value} {s : State} {t : Term} {k : Int32} (h : (Cond.eq t (.int k)).value args s none s [] = some true) : t.eval args s none [] s = some (.int k) := by
  obtain ⟨x, y, ex, ey, k1, k2⟩ := cmp_v (Or.inl h)
  obtain rfl : y = .int k := (Option.some.inj ((Term.int_eval k).symm.trans ey)).symm
  obtain ⟨z, rfl⟩ := k2
  rw [ex, gotT (Cond.eq_ints ex ey) h]
theorem own_staKeep {Z : State} {h h' : Heap} {C n d : String} {v : Value} {ws : List Addr} (F : Sta Z h C n d v) (K : Keep h h' ws) (q : ∀ x ∈ ws, ∀ c : Cell, h[x]? = some c → c.vm.isStatics = false) : Sta Z h' C n d v := by
  obtain ⟨cf, i, k, f, st, cell, h1, h2, h3, h4, h5, h6, h7⟩ := F
  refine ⟨cf, i, k, f, st, cell, h1, h2, h3, h4, K.2.1 st cell h5 (fun z => ?_), h6, h7⟩
  have := q st z cell h5
  rw [h6] at this; cases this
theorem own_strAtoms {Z : State} {a0 : Array Value} (hw : ∀ d ∈ tables_1, d.before a0 Z = true) : ∀ d ∈ Bundle.stringAtoms, d.before a0 Z = true := by
  intro d hd
  simp only [Bundle.stringAtoms, List.mem_cons, List.not_mem_nil, or_false] at hd
  rcases hd with rfl | rfl | rfl | rfl | rfl | rfl | rfl
  · exact hw _ (List.mem_of_getElem? (i := 2) rfl)
  · exact hw _ (List.mem_of_getElem? (i := 1) rfl)
  · exact hw _ (List.mem_of_getElem? (i := 15) rfl)
  · exact hw _ (List.mem_of_getElem? (i := 16) rfl)
  · exact hw _ (List.mem_of_getElem? (i := 17) rfl)
  · exact hw _ (List.mem_of_getElem? (i := 18) rfl)
  · exact hw _ (List.mem_of_getElem? (i := 19) rfl)
section OwnBack
variable {p : Program} {l : Launch} {e : Env} {R : Room} {s : State} {args : Array Value} {below : List Frame} {Z : State} {a0 : Array Value} {EL : List (String × Nat)} {h : Heap} {vm0 : Vm}
/-- a callee that reads a held constant and of whose end nothing is said on the constants -/
theorem own_backSC {y : MethodName} {bytes : ByteArray} {maxL : Nat} {ret : Option FieldType} {rm : Room} {len W : Nat} {as' : Array Value} {Q : Option Value → Heap → List Loc → Prop}
    (hM : MetFree l y (head1 [Cond.code y bytes maxL ret] rm) (fun a U => a = as' ∧ Z.Warmed39 U.vm ∧ U.heap = h ∧ CHv Z EL U.vm h) (fun _ _ _ _ _ => True) (fun _ U o U' => ∃ v L, o = .returned v ∧ Q v U'.heap L ∧ ReturnedEndW U o U' L rm.cells rm.slots))
    (hEL : EW Z a0 EL) (H : CHv Z EL vm0 h) (hZ : Z.Warmed39 vm0) (wc : (Cond.code y bytes maxL ret).before a0 Z = true) (wz : (Cond.initialized y.cls).before a0 Z = true) (hf : rm.frames + 1 ≤ R.frames) (hl : W + (maxL + 11) + rm.locals ≤ R.locals) :
    BackS l R p e below (s.setVm vm0) args y len W (fun A a => a = as' ∧ A.U.heap = h ∧ A.cells + rm.cells ≤ R.cells ∧ A.slots + rm.slots ≤ R.slots)
      (fun A _ v B => ∃ L, Q v B.U.heap L ∧ B.locs = A.locs ++ L ∧ B.cells = A.cells + rm.cells ∧ B.slots = A.slots + rm.slots) :=
  BackS.of_freeW (bytes := bytes) (maxL := maxL) (ret := ret) (E := fun _ _ o t L k n => k = rm.cells ∧ n = rm.slots ∧ ∃ v, o = .returned v ∧ Q v t.heap L) hM hf hl
    (fun m meth c A a Y hp => have hU : Z.Warmed39 A.U.vm := wtrans (s := s.setVm vm0) hZ Y.warmed
      ⟨by show (Cond.and _ .tt).before a A.U = true; rw [Cond.before_and, mv hU wc]; rfl, mv hU wc, mv hU wz, hp.2.2.1, hp.2.2.2⟩)
    (fun m meth c A a g mk Y hp => ⟨hp.1, wtrans (s := s.setVm vm0) hZ Y.warmed, hp.2.1, (CHv.at Y hZ hEL H).1⟩) (fun _ _ _ _ _ _ _ _ _ => trivial)
    (fun _ _ _ _ ⟨v, L, h1, h2, h3⟩ => ⟨L, _, _, h3, rfl, rfl, v, h1, h2⟩)
    (fun m meth c A a g mk v t L k n Y hp _ _ ⟨e1, e2, v', e3, e4⟩ => by cases e3; subst e1 e2; exact ⟨L, e4, rfl, rfl, rfl⟩)
end OwnBack
theorem own_nar2 (x : Int32) : nar .char (nar .char x) = nar .char x := by
  show (x.toUInt32.toUInt16.toUInt32.toInt32).toUInt32.toUInt16.toUInt32.toInt32 = x.toUInt32.toUInt16.toUInt32.toInt32
  have : (x.toUInt32.toUInt16.toUInt32.toInt32).toUInt32 = x.toUInt32.toUInt16.toUInt32 := rfl
  rw [this, UInt16.toUInt16_toUInt32]
def Qv (x : Int32) (h0 : Heap) (n0 : Nat) (v : Option Value) (h : Heap) (L : List Loc) : Prop := v = some (.int x) ∧ Fr n0 L ∧ h = h0
def Qn (h0 : Heap) (n0 : Nat) (v : Option Value) (h : Heap) (L : List Loc) : Prop := v = none ∧ Fr n0 L ∧ h = h0
def own_at (cs : List Int32) (j : Int32) : Int32 := cs.getD j.toNatClampNeg 0
theorem own_at_eq (cs : List Int32) (j : Int32) : (cs.map Value.int).getD j.toNatClampNeg (.int 0) = .int (own_at cs j) := by
  unfold own_at
  simp only [List.getD_eq_getElem?_getD, List.getElem?_map]
  cases cs[j.toNatClampNeg]? <;> rfl
/-- the sign at a place of a String of one-byte signs -/
def own_ch (cs : List Int32) (j : Int32) : Int32 := nar .char (((own_at cs j) &&& 255).toUInt32.toUInt16.toUInt32.toInt32)
def own_gc (x y : Int32) : Int32 := nar .char (((((x &&& 255) <<< ((0 : Int32) &&& 31)) ||| ((y &&& 255) <<< ((8 : Int32) &&& 31))).toUInt32.toUInt16.toUInt32.toInt32))
/-- the sign at a place of a String of two-byte signs -/
def own_chu (cs : List Int32) (j : Int32) : Int32 := own_gc (own_at cs (j <<< ((1 : Int32) &&& 31))) (own_at cs ((j <<< ((1 : Int32) &&& 31)) + 1))
def own_b8 (c : Int32) : Int32 := nar .byte (c.toInt8.toInt32)
def own_lo8 (c : Int32) : Int32 := nar .byte ((c >>> ((0 : Int32) &&& 31)).toInt8.toInt32)
def own_hi8 (c : Int32) : Int32 := nar .byte ((c >>> ((8 : Int32) &&& 31)).toInt8.toInt32)
def own_u16 : List Int32 → List Int32
  | [] => []
  | c :: r => own_lo8 c :: own_hi8 c :: own_u16 r
theorem own_mono {l : Launch} {x : MethodName} {S : Spec} {P : Array Value → State → Prop} {K : Program → Env → List Frame → State → Array Value → Prop} {Q Q' : Array Value → State → Outcome → State → Prop} (h : MetFree l x S P K Q) (hq : ∀ a s o t, Q a s o t → Q' a s o t) : MetFree l x S P K Q' := fun p e ha hc hk s m args below hf happ hP hK => by
  obtain ⟨n, o, h1, h2, h3, h4⟩ := h p e ha hc hk s m args below hf happ hP hK
  exact ⟨n, o, h1, h2, h3, hq _ _ _ _ h4⟩
theorem own_char_bd (x : Int32) : 0 ≤ (nar .char x).toInt ∧ (nar .char x).toInt < 65536 := by
  have e : (nar .char x).toBitVec.toNat = (x.toUInt32.toUInt16).toNat := by
    show (x.toUInt32.toUInt16.toUInt32).toNat = _
    rw [UInt16.toNat_toUInt32]
  have h := (x.toUInt32.toUInt16).toNat_lt
  have q : (nar .char x).toInt = ((nar .char x).toBitVec.toNat : Int) := by
    show (nar .char x).toBitVec.toInt = _
    rw [BitVec.toInt_eq_toNat_cond, if_pos (by omega)]
  omega
theorem own_nat {x : Int32} (h1 : 0 ≤ x.toInt) : x.toInt = (x.toBitVec.toNat : Int) := by
  have e : x.toInt = x.toBitVec.toInt := rfl
  rw [e] at h1 ⊢
  rw [BitVec.toInt_eq_toNat_cond] at h1 ⊢
  have := x.toBitVec.isLt
  split at h1 <;> rename_i hc
  · rw [if_pos hc]
  · omega
theorem own_toc {x : Int32} (h1 : 0 ≤ x.toInt) (h2 : x.toInt < 65536) : x.toUInt32.toUInt16.toUInt32.toInt32 = x := by
  apply Int32.toInt_inj.mp
  have e1 := own_nat h1
  have e3 : (x.toUInt32.toUInt16.toUInt32.toInt32).toBitVec.toNat = x.toBitVec.toNat % 65536 := by
    show (x.toUInt32.toUInt16.toUInt32).toNat = _
    rw [UInt16.toNat_toUInt32, UInt32.toNat_toUInt16]
    rfl
  have e4 : x.toBitVec.toNat < 65536 := by omega
  show (x.toUInt32.toUInt16.toUInt32.toInt32).toBitVec.toInt = x.toInt
  rw [BitVec.toInt_eq_toNat_cond, e3, Nat.mod_eq_of_lt e4, if_pos (by omega), e1]
theorem own_nar_i2c (x : Int32) : nar .char (x.toUInt32.toUInt16.toUInt32.toInt32) = x.toUInt32.toUInt16.toUInt32.toInt32 := own_nar2 x
/-- a byte's sign, masked: the low eight bits of what was narrowed -/
theorem own_mask8 (c : Int32) : (nar .byte (c.toInt8.toInt32)) &&& 255 = c &&& 255 := by
  apply Int32.toBitVec_inj.mp
  show ((c.toInt8.toInt32).toInt8.toInt32).toBitVec &&& (255 : Int32).toBitVec = c.toBitVec &&& (255 : Int32).toBitVec
  rw [Int8.toInt8_toInt32]
  show (c.toBitVec.signExtend 8).signExtend 32 &&& 255#32 = c.toBitVec &&& 255#32
  apply BitVec.eq_of_getLsbD_eq
  intro i hi
  simp only [BitVec.getLsbD_and, BitVec.getLsbD_signExtend]
  by_cases h8 : i < 8
  · simp [h8, hi] <;> omega
  · have : (255#32).getLsbD i = false := by
      rw [show (255#32) = BitVec.ofNat 32 (2 ^ 8 - 1) from rfl, BitVec.getLsbD_ofNat, Nat.testBit_two_pow_sub_one]
      simp [h8]
    simp [this]
theorem own_and255 {c : Int32} (h1 : 0 ≤ c.toInt) (h2 : ¬ ((255 : Int32) < c)) : c &&& 255 = c := by
  apply Int32.toInt_inj.mp
  rw [Jvm.Kit.i32_mask c 255 (k := 8) (by decide) (by decide)]
  rw [Int32.lt_iff_toInt_lt, show (255 : Int32).toInt = 255 by decide] at h2
  omega
theorem own_ch_eq {c : Int32} (h : 0 ≤ c.toInt ∧ c.toInt < 65536) (h2 : ¬ ((255 : Int32) < c)) : nar .char (((own_b8 c) &&& 255).toUInt32.toUInt16.toUInt32.toInt32) = c := by
  have e : own_b8 c &&& 255 = c := (own_mask8 c).trans (own_and255 h.1 h2)
  rw [e, own_toc h.1 h.2]
  exact own_toc h.1 h.2
theorem own_gc_eq {c : Int32} (h : 0 ≤ c.toInt ∧ c.toInt < 65536) : own_gc (own_lo8 c) (own_hi8 c) = c := by
  have e1 : own_lo8 c &&& 255 = (c >>> ((0 : Int32) &&& 31)) &&& 255 := own_mask8 _
  have e2 : own_hi8 c &&& 255 = (c >>> ((8 : Int32) &&& 31)) &&& 255 := own_mask8 _
  have k0 : (((0 : Int32) &&& 31).toBitVec.smod 32).toNat = 0 := by decide
  have k8 : (((8 : Int32) &&& 31).toBitVec.smod 32).toNat = 8 := by decide
  have s0 : c >>> ((0 : Int32) &&& 31) = c := by
    apply Int32.toInt_inj.mp
    rw [Jvm.Kit.i32_shr c _ k0]; omega
  have m0 := Jvm.Kit.i32_mask c 255 (k := 8) (by decide) (by decide)
  have s8 := Jvm.Kit.i32_shr c ((8 : Int32) &&& 31) k8
  have m8 := Jvm.Kit.i32_mask (c >>> ((8 : Int32) &&& 31)) 255 (k := 8) (by decide) (by decide)
  have l0 : ((c &&& 255) <<< ((0 : Int32) &&& 31)) = c &&& 255 := by
    apply Int32.toInt_inj.mp
    rw [Jvm.Kit.i32_shl _ _ k0 (by omega) (by omega)]; omega
  have l8 := Jvm.Kit.i32_shl ((c >>> ((8 : Int32) &&& 31)) &&& 255) ((8 : Int32) &&& 31) k8 (by omega) (by omega)
  unfold own_gc
  rw [e1, e2, s0, l0]
  have key : ((c &&& 255) ||| (((c >>> ((8 : Int32) &&& 31)) &&& 255) <<< ((8 : Int32) &&& 31))) = c := by
    generalize hx : (c &&& 255) = x at *
    generalize hy : (((c >>> ((8 : Int32) &&& 31)) &&& 255) <<< ((8 : Int32) &&& 31)) = y at *
    have nx : 0 ≤ x.toInt := by omega
    have ny : 0 ≤ y.toInt := by omega
    have ex := own_nat nx
    have ey := own_nat ny
    have ec := own_nat h.1
    apply Int32.toBitVec_inj.mp
    apply BitVec.eq_of_toNat_eq
    show (x.toBitVec ||| y.toBitVec).toNat = c.toBitVec.toNat
    rw [BitVec.toNat_or]
    have d : y.toBitVec.toNat = 2 ^ 8 * (y.toBitVec.toNat / 256) := by omega
    have lx : x.toBitVec.toNat < 2 ^ 8 := by omega
    rw [d, Nat.or_comm, ← Nat.two_pow_add_eq_or_of_lt lx]
    omega
  rw [key, own_toc h.1 h.2]
  exact own_toc h.1 h.2
/-- a String at a, its signs cs: one byte a sign (z of them, no sign above 255), or two (z2 bytes) -/
def own_Str (Z : State) (h : Heap) (a : Addr) (z z2 : Int32) (cs : List Int32) : Prop := Exa Z h a "java/lang/String" ∧ ∃ (b : Addr) (kb : ClassId), Fld Z h a "java/lang/String" "value" "[B" (.ref b) ∧
  ((Fld Z h a "java/lang/String" "coder" "B" (.int (0 : Int32)) ∧ Arv Z h b kb .byte z ((cs.map own_b8).map Value.int) (.int (0 : Int32)) ∧ ∀ c ∈ cs, ¬ ((255 : Int32) < c)) ∨
   (Fld Z h a "java/lang/String" "coder" "B" (.int (1 : Int32)) ∧ Arv Z h b kb .byte z2 ((own_u16 cs).map Value.int) (.int (0 : Int32))))
def own_fok (c : Int32) : Bool := if (255 : Int32) < c then false else if c < 32 then (if c = 9 then (if c = 127 then false else true) else false) else if c = 127 then false else true
def own_fv : List Int32 → Int32
  | [] => 1
  | c :: r => if own_fok c = true then own_fv r else 0
def own_okl (c : Int32) : Int32 := if c = 9 then 1 else if c < 32 then (if c < 128 then 0 else if 255 < c then 0 else 1) else if 126 < c then (if c < 128 then 0 else if 255 < c then 0 else 1) else 1
theorem own_okl01 (c : Int32) : own_okl c = 0 ∨ own_okl c = 1 := by
  unfold own_okl
  split
  · exact Or.inr rfl
  · split
    · split
      · exact Or.inl rfl
      · split
        · exact Or.inl rfl
        · exact Or.inr rfl
    · split
      · split
        · exact Or.inl rfl
        · split
          · exact Or.inl rfl
          · exact Or.inr rfl
      · exact Or.inr rfl
theorem own_fok_iff {c : Int32} (h : 0 ≤ c.toInt ∧ c.toInt < 65536) : own_fok c = true ↔ ¬ (own_okl c = 0) := by
  have c9 : (9 : Int32).toInt = 9 := by decide
  have c32 : (32 : Int32).toInt = 32 := by decide
  have c126 : (126 : Int32).toInt = 126 := by decide
  have c127 : (127 : Int32).toInt = 127 := by decide
  have c128 : (128 : Int32).toInt = 128 := by decide
  have c255 : (255 : Int32).toInt = 255 := by decide
  have o1 : ¬ ((1 : Int32) = 0) := by decide
  unfold own_fok own_okl
  simp only [Int32.lt_iff_toInt_lt, ← Int32.toInt_inj, c9, c32, c126, c127, c128, c255]
  have z0 : (0 : Int32).toInt = 0 := by decide
  have z1 : (1 : Int32).toInt = 1 := by decide
  by_cases q1 : c.toInt = 9
  · rw [if_neg (by omega), if_pos (by omega), if_pos q1, if_neg (by omega), if_pos q1]; simp [z0, z1]
  · rw [if_neg q1, if_neg q1]
    by_cases q2 : c.toInt < 32
    · rw [if_neg (by omega), if_pos q2, if_pos q2, if_pos (by omega)]; simp [z0, z1]
    · rw [if_neg q2, if_neg q2]
      by_cases q3 : 126 < c.toInt
      · rw [if_pos q3]
        by_cases q4 : c.toInt < 128
        · rw [if_pos q4, if_neg (by omega), if_pos (by omega)]; simp [z0, z1]
        · rw [if_neg q4]
          by_cases q5 : 255 < c.toInt
          · rw [if_pos q5, if_pos q5]; simp [z0, z1]
          · rw [if_neg q5, if_neg q5, if_neg (by omega)]; simp [z0, z1]
      · rw [if_neg q3, if_neg (by omega), if_neg (by omega)]; simp [z0, z1]
theorem own_fv_cons {c : Int32} (h : 0 ≤ c.toInt ∧ c.toInt < 65536) (r : List Int32) : own_fv (c :: r) = if own_okl c = 0 then 0 else own_fv r := by
  show (if own_fok c = true then own_fv r else 0) = _
  by_cases q : own_okl c = 0
  · rw [if_pos q, if_neg (fun z => (own_fok_iff h).mp z q)]
  · rw [if_neg q, if_pos ((own_fok_iff h).mpr q)]
theorem own_fv0 : own_fv [] = 1 := rfl
theorem own_and3 (x : Int32) : (x &&& 3) = 0 ∨ (x &&& 3) = 1 ∨ (x &&& 3) = 2 ∨ (x &&& 3) = 3 := by
  have e1 := Jvm.Kit.i32_mask x 3 (k := 2) (by decide) (by decide)
  have c0 : (0 : Int32).toInt = 0 := by decide
  have c1 : (1 : Int32).toInt = 1 := by decide
  have c2 : (2 : Int32).toInt = 2 := by decide
  have c3 : (3 : Int32).toInt = 3 := by decide
  rw [← Int32.toInt_inj, ← Int32.toInt_inj, ← Int32.toInt_inj, ← Int32.toInt_inj, e1, c0, c1, c2, c3]
  omega
abbrev mN_0 : MethodName := ⟨"jdk/internal/util/Preconditions", "checkIndex", "(IILjava/util/function/BiFunction;)I"⟩
theorem d15_0 : decode jdk_41_method_11_code 0 = .ok (.iload_n 0, 1) := by decide +kernel
theorem d15_1 : decode jdk_41_method_11_code 1 = .ok (.ifCond .lt 8, 3) := by decide +kernel
theorem d15_4 : decode jdk_41_method_11_code 4 = .ok (.iload_n 0, 1) := by decide +kernel
theorem d15_5 : decode jdk_41_method_11_code 5 = .ok (.iload_n 1, 1) := by decide +kernel
theorem d15_6 : decode jdk_41_method_11_code 6 = .ok (.if_icmp .lt 10, 3) := by decide +kernel
theorem d15_16 : decode jdk_41_method_11_code 16 = .ok (.iload_n 0, 1) := by decide +kernel
theorem d15_17 : decode jdk_41_method_11_code 17 = .ok (.ireturn, 1) := by decide +kernel
theorem pn_0 : plainName "jdk/internal/util/Preconditions" = true := by first | (simp [plainName, overriddenIn]; done) | decide +kernel
theorem ef_pin (m : MethodId) (x0 : Int32) (x1 : Int32) : entryFrame m #[(.int x0), (.int x1), .null] 3 = mkF m 0 #[.val (.int x0), .val (.int x1), .val .null] [] := by first | (simp [entryFrame, mkF, argsToLocals, Value.category]; done) | rfl
set_option maxRecDepth 65536 in
set_option maxHeartbeats 40000000 in
theorem rmpin (l : Launch) (Z : State) (a0 : Array Value) (hw : ∀ d ∈ tables_1, d.before a0 Z = true) (ws : List Jvm.Cond) (p1 p2 : Int32) (h0 : Heap) (n0 : Nat) (Z0 : n0 ≤ h0.size) (h1 : ¬ (p1 < (0 : Int32))) (h2 : p1 < p2) :
    MetFree l mN_0 (head1 (Jvm.Cond.code mN_0 jdk_41_method_11_code 3 (some .int) :: ws) ({ frames := 0, cells := 0, slots := 0, locals := 0 } : Room)) (fun a U => a = #[(.int p1), (.int p2), .null] ∧ Z.Warmed39 U.vm ∧ U.heap = h0) (fun _ _ _ _ _ => True) (fun _ U o U' => ∃ v L, o = .returned v ∧ (Qv p1 h0 n0) v U'.heap L ∧ FrameEnd U o U' L ({ frames := 0, cells := 0, slots := 0, locals := 0 } : Room).cells ({ frames := 0, cells := 0, slots := 0, locals := 0 } : Room).slots) := by
  refine MetFree.of_bodySF (plainFor_of_name pn_0) hisR ?_
  intro p e s m args below meth c s₁ Bd hml0 hP hK
  obtain ⟨rfl, hZ, hh⟩ := hP
  have hx := Bd.exec
  have hby := Bd.bytes
  have hml : c.maxLocals = 3 := hml0
  have hown : s.vm.findClass "jdk/internal/util/Preconditions" = some m.cls := findClass_of_methodNamed Bd.named
  have hnm := (name_of_methodNamed Bd.named Bd.method).1
  have hlk := Bd.notSynchronized
  have X0 : Stand p l e ({ frames := 0, cells := 0, slots := 0, locals := 0 } : Room) s m #[(.int p1), (.int p2), .null] below meth c s₁ [] 0 0 := Stand.of_body Bd
  have e0 : s₁.heap = h0 := by rw [← hh, Bd.state]; rfl
  have N0 := Fr.nil n0
  show own_Ends p e below s FrameEnd (Qv p1 h0 n0) 0 0 (s₁.setTop (entryFrame m #[(.int p1), (.int p2), .null] 3))
  refine own_of (U' := (s₁.setTop (mkF m 0 #[.val (.int p1), .val (.int p2), .val .null] []))) (fun _ k => castTop (ef_pin m p1 p2) k) ?_
  refine own_iloadN X0 hx hby d15_0 rfl ?_
  have hc1_1 : ¬ (p1 < (0 : Int32)) := h1
  refine own_ifNo X0 hx hby d15_1 ((if0 _ _).trans (flt hc1_1).1) ?_
  refine own_iloadN X0 hx hby d15_4 rfl ?_
  refine own_iloadN X0 hx hby d15_5 rfl ?_
  have hc6_2 : p1 < p2 := h2
  refine own_icmpYes X0 hx hby 6 16 d15_6 (tlt hc6_2).1 (by decide) (by decide) ?_
  refine own_iloadN X0 hx hby d15_16 rfl ?_
  exact own_retI X0 hx hlk Bd.returns (hb hby d15_17) (by decide) (by decide) (⟨rfl, N0, e0⟩)
theorem ef_pir (m : MethodId) (x0 : Int32) (x1 : Int32) (x2 : Addr) : entryFrame m #[(.int x0), (.int x1), (.ref x2)] 3 = mkF m 0 #[.val (.int x0), .val (.int x1), .val (.ref x2)] [] := by first | (simp [entryFrame, mkF, argsToLocals, Value.category]; done) | rfl
set_option maxRecDepth 65536 in
set_option maxHeartbeats 40000000 in
theorem rmpir (l : Launch) (Z : State) (a0 : Array Value) (hw : ∀ d ∈ tables_1, d.before a0 Z = true) (ws : List Jvm.Cond) (p1 p2 : Int32) (kF : Addr) (h0 : Heap) (n0 : Nat) (Z0 : n0 ≤ h0.size) (h1 : ¬ (p1 < (0 : Int32))) (h2 : p1 < p2) :
    MetFree l mN_0 (head1 (Jvm.Cond.code mN_0 jdk_41_method_11_code 3 (some .int) :: ws) ({ frames := 0, cells := 0, slots := 0, locals := 0 } : Room)) (fun a U => a = #[(.int p1), (.int p2), (.ref kF)] ∧ Z.Warmed39 U.vm ∧ U.heap = h0) (fun _ _ _ _ _ => True) (fun _ U o U' => ∃ v L, o = .returned v ∧ (Qv p1 h0 n0) v U'.heap L ∧ FrameEnd U o U' L ({ frames := 0, cells := 0, slots := 0, locals := 0 } : Room).cells ({ frames := 0, cells := 0, slots := 0, locals := 0 } : Room).slots) := by
  refine MetFree.of_bodySF (plainFor_of_name pn_0) hisR ?_
  intro p e s m args below meth c s₁ Bd hml0 hP hK
  obtain ⟨rfl, hZ, hh⟩ := hP
  have hx := Bd.exec
  have hby := Bd.bytes
  have hml : c.maxLocals = 3 := hml0
  have hown : s.vm.findClass "jdk/internal/util/Preconditions" = some m.cls := findClass_of_methodNamed Bd.named
  have hnm := (name_of_methodNamed Bd.named Bd.method).1
  have hlk := Bd.notSynchronized
  have X0 : Stand p l e ({ frames := 0, cells := 0, slots := 0, locals := 0 } : Room) s m #[(.int p1), (.int p2), (.ref kF)] below meth c s₁ [] 0 0 := Stand.of_body Bd
  have e0 : s₁.heap = h0 := by rw [← hh, Bd.state]; rfl
  have N0 := Fr.nil n0
  show own_Ends p e below s FrameEnd (Qv p1 h0 n0) 0 0 (s₁.setTop (entryFrame m #[(.int p1), (.int p2), (.ref kF)] 3))
  refine own_of (U' := (s₁.setTop (mkF m 0 #[.val (.int p1), .val (.int p2), .val (.ref kF)] []))) (fun _ k => castTop (ef_pir m p1 p2 kF) k) ?_
  refine own_iloadN X0 hx hby d15_0 rfl ?_
  have hc1_3 : ¬ (p1 < (0 : Int32)) := h1
  refine own_ifNo X0 hx hby d15_1 ((if0 _ _).trans (flt hc1_3).1) ?_
  refine own_iloadN X0 hx hby d15_4 rfl ?_
  refine own_iloadN X0 hx hby d15_5 rfl ?_
  have hc6_4 : p1 < p2 := h2
  refine own_icmpYes X0 hx hby 6 16 d15_6 (tlt hc6_4).1 (by decide) (by decide) ?_
  refine own_iloadN X0 hx hby d15_16 rfl ?_
  exact own_retI X0 hx hlk Bd.returns (hb hby d15_17) (by decide) (by decide) (⟨rfl, N0, e0⟩)
abbrev mN_1 : MethodName := ⟨"java/lang/String", "checkIndex", "(II)V"⟩
theorem pd_0 : parseMethodDescriptor "(IILjava/util/function/BiFunction;)I" = some ⟨[.int, .int, (.object "java/util/function/BiFunction")], some .int⟩ := by decide +kernel
theorem d14_0 : decode jdk_42_method_155_code 0 = .ok (.iload_n 0, 1) := by decide +kernel
theorem d14_1 : decode jdk_42_method_155_code 1 = .ok (.iload_n 1, 1) := by decide +kernel
theorem d14_2 : decode jdk_42_method_155_code 2 = .ok (.getstatic 1053, 3) := by decide +kernel
theorem d14_5 : decode jdk_42_method_155_code 5 = .ok (.invokestatic 1059, 3) := by decide +kernel
theorem d14_8 : decode jdk_42_method_155_code 8 = .ok (.pop, 1) := by decide +kernel
theorem d14_9 : decode jdk_42_method_155_code 9 = .ok (.return_, 1) := by decide +kernel
theorem pn_1 : plainName "java/lang/String" = true := by first | (simp [plainName, overriddenIn]; done) | decide +kernel
theorem ef_ci (m : MethodId) (x0 : Int32) (x1 : Int32) : entryFrame m #[(.int x0), (.int x1)] 2 = mkF m 0 #[.val (.int x0), .val (.int x1)] [] := by first | (simp [entryFrame, mkF, argsToLocals, Value.category]; done) | rfl
set_option maxRecDepth 65536 in
set_option maxHeartbeats 40000000 in
theorem rmci (l : Launch) (Z : State) (a0 : Array Value) (hw : ∀ d ∈ tables_1, d.before a0 Z = true) (ws : List Jvm.Cond) (p1 p2 : Int32) (rS : Value) (h0 : Heap) (n0 : Nat) (Z0 : n0 ≤ h0.size) (h1 : ¬ (p1 < (0 : Int32))) (h2 : p1 < p2) (SF : Sta Z h0 "jdk/internal/util/Preconditions" "SIOOBE_FORMATTER" "Ljava/util/function/BiFunction;" rS) (hrS : rS.isRef = true) :
    MetFree l mN_1 (head1 (Jvm.Cond.code mN_1 jdk_42_method_155_code 2 none :: ws) ({ frames := 1, cells := 0, slots := 0, locals := 14 } : Room)) (fun a U => a = #[(.int p1), (.int p2)] ∧ Z.Warmed39 U.vm ∧ U.heap = h0) (fun _ _ _ _ _ => True) (fun _ U o U' => ∃ v L, o = .returned v ∧ (Qn h0 n0) v U'.heap L ∧ FrameEnd U o U' L ({ frames := 1, cells := 0, slots := 0, locals := 14 } : Room).cells ({ frames := 1, cells := 0, slots := 0, locals := 14 } : Room).slots) := by
  refine MetFree.of_bodySF (plainFor_of_name pn_1) hisR ?_
  intro p e s m args below meth c s₁ Bd hml0 hP hK
  obtain ⟨rfl, hZ, hh⟩ := hP
  have hx := Bd.exec
  have hby := Bd.bytes
  have hml : c.maxLocals = 2 := hml0
  have hown : s.vm.findClass "java/lang/String" = some m.cls := findClass_of_methodNamed Bd.named
  have hnm := (name_of_methodNamed Bd.named Bd.method).1
  have hlk := Bd.notSynchronized
  have X0 : Stand p l e ({ frames := 1, cells := 0, slots := 0, locals := 14 } : Room) s m #[(.int p1), (.int p2)] below meth c s₁ [] 0 0 := Stand.of_body Bd
  have e0 : s₁.heap = h0 := by rw [← hh, Bd.state]; rfl
  have N0 := Fr.nil n0
  show own_Ends p e below s FrameEnd (Qn h0 n0) 0 0 (s₁.setTop (entryFrame m #[(.int p1), (.int p2)] 2))
  refine own_of (U' := (s₁.setTop (mkF m 0 #[.val (.int p1), .val (.int p2)] []))) (fun _ k => castTop (ef_ci m p1 p2) k) ?_
  refine own_iloadN X0 hx hby d14_0 rfl ?_
  refine own_iloadN X0 hx hby d14_1 rfl ?_
  rcases ref_cases hrS with rfl | ⟨kF, rfl⟩
  · skip
    obtain ⟨T5, X5, e5, st5⟩ := getS2 X0 hx hZ hown (host := "") (Or.inl (own_w hw 68 rfl)) Via.refl e0 SF (g := (mkF m 2 #[.val (.int p1), .val (.int p2)] [(.int p2), (.int p1)])) rfl (hb hby d14_2)
    refine own_of (U' := (T5.setTop (mkF m 5 #[.val (.int p1), .val (.int p2)] [.null, (.int p2), (.int p1)]))) (st5) ?_
    obtain ⟨_, _, ⟨T6, L6, k6, n6⟩, -, X6, ⟨Lc6, hQ6, l6, y6, z6⟩, st6⟩ := Jvm.LawKit.callS X5 hx (y := mN_0) hown (mvT hZ (own_w hw 70 rfl)) (mvT hZ (own_w hw 71 rfl)) (mvT hZ (own_w hw 69 rfl)) (mvT hZ (own_w hw 72 rfl)) (by decide) (backOf (W := 0) (rmpin l Z a0 hw [] p1 p2 h0 n0 Z0 h1 h2) hZ (own_w hw 72 rfl) (own_w hw 69 rfl) (by decide) (by decide)) (g := (mkF m 5 #[.val (.int p1), .val (.int p2)] [.null, (.int p2), (.int p1)])) rfl (by rw [hml]; rfl) (argsL := [(.int p1), (.int p2), .null]) (rest := []) (lenOf pd_0 rfl) rfl (by show 2 * 0 + _ ≤ _; exact Nat.le_of_eq rfl) (hb hby d14_5) (fun _ _ => ⟨rfl, e5, (by decide : 0 + 0 ≤ _), (by decide : 0 + 0 ≤ _)⟩)
    dsimp only [Pt.U, Pt.locs, Pt.cells, Pt.slots] at X6 l6 y6 z6 st6 hQ6
    subst l6 y6 z6
    obtain ⟨rfl, Nq6, e6⟩ := hQ6
    have N6 := Fr.app N0 Nq6
    refine own_of (U' := (T6.setTop (mkF m 8 #[.val (.int p1), .val (.int p2)] [(.int p1)]))) (st6) ?_
    refine own_pop X6 hx hby d14_8 rfl ?_
    exact own_ret0 X6 hx hlk Bd.returns (hb hby d14_9) (by decide) (by decide) (⟨rfl, N6, e6⟩)
  · skip
    obtain ⟨T7, X7, e7, st7⟩ := getS2 X0 hx hZ hown (host := "") (Or.inl (own_w hw 68 rfl)) Via.refl e0 SF (g := (mkF m 2 #[.val (.int p1), .val (.int p2)] [(.int p2), (.int p1)])) rfl (hb hby d14_2)
    refine own_of (U' := (T7.setTop (mkF m 5 #[.val (.int p1), .val (.int p2)] [(.ref kF), (.int p2), (.int p1)]))) (st7) ?_
    obtain ⟨_, _, ⟨T8, L8, k8, n8⟩, -, X8, ⟨Lc8, hQ8, l8, y8, z8⟩, st8⟩ := Jvm.LawKit.callS X7 hx (y := mN_0) hown (mvT hZ (own_w hw 70 rfl)) (mvT hZ (own_w hw 71 rfl)) (mvT hZ (own_w hw 69 rfl)) (mvT hZ (own_w hw 72 rfl)) (by decide) (backOf (W := 0) (rmpir l Z a0 hw [] p1 p2 kF h0 n0 Z0 h1 h2) hZ (own_w hw 72 rfl) (own_w hw 69 rfl) (by decide) (by decide)) (g := (mkF m 5 #[.val (.int p1), .val (.int p2)] [(.ref kF), (.int p2), (.int p1)])) rfl (by rw [hml]; rfl) (argsL := [(.int p1), (.int p2), (.ref kF)]) (rest := []) (lenOf pd_0 rfl) rfl (by show 2 * 0 + _ ≤ _; exact Nat.le_of_eq rfl) (hb hby d14_5) (fun _ _ => ⟨rfl, e7, (by decide : 0 + 0 ≤ _), (by decide : 0 + 0 ≤ _)⟩)
    dsimp only [Pt.U, Pt.locs, Pt.cells, Pt.slots] at X8 l8 y8 z8 st8 hQ8
    subst l8 y8 z8
    obtain ⟨rfl, Nq8, e8⟩ := hQ8
    have N8 := Fr.app N0 Nq8
    refine own_of (U' := (T8.setTop (mkF m 8 #[.val (.int p1), .val (.int p2)] [(.int p1)]))) (st8) ?_
    refine own_pop X8 hx hby d14_8 rfl ?_
    exact own_ret0 X8 hx hlk Bd.returns (hb hby d14_9) (by decide) (by decide) (⟨rfl, N8, e8⟩)
abbrev mN_2 : MethodName := ⟨"java/lang/StringUTF16", "length", "([B)I"⟩
theorem d23_0 : decode jdk_52_method_6_code 0 = .ok (.aload_n 0, 1) := by decide +kernel
theorem d23_1 : decode jdk_52_method_6_code 1 = .ok (.arraylength, 1) := by decide +kernel
theorem d23_2 : decode jdk_52_method_6_code 2 = .ok (.iconst 1, 1) := by decide +kernel
theorem d23_3 : decode jdk_52_method_6_code 3 = .ok (.ishr, 1) := by decide +kernel
theorem d23_4 : decode jdk_52_method_6_code 4 = .ok (.ireturn, 1) := by decide +kernel
theorem pn_2 : plainName "java/lang/StringUTF16" = true := by first | (simp [plainName, overriddenIn]; done) | decide +kernel
theorem ef_ul (m : MethodId) (x0 : Addr) : entryFrame m #[(.ref x0)] 1 = mkF m 0 #[.val (.ref x0)] [] := by first | (simp [entryFrame, mkF, argsToLocals, Value.category]; done) | rfl
set_option maxRecDepth 65536 in
set_option maxHeartbeats 40000000 in
theorem rmul (l : Launch) (Z : State) (a0 : Array Value) (hw : ∀ d ∈ tables_1, d.before a0 Z = true) (ws : List Jvm.Cond) (b : Addr) (kb : ClassId) (z : Int32) (cs : List Int32) (h0 : Heap) (n0 : Nat) (Z0 : n0 ≤ h0.size) (Vb : Arv Z h0 b kb .byte z (cs.map Value.int) (.int (0 : Int32))) :
    MetFree l mN_2 (head1 (Jvm.Cond.code mN_2 jdk_52_method_6_code 1 (some .int) :: ws) ({ frames := 0, cells := 0, slots := 0, locals := 0 } : Room)) (fun a U => a = #[(.ref b)] ∧ Z.Warmed39 U.vm ∧ U.heap = h0) (fun _ _ _ _ _ => True) (fun _ U o U' => ∃ v L, o = .returned v ∧ (Qv (z >>> ((1 : Int32) &&& 31)) h0 n0) v U'.heap L ∧ FrameEnd U o U' L ({ frames := 0, cells := 0, slots := 0, locals := 0 } : Room).cells ({ frames := 0, cells := 0, slots := 0, locals := 0 } : Room).slots) := by
  refine MetFree.of_bodySF (plainFor_of_name pn_2) hisR ?_
  intro p e s m args below meth c s₁ Bd hml0 hP hK
  obtain ⟨rfl, hZ, hh⟩ := hP
  have hx := Bd.exec
  have hby := Bd.bytes
  have hml : c.maxLocals = 1 := hml0
  have hown : s.vm.findClass "java/lang/StringUTF16" = some m.cls := findClass_of_methodNamed Bd.named
  have hnm := (name_of_methodNamed Bd.named Bd.method).1
  have hlk := Bd.notSynchronized
  have X0 : Stand p l e ({ frames := 0, cells := 0, slots := 0, locals := 0 } : Room) s m #[(.ref b)] below meth c s₁ [] 0 0 := Stand.of_body Bd
  have e0 : s₁.heap = h0 := by rw [← hh, Bd.state]; rfl
  have N0 := Fr.nil n0
  show own_Ends p e below s FrameEnd (Qv (z >>> ((1 : Int32) &&& 31)) h0 n0) 0 0 (s₁.setTop (entryFrame m #[(.ref b)] 1))
  refine own_of (U' := (s₁.setTop (mkF m 0 #[.val (.ref b)] []))) (fun _ k => castTop (ef_ul m b) k) ?_
  refine own_aloadN X0 hx hby d23_0 rfl rfl ?_
  obtain ⟨cl9, Ar9, qa9, Sa9, Na9, -, -⟩ := id Vb
  have al9 := X0.arraylength hx (by rw [e0]; exact Ar9.1) (State.isArrayOf_alike hZ.alike Ar9.2.1) (g := (mkF m 1 #[.val (.ref b)] [(.ref b)])) rfl rfl (hb hby d23_1)
  rw [len_of Sa9 Na9] at al9
  refine own_of (U' := (s₁.setTop (mkF m 2 #[.val (.ref b)] [(.int z)]))) (al9) ?_
  refine own_iconst X0 hx hby 1 d23_2 rfl ?_
  refine own_ishr X0 hx hby d23_3 ?_
  exact own_retI X0 hx hlk Bd.returns (hb hby d23_4) (by decide) (by decide) (⟨rfl, N0, e0⟩)
abbrev mN_3 : MethodName := ⟨"java/lang/StringUTF16", "checkIndex", "(I[B)V"⟩
theorem pd_1 : parseMethodDescriptor "([B)I" = some ⟨[(.array .byte)], some .int⟩ := by decide +kernel
theorem pd_2 : parseMethodDescriptor "(II)V" = some ⟨[.int, .int], none⟩ := by decide +kernel
theorem d22_0 : decode jdk_52_method_91_code 0 = .ok (.iload_n 0, 1) := by decide +kernel
theorem d22_1 : decode jdk_52_method_91_code 1 = .ok (.aload_n 1, 1) := by decide +kernel
theorem d22_2 : decode jdk_52_method_91_code 2 = .ok (.invokestatic 48, 3) := by decide +kernel
theorem d22_5 : decode jdk_52_method_91_code 5 = .ok (.invokestatic 414, 3) := by decide +kernel
theorem d22_8 : decode jdk_52_method_91_code 8 = .ok (.return_, 1) := by decide +kernel
theorem ef_uk (m : MethodId) (x0 : Int32) (x1 : Addr) : entryFrame m #[(.int x0), (.ref x1)] 2 = mkF m 0 #[.val (.int x0), .val (.ref x1)] [] := by first | (simp [entryFrame, mkF, argsToLocals, Value.category]; done) | rfl
set_option maxRecDepth 65536 in
set_option maxHeartbeats 40000000 in
theorem rmuk (l : Launch) (Z : State) (a0 : Array Value) (hw : ∀ d ∈ tables_1, d.before a0 Z = true) (ws : List Jvm.Cond) (p1 : Int32) (b : Addr) (kb : ClassId) (z : Int32) (cs : List Int32) (rS : Value) (h0 : Heap) (n0 : Nat) (Z0 : n0 ≤ h0.size) (Vb : Arv Z h0 b kb .byte z (cs.map Value.int) (.int (0 : Int32))) (h1 : ¬ (p1 < (0 : Int32))) (h2 : p1 < (z >>> ((1 : Int32) &&& 31))) (SF : Sta Z h0 "jdk/internal/util/Preconditions" "SIOOBE_FORMATTER" "Ljava/util/function/BiFunction;" rS) (hrS : rS.isRef = true) :
    MetFree l mN_3 (head1 (Jvm.Cond.code mN_3 jdk_52_method_91_code 2 none :: ws) ({ frames := 2, cells := 0, slots := 0, locals := 27 } : Room)) (fun a U => a = #[(.int p1), (.ref b)] ∧ Z.Warmed39 U.vm ∧ U.heap = h0) (fun _ _ _ _ _ => True) (fun _ U o U' => ∃ v L, o = .returned v ∧ (Qn h0 n0) v U'.heap L ∧ FrameEnd U o U' L ({ frames := 2, cells := 0, slots := 0, locals := 27 } : Room).cells ({ frames := 2, cells := 0, slots := 0, locals := 27 } : Room).slots) := by
  refine MetFree.of_bodySF (plainFor_of_name pn_2) hisR ?_
  intro p e s m args below meth c s₁ Bd hml0 hP hK
  obtain ⟨rfl, hZ, hh⟩ := hP
  have hx := Bd.exec
  have hby := Bd.bytes
  have hml : c.maxLocals = 2 := hml0
  have hown : s.vm.findClass "java/lang/StringUTF16" = some m.cls := findClass_of_methodNamed Bd.named
  have hnm := (name_of_methodNamed Bd.named Bd.method).1
  have hlk := Bd.notSynchronized
  have X0 : Stand p l e ({ frames := 2, cells := 0, slots := 0, locals := 27 } : Room) s m #[(.int p1), (.ref b)] below meth c s₁ [] 0 0 := Stand.of_body Bd
  have e0 : s₁.heap = h0 := by rw [← hh, Bd.state]; rfl
  have N0 := Fr.nil n0
  show own_Ends p e below s FrameEnd (Qn h0 n0) 0 0 (s₁.setTop (entryFrame m #[(.int p1), (.ref b)] 2))
  refine own_of (U' := (s₁.setTop (mkF m 0 #[.val (.int p1), .val (.ref b)] []))) (fun _ k => castTop (ef_uk m p1 b) k) ?_
  refine own_iloadN X0 hx hby d22_0 rfl ?_
  refine own_aloadN X0 hx hby d22_1 rfl rfl ?_
  obtain ⟨_, _, ⟨T10, L10, k10, n10⟩, -, X10, ⟨Lc10, hQ10, l10, y10, z10⟩, st10⟩ := Jvm.LawKit.callS X0 hx (y := mN_2) hown (mvT hZ (own_w hw 98 rfl)) (mvT hZ (own_w hw 99 rfl)) (mvT hZ (own_w hw 39 rfl)) (mvT hZ (own_w hw 100 rfl)) (by decide) (backOf (W := 1) (rmul l Z a0 hw [] b kb z cs h0 n0 Z0 Vb) hZ (own_w hw 100 rfl) (own_w hw 39 rfl) (by decide) (by decide)) (g := (mkF m 2 #[.val (.int p1), .val (.ref b)] [(.ref b), (.int p1)])) rfl (by rw [hml]; rfl) (argsL := [(.ref b)]) (rest := [(.int p1)]) (lenOf pd_1 rfl) rfl (by show 2 * 0 + _ ≤ _; exact Nat.le_of_eq rfl) (hb hby d22_2) (fun _ _ => ⟨rfl, e0, (by decide : 0 + 0 ≤ _), (by decide : 0 + 0 ≤ _)⟩)
  dsimp only [Pt.U, Pt.locs, Pt.cells, Pt.slots] at X10 l10 y10 z10 st10 hQ10
  subst l10 y10 z10
  obtain ⟨rfl, Nq10, e10⟩ := hQ10
  have N10 := Fr.app N0 Nq10
  refine own_of (U' := (T10.setTop (mkF m 5 #[.val (.int p1), .val (.ref b)] [(.int (z >>> ((1 : Int32) &&& 31))), (.int p1)]))) (st10) ?_
  obtain ⟨_, _, ⟨T11, L11, k11, n11⟩, -, X11, ⟨Lc11, hQ11, l11, y11, z11⟩, st11⟩ := Jvm.LawKit.callS X10 hx (y := mN_1) hown (mvT hZ (own_w hw 101 rfl)) (mvT hZ (own_w hw 66 rfl)) (mvT hZ (own_w hw 2 rfl)) (mvT hZ (own_w hw 67 rfl)) (by decide) (backOf (W := 0) (rmci l Z a0 hw [] p1 (z >>> ((1 : Int32) &&& 31)) rS h0 n0 Z0 h1 h2 SF hrS) hZ (own_w hw 67 rfl) (own_w hw 2 rfl) (by decide) (by decide)) (g := (mkF m 5 #[.val (.int p1), .val (.ref b)] [(.int (z >>> ((1 : Int32) &&& 31))), (.int p1)])) rfl (by rw [hml]; rfl) (argsL := [(.int p1), (.int (z >>> ((1 : Int32) &&& 31)))]) (rest := []) (lenOf pd_2 rfl) rfl (by show 2 * 0 + _ ≤ _; exact Nat.le_of_eq rfl) (hb hby d22_5) (fun _ _ => ⟨rfl, e10, (by decide : 0 + 0 ≤ _), (by decide : 0 + 0 ≤ _)⟩)
  dsimp only [Pt.U, Pt.locs, Pt.cells, Pt.slots] at X11 l11 y11 z11 st11 hQ11
  subst l11 y11 z11
  obtain ⟨rfl, Nq11, e11⟩ := hQ11
  have N11 := Fr.app N10 Nq11
  refine own_of (U' := (T11.setTop (mkF m 8 #[.val (.int p1), .val (.ref b)] []))) (st11) ?_
  exact own_ret0 X11 hx hlk Bd.returns (hb hby d22_8) (by decide) (by decide) (⟨rfl, N11, e11⟩)
abbrev mN_4 : MethodName := ⟨"java/lang/StringUTF16", "getChar", "([BI)C"⟩
theorem d20_0 : decode jdk_52_method_5_code 0 = .ok (.getstatic 44, 3) := by decide +kernel
theorem d20_3 : decode jdk_52_method_5_code 3 = .ok (.ifCond .ne 25, 3) := by decide +kernel
theorem d20_28 : decode jdk_52_method_5_code 28 = .ok (.iload_n 1, 1) := by decide +kernel
theorem d20_29 : decode jdk_52_method_5_code 29 = .ok (.iconst 1, 1) := by decide +kernel
theorem d20_30 : decode jdk_52_method_5_code 30 = .ok (.ishl, 1) := by decide +kernel
theorem d20_31 : decode jdk_52_method_5_code 31 = .ok (.istore_n 1, 1) := by decide +kernel
theorem d20_32 : decode jdk_52_method_5_code 32 = .ok (.aload_n 0, 1) := by decide +kernel
theorem d20_33 : decode jdk_52_method_5_code 33 = .ok (.iload_n 1, 1) := by decide +kernel
theorem d20_34 : decode jdk_52_method_5_code 34 = .ok (.iinc 1 1, 3) := by decide +kernel
theorem d20_37 : decode jdk_52_method_5_code 37 = .ok (.baload, 1) := by decide +kernel
theorem d20_38 : decode jdk_52_method_5_code 38 = .ok (.sipush 255, 3) := by decide +kernel
theorem d20_41 : decode jdk_52_method_5_code 41 = .ok (.iand, 1) := by decide +kernel
theorem d20_42 : decode jdk_52_method_5_code 42 = .ok (.getstatic 59, 3) := by decide +kernel
theorem d20_45 : decode jdk_52_method_5_code 45 = .ok (.ishl, 1) := by decide +kernel
theorem d20_46 : decode jdk_52_method_5_code 46 = .ok (.aload_n 0, 1) := by decide +kernel
theorem d20_47 : decode jdk_52_method_5_code 47 = .ok (.iload_n 1, 1) := by decide +kernel
theorem d20_48 : decode jdk_52_method_5_code 48 = .ok (.baload, 1) := by decide +kernel
theorem d20_49 : decode jdk_52_method_5_code 49 = .ok (.sipush 255, 3) := by decide +kernel
theorem d20_52 : decode jdk_52_method_5_code 52 = .ok (.iand, 1) := by decide +kernel
theorem d20_53 : decode jdk_52_method_5_code 53 = .ok (.getstatic 63, 3) := by decide +kernel
theorem d20_56 : decode jdk_52_method_5_code 56 = .ok (.ishl, 1) := by decide +kernel
theorem d20_57 : decode jdk_52_method_5_code 57 = .ok (.ior, 1) := by decide +kernel
theorem d20_58 : decode jdk_52_method_5_code 58 = .ok (.i2c, 1) := by decide +kernel
theorem d20_59 : decode jdk_52_method_5_code 59 = .ok (.ireturn, 1) := by decide +kernel
theorem ef_ug (m : MethodId) (x0 : Addr) (x1 : Int32) : entryFrame m #[(.ref x0), (.int x1)] 2 = mkF m 0 #[.val (.ref x0), .val (.int x1)] [] := by first | (simp [entryFrame, mkF, argsToLocals, Value.category]; done) | rfl
set_option maxRecDepth 65536 in
set_option maxHeartbeats 40000000 in
theorem rmug (l : Launch) (Z : State) (a0 : Array Value) (hw : ∀ d ∈ tables_1, d.before a0 Z = true) (ws : List Jvm.Cond) (b : Addr) (p2 : Int32) (kb : ClassId) (z : Int32) (cs : List Int32) (h0 : Heap) (n0 : Nat) (Z0 : n0 ≤ h0.size) (Vb : Arv Z h0 b kb .byte z (cs.map Value.int) (.int (0 : Int32))) (i1 : ¬ ((p2 <<< ((1 : Int32) &&& 31)) < (0 : Int32))) (i2 : (p2 <<< ((1 : Int32) &&& 31)) < z) (i3 : ¬ (((p2 <<< ((1 : Int32) &&& 31)) + (1 : Int32)) < (0 : Int32))) (i4 : ((p2 <<< ((1 : Int32) &&& 31)) + (1 : Int32)) < z) (SA : Sta Z h0 "java/lang/StringUTF16" "$assertionsDisabled" "Z" (.int (1 : Int32))) (SHI : Sta Z h0 "java/lang/StringUTF16" "HI_BYTE_SHIFT" "I" (.int (0 : Int32))) (SLO : Sta Z h0 "java/lang/StringUTF16" "LO_BYTE_SHIFT" "I" (.int (8 : Int32))) :
    MetFree l mN_4 (head1 (Jvm.Cond.code mN_4 jdk_52_method_5_code 2 (some .char) :: ws) ({ frames := 0, cells := 0, slots := 0, locals := 0 } : Room)) (fun a U => a = #[(.ref b), (.int p2)] ∧ Z.Warmed39 U.vm ∧ U.heap = h0) (fun _ _ _ _ _ => True) (fun _ U o U' => ∃ v L, o = .returned v ∧ (Qv (own_chu cs p2) h0 n0) v U'.heap L ∧ FrameEnd U o U' L ({ frames := 0, cells := 0, slots := 0, locals := 0 } : Room).cells ({ frames := 0, cells := 0, slots := 0, locals := 0 } : Room).slots) := by
  refine MetFree.of_bodySF (plainFor_of_name pn_2) hisR ?_
  intro p e s m args below meth c s₁ Bd hml0 hP hK
  obtain ⟨rfl, hZ, hh⟩ := hP
  have hx := Bd.exec
  have hby := Bd.bytes
  have hml : c.maxLocals = 2 := hml0
  have hown : s.vm.findClass "java/lang/StringUTF16" = some m.cls := findClass_of_methodNamed Bd.named
  have hnm := (name_of_methodNamed Bd.named Bd.method).1
  have hlk := Bd.notSynchronized
  have X0 : Stand p l e ({ frames := 0, cells := 0, slots := 0, locals := 0 } : Room) s m #[(.ref b), (.int p2)] below meth c s₁ [] 0 0 := Stand.of_body Bd
  have e0 : s₁.heap = h0 := by rw [← hh, Bd.state]; rfl
  have N0 := Fr.nil n0
  show own_Ends p e below s FrameEnd (Qv (own_chu cs p2) h0 n0) 0 0 (s₁.setTop (entryFrame m #[(.ref b), (.int p2)] 2))
  refine own_of (U' := (s₁.setTop (mkF m 0 #[.val (.ref b), .val (.int p2)] []))) (fun _ k => castTop (ef_ug m b p2) k) ?_
  obtain ⟨T12, X12, e12, st12⟩ := getS2 X0 hx hZ hown (host := "") (Or.inl (own_w hw 86 rfl)) Via.refl e0 SA (g := (mkF m 0 #[.val (.ref b), .val (.int p2)] [])) rfl (hb hby d20_0)
  refine own_of (U' := (T12.setTop (mkF m 3 #[.val (.ref b), .val (.int p2)] [(.int (1 : Int32))]))) (st12) ?_
  have hc3_13 : ¬ ((1 : Int32) = (0 : Int32)) := by decide
  refine own_ifYes X12 hx hby 3 28 d20_3 ((if0 _ _).trans (feq hc3_13).2) (by decide) (by decide) ?_
  refine own_iloadN X12 hx hby d20_28 rfl ?_
  refine own_iconst X12 hx hby 1 d20_29 rfl ?_
  refine own_ishl X12 hx hby d20_30 ?_
  refine own_istoreN X12 hx hby d20_31 (l' := #[.val (.ref b), .val (.int (p2 <<< ((1 : Int32) &&& 31)))]) rfl ?_
  refine own_aloadN X12 hx hby d20_32 rfl rfl ?_
  refine own_iloadN X12 hx hby d20_33 rfl ?_
  refine own_iinc X12 hx hby d20_34 rfl (l' := #[.val (.ref b), .val (.int ((p2 <<< ((1 : Int32) &&& 31)) + (1 : Int32)))]) rfl ?_
  obtain ⟨cl14, Ar14, qa14, Sa14, Na14, Ha14, Ga14⟩ := id Vb
  have hin14 : ¬ ((p2 <<< ((1 : Int32) &&& 31)) < 0 ∨ cl14.slots.size ≤ ((p2 <<< ((1 : Int32) &&& 31))).toNatClampNeg) := inb_of Sa14 ⟨i1, i2⟩
  have hat14 : cl14.slots[((p2 <<< ((1 : Int32) &&& 31))).toNatClampNeg]? = some (.int (own_at cs (p2 <<< ((1 : Int32) &&& 31)))) := Has.at Ha14 hin14 (own_at_eq cs _)
  refine own_of (U' := (T12.setTop (mkF m 38 #[.val (.ref b), .val (.int ((p2 <<< ((1 : Int32) &&& 31)) + (1 : Int32)))] [(.int (own_at cs (p2 <<< ((1 : Int32) &&& 31))))]))) (X12.baloadBytes hx (j := (p2 <<< ((1 : Int32) &&& 31))) (v := (.int (own_at cs (p2 <<< ((1 : Int32) &&& 31))))) (by rw [e12]; exact Ar14.1) (State.isArrayOf_alike hZ.alike Ar14.2.1) Ar14.2.2 hin14 hat14 (g := (mkF m 37 #[.val (.ref b), .val (.int ((p2 <<< ((1 : Int32) &&& 31)) + (1 : Int32)))] [(.int (p2 <<< ((1 : Int32) &&& 31))), (.ref b)])) rfl rfl (hb hby d20_37)) ?_
  refine own_sipush X12 hx hby 255 d20_38 rfl ?_
  refine own_iand X12 hx hby d20_41 ?_
  obtain ⟨T15, X15, e15, st15⟩ := getS2 X12 hx hZ hown (host := "") (Or.inl (own_w hw 87 rfl)) Via.refl e12 SHI (g := (mkF m 42 #[.val (.ref b), .val (.int ((p2 <<< ((1 : Int32) &&& 31)) + (1 : Int32)))] [(.int ((own_at cs (p2 <<< ((1 : Int32) &&& 31))) &&& (255 : Int32)))])) rfl (hb hby d20_42)
  refine own_of (U' := (T15.setTop (mkF m 45 #[.val (.ref b), .val (.int ((p2 <<< ((1 : Int32) &&& 31)) + (1 : Int32)))] [(.int (0 : Int32)), (.int ((own_at cs (p2 <<< ((1 : Int32) &&& 31))) &&& (255 : Int32)))]))) (st15) ?_
  refine own_ishl X15 hx hby d20_45 ?_
  refine own_aloadN X15 hx hby d20_46 rfl rfl ?_
  refine own_iloadN X15 hx hby d20_47 rfl ?_
  obtain ⟨cl16, Ar16, qa16, Sa16, Na16, Ha16, Ga16⟩ := id Vb
  have hin16 : ¬ (((p2 <<< ((1 : Int32) &&& 31)) + (1 : Int32)) < 0 ∨ cl16.slots.size ≤ (((p2 <<< ((1 : Int32) &&& 31)) + (1 : Int32))).toNatClampNeg) := inb_of Sa16 ⟨i3, i4⟩
  have hat16 : cl16.slots[(((p2 <<< ((1 : Int32) &&& 31)) + (1 : Int32))).toNatClampNeg]? = some (.int (own_at cs ((p2 <<< ((1 : Int32) &&& 31)) + (1 : Int32)))) := Has.at Ha16 hin16 (own_at_eq cs _)
  refine own_of (U' := (T15.setTop (mkF m 49 #[.val (.ref b), .val (.int ((p2 <<< ((1 : Int32) &&& 31)) + (1 : Int32)))] [(.int (own_at cs ((p2 <<< ((1 : Int32) &&& 31)) + (1 : Int32)))), (.int (((own_at cs (p2 <<< ((1 : Int32) &&& 31))) &&& (255 : Int32)) <<< ((0 : Int32) &&& 31)))]))) (X15.baloadBytes hx (j := ((p2 <<< ((1 : Int32) &&& 31)) + (1 : Int32))) (v := (.int (own_at cs ((p2 <<< ((1 : Int32) &&& 31)) + (1 : Int32))))) (by rw [e15]; exact Ar16.1) (State.isArrayOf_alike hZ.alike Ar16.2.1) Ar16.2.2 hin16 hat16 (g := (mkF m 48 #[.val (.ref b), .val (.int ((p2 <<< ((1 : Int32) &&& 31)) + (1 : Int32)))] [(.int ((p2 <<< ((1 : Int32) &&& 31)) + (1 : Int32))), (.ref b), (.int (((own_at cs (p2 <<< ((1 : Int32) &&& 31))) &&& (255 : Int32)) <<< ((0 : Int32) &&& 31)))])) rfl rfl (hb hby d20_48)) ?_
  refine own_sipush X15 hx hby 255 d20_49 rfl ?_
  refine own_iand X15 hx hby d20_52 ?_
  obtain ⟨T17, X17, e17, st17⟩ := getS2 X15 hx hZ hown (host := "") (Or.inl (own_w hw 88 rfl)) Via.refl e15 SLO (g := (mkF m 53 #[.val (.ref b), .val (.int ((p2 <<< ((1 : Int32) &&& 31)) + (1 : Int32)))] [(.int ((own_at cs ((p2 <<< ((1 : Int32) &&& 31)) + (1 : Int32))) &&& (255 : Int32))), (.int (((own_at cs (p2 <<< ((1 : Int32) &&& 31))) &&& (255 : Int32)) <<< ((0 : Int32) &&& 31)))])) rfl (hb hby d20_53)
  refine own_of (U' := (T17.setTop (mkF m 56 #[.val (.ref b), .val (.int ((p2 <<< ((1 : Int32) &&& 31)) + (1 : Int32)))] [(.int (8 : Int32)), (.int ((own_at cs ((p2 <<< ((1 : Int32) &&& 31)) + (1 : Int32))) &&& (255 : Int32))), (.int (((own_at cs (p2 <<< ((1 : Int32) &&& 31))) &&& (255 : Int32)) <<< ((0 : Int32) &&& 31)))]))) (st17) ?_
  refine own_ishl X17 hx hby d20_56 ?_
  refine own_ior X17 hx hby d20_57 ?_
  refine own_i2c X17 hx hby d20_58 ?_
  exact own_retN X17 hx hlk (t := .char) Bd.returns (by simp) (hb hby d20_59) (by decide) (by decide) (⟨rfl, N0, e17⟩)
abbrev mN_5 : MethodName := ⟨"java/lang/StringUTF16", "charAt", "([BI)C"⟩
theorem pd_3 : parseMethodDescriptor "(I[B)V" = some ⟨[.int, (.array .byte)], none⟩ := by decide +kernel
theorem pd_4 : parseMethodDescriptor "([BI)C" = some ⟨[(.array .byte), .int], some .char⟩ := by decide +kernel
theorem d21_0 : decode jdk_52_method_83_code 0 = .ok (.iload_n 1, 1) := by decide +kernel
theorem d21_1 : decode jdk_52_method_83_code 1 = .ok (.aload_n 0, 1) := by decide +kernel
theorem d21_2 : decode jdk_52_method_83_code 2 = .ok (.invokestatic 67, 3) := by decide +kernel
theorem d21_5 : decode jdk_52_method_83_code 5 = .ok (.aload_n 0, 1) := by decide +kernel
theorem d21_6 : decode jdk_52_method_83_code 6 = .ok (.iload_n 1, 1) := by decide +kernel
theorem d21_7 : decode jdk_52_method_83_code 7 = .ok (.invokestatic 71, 3) := by decide +kernel
theorem d21_10 : decode jdk_52_method_83_code 10 = .ok (.ireturn, 1) := by decide +kernel
theorem ef_uc (m : MethodId) (x0 : Addr) (x1 : Int32) : entryFrame m #[(.ref x0), (.int x1)] 2 = mkF m 0 #[.val (.ref x0), .val (.int x1)] [] := by first | (simp [entryFrame, mkF, argsToLocals, Value.category]; done) | rfl
set_option maxRecDepth 65536 in
set_option maxHeartbeats 40000000 in
theorem rmuc (l : Launch) (Z : State) (a0 : Array Value) (hw : ∀ d ∈ tables_1, d.before a0 Z = true) (ws : List Jvm.Cond) (b : Addr) (p2 : Int32) (kb : ClassId) (z : Int32) (cs : List Int32) (rS : Value) (h0 : Heap) (n0 : Nat) (Z0 : n0 ≤ h0.size) (Vb : Arv Z h0 b kb .byte z (cs.map Value.int) (.int (0 : Int32))) (h1 : ¬ (p2 < (0 : Int32))) (h2 : p2 < (z >>> ((1 : Int32) &&& 31))) (i1 : ¬ ((p2 <<< ((1 : Int32) &&& 31)) < (0 : Int32))) (i2 : (p2 <<< ((1 : Int32) &&& 31)) < z) (i3 : ¬ (((p2 <<< ((1 : Int32) &&& 31)) + (1 : Int32)) < (0 : Int32))) (i4 : ((p2 <<< ((1 : Int32) &&& 31)) + (1 : Int32)) < z) (SA : Sta Z h0 "java/lang/StringUTF16" "$assertionsDisabled" "Z" (.int (1 : Int32))) (SHI : Sta Z h0 "java/lang/StringUTF16" "HI_BYTE_SHIFT" "I" (.int (0 : Int32))) (SLO : Sta Z h0 "java/lang/StringUTF16" "LO_BYTE_SHIFT" "I" (.int (8 : Int32))) (SF : Sta Z h0 "jdk/internal/util/Preconditions" "SIOOBE_FORMATTER" "Ljava/util/function/BiFunction;" rS) (hrS : rS.isRef = true) :
    MetFree l mN_5 (head1 (Jvm.Cond.code mN_5 jdk_52_method_83_code 2 (some .char) :: ws) ({ frames := 3, cells := 0, slots := 0, locals := 40 } : Room)) (fun a U => a = #[(.ref b), (.int p2)] ∧ Z.Warmed39 U.vm ∧ U.heap = h0) (fun _ _ _ _ _ => True) (fun _ U o U' => ∃ v L, o = .returned v ∧ (Qv (own_chu cs p2) h0 n0) v U'.heap L ∧ FrameEnd U o U' L ({ frames := 3, cells := 0, slots := 0, locals := 40 } : Room).cells ({ frames := 3, cells := 0, slots := 0, locals := 40 } : Room).slots) := by
  refine MetFree.of_bodySF (plainFor_of_name pn_2) hisR ?_
  intro p e s m args below meth c s₁ Bd hml0 hP hK
  obtain ⟨rfl, hZ, hh⟩ := hP
  have hx := Bd.exec
  have hby := Bd.bytes
  have hml : c.maxLocals = 2 := hml0
  have hown : s.vm.findClass "java/lang/StringUTF16" = some m.cls := findClass_of_methodNamed Bd.named
  have hnm := (name_of_methodNamed Bd.named Bd.method).1
  have hlk := Bd.notSynchronized
  have X0 : Stand p l e ({ frames := 3, cells := 0, slots := 0, locals := 40 } : Room) s m #[(.ref b), (.int p2)] below meth c s₁ [] 0 0 := Stand.of_body Bd
  have e0 : s₁.heap = h0 := by rw [← hh, Bd.state]; rfl
  have N0 := Fr.nil n0
  show own_Ends p e below s FrameEnd (Qv (own_chu cs p2) h0 n0) 0 0 (s₁.setTop (entryFrame m #[(.ref b), (.int p2)] 2))
  refine own_of (U' := (s₁.setTop (mkF m 0 #[.val (.ref b), .val (.int p2)] []))) (fun _ k => castTop (ef_uc m b p2) k) ?_
  refine own_iloadN X0 hx hby d21_0 rfl ?_
  refine own_aloadN X0 hx hby d21_1 rfl rfl ?_
  obtain ⟨_, _, ⟨T18, L18, k18, n18⟩, -, X18, ⟨Lc18, hQ18, l18, y18, z18⟩, st18⟩ := Jvm.LawKit.callS X0 hx (y := mN_3) hown (mvT hZ (own_w hw 95 rfl)) (mvT hZ (own_w hw 96 rfl)) (mvT hZ (own_w hw 39 rfl)) (mvT hZ (own_w hw 97 rfl)) (by decide) (backOf (W := 0) (rmuk l Z a0 hw [] p2 b kb z cs rS h0 n0 Z0 Vb h1 h2 SF hrS) hZ (own_w hw 97 rfl) (own_w hw 39 rfl) (by decide) (by decide)) (g := (mkF m 2 #[.val (.ref b), .val (.int p2)] [(.ref b), (.int p2)])) rfl (by rw [hml]; rfl) (argsL := [(.int p2), (.ref b)]) (rest := []) (lenOf pd_3 rfl) rfl (by show 2 * 0 + _ ≤ _; exact Nat.le_of_eq rfl) (hb hby d21_2) (fun _ _ => ⟨rfl, e0, (by decide : 0 + 0 ≤ _), (by decide : 0 + 0 ≤ _)⟩)
  dsimp only [Pt.U, Pt.locs, Pt.cells, Pt.slots] at X18 l18 y18 z18 st18 hQ18
  subst l18 y18 z18
  obtain ⟨rfl, Nq18, e18⟩ := hQ18
  have N18 := Fr.app N0 Nq18
  refine own_of (U' := (T18.setTop (mkF m 5 #[.val (.ref b), .val (.int p2)] []))) (st18) ?_
  refine own_aloadN X18 hx hby d21_5 rfl rfl ?_
  refine own_iloadN X18 hx hby d21_6 rfl ?_
  obtain ⟨_, _, ⟨T19, L19, k19, n19⟩, -, X19, ⟨Lc19, hQ19, l19, y19, z19⟩, st19⟩ := Jvm.LawKit.callS X18 hx (y := mN_4) hown (mvT hZ (own_w hw 89 rfl)) (mvT hZ (own_w hw 90 rfl)) (mvT hZ (own_w hw 39 rfl)) (mvT hZ (own_w hw 91 rfl)) (by decide) (backOf (W := 0) (rmug l Z a0 hw [] b p2 kb z cs h0 n0 Z0 Vb i1 i2 i3 i4 SA SHI SLO) hZ (own_w hw 91 rfl) (own_w hw 39 rfl) (by decide) (by decide)) (g := (mkF m 7 #[.val (.ref b), .val (.int p2)] [(.int p2), (.ref b)])) rfl (by rw [hml]; rfl) (argsL := [(.ref b), (.int p2)]) (rest := []) (lenOf pd_4 rfl) rfl (by show 2 * 0 + _ ≤ _; exact Nat.le_of_eq rfl) (hb hby d21_7) (fun _ _ => ⟨rfl, e18, (by decide : 0 + 0 ≤ _), (by decide : 0 + 0 ≤ _)⟩)
  dsimp only [Pt.U, Pt.locs, Pt.cells, Pt.slots] at X19 l19 y19 z19 st19 hQ19
  subst l19 y19 z19
  obtain ⟨rfl, Nq19, e19⟩ := hQ19
  have N19 := Fr.app N18 Nq19
  refine own_of (U' := (T19.setTop (mkF m 10 #[.val (.ref b), .val (.int p2)] [(.int (own_chu cs p2))]))) (st19) ?_
  exact own_retN X19 hx hlk (t := .char) Bd.returns (by simp) (hb hby d21_10) (by decide) (by decide) (⟨congrArg (fun z => some (Value.int z)) (own_nar2 _), N19, e19⟩)
abbrev mN_6 : MethodName := ⟨"java/lang/String", "isLatin1", "()Z"⟩
theorem d12_0 : decode jdk_42_method_154_code 0 = .ok (.getstatic 38, 3) := by decide +kernel
theorem d12_3 : decode jdk_42_method_154_code 3 = .ok (.ifCond .eq 14, 3) := by decide +kernel
theorem d12_6 : decode jdk_42_method_154_code 6 = .ok (.aload_n 0, 1) := by decide +kernel
theorem d12_7 : decode jdk_42_method_154_code 7 = .ok (.getfield 15, 3) := by decide +kernel
theorem d12_10 : decode jdk_42_method_154_code 10 = .ok (.ifCond .ne 7, 3) := by decide +kernel
theorem d12_17 : decode jdk_42_method_154_code 17 = .ok (.iconst 0, 1) := by decide +kernel
theorem d12_18 : decode jdk_42_method_154_code 18 = .ok (.ireturn, 1) := by decide +kernel
theorem ef_ilU (m : MethodId) (x0 : Addr) : entryFrame m #[(.ref x0)] 1 = mkF m 0 #[.val (.ref x0)] [] := by first | (simp [entryFrame, mkF, argsToLocals, Value.category]; done) | rfl
set_option maxRecDepth 65536 in
set_option maxHeartbeats 40000000 in
theorem rmilU (l : Launch) (Z : State) (a0 : Array Value) (hw : ∀ d ∈ tables_1, d.before a0 Z = true) (ws : List Jvm.Cond) (a1 : Addr) (g1 : Int32) (h0 : Heap) (n0 : Nat) (Z0 : n0 ≤ h0.size) (Fc : Fld Z h0 a1 "java/lang/String" "coder" "B" (.int (1 : Int32))) (SC : Sta Z h0 "java/lang/String" "COMPACT_STRINGS" "Z" (.int g1)) (hg1 : ¬ (g1 = (0 : Int32))) :
    MetFree l mN_6 (head1 (Jvm.Cond.code mN_6 jdk_42_method_154_code 1 (some .boolean) :: ws) ({ frames := 0, cells := 0, slots := 0, locals := 0 } : Room)) (fun a U => a = #[(.ref a1)] ∧ Z.Warmed39 U.vm ∧ U.heap = h0) (fun _ _ _ _ _ => True) (fun _ U o U' => ∃ v L, o = .returned v ∧ (Qv 0 h0 n0) v U'.heap L ∧ FrameEnd U o U' L ({ frames := 0, cells := 0, slots := 0, locals := 0 } : Room).cells ({ frames := 0, cells := 0, slots := 0, locals := 0 } : Room).slots) := by
  refine MetFree.of_bodySF (plainFor_of_name pn_1) hisR ?_
  intro p e s m args below meth c s₁ Bd hml0 hP hK
  obtain ⟨rfl, hZ, hh⟩ := hP
  have hx := Bd.exec
  have hby := Bd.bytes
  have hml : c.maxLocals = 1 := hml0
  have hown : s.vm.findClass "java/lang/String" = some m.cls := findClass_of_methodNamed Bd.named
  have hnm := (name_of_methodNamed Bd.named Bd.method).1
  have hlk := Bd.notSynchronized
  have X0 : Stand p l e ({ frames := 0, cells := 0, slots := 0, locals := 0 } : Room) s m #[(.ref a1)] below meth c s₁ [] 0 0 := Stand.of_body Bd
  have e0 : s₁.heap = h0 := by rw [← hh, Bd.state]; rfl
  have N0 := Fr.nil n0
  show own_Ends p e below s FrameEnd (Qv 0 h0 n0) 0 0 (s₁.setTop (entryFrame m #[(.ref a1)] 1))
  refine own_of (U' := (s₁.setTop (mkF m 0 #[.val (.ref a1)] []))) (fun _ k => castTop (ef_ilU m a1) k) ?_
  obtain ⟨T20, X20, e20, st20⟩ := getS2 X0 hx hZ hown (host := "") (Or.inl (own_w hw 36 rfl)) Via.refl e0 SC (g := (mkF m 0 #[.val (.ref a1)] [])) rfl (hb hby d12_0)
  refine own_of (U' := (T20.setTop (mkF m 3 #[.val (.ref a1)] [(.int g1)]))) (st20) ?_
  have hc3_21 : ¬ (g1 = (0 : Int32)) := hg1
  refine own_ifNo X20 hx hby d12_3 ((if0 _ _).trans (feq hc3_21).1) ?_
  refine own_aloadN X20 hx hby d12_6 rfl rfl ?_
  obtain ⟨T22, X22, e22, st22⟩ := getF X20 hx hZ hown (host := "") (Or.inl (own_w hw 21 rfl)) Via.refl e20 Fc (g := (mkF m 7 #[.val (.ref a1)] [(.ref a1)])) rfl rfl (hb hby d12_7)
  refine own_of (U' := (T22.setTop (mkF m 10 #[.val (.ref a1)] [(.int (1 : Int32))]))) (st22) ?_
  have hc10_23 : ¬ ((1 : Int32) = (0 : Int32)) := by decide
  refine own_ifYes X22 hx hby 10 17 d12_10 ((if0 _ _).trans (feq hc10_23).2) (by decide) (by decide) ?_
  refine own_iconst X22 hx hby 0 d12_17 rfl ?_
  exact own_retN X22 hx hlk (t := .boolean) Bd.returns (by simp) (hb hby d12_18) (by decide) (by decide) (⟨rfl, N0, e22⟩)
abbrev mN_7 : MethodName := ⟨"java/lang/String", "charAt", "(I)C"⟩
theorem pd_5 : parseMethodDescriptor "()Z" = some ⟨[], some .boolean⟩ := by decide +kernel
theorem d11_0 : decode jdk_42_method_56_code 0 = .ok (.aload_n 0, 1) := by decide +kernel
theorem d11_1 : decode jdk_42_method_56_code 1 = .ok (.invokevirtual 492, 3) := by decide +kernel
theorem d11_4 : decode jdk_42_method_56_code 4 = .ok (.ifCond .eq 12, 3) := by decide +kernel
theorem d11_16 : decode jdk_42_method_56_code 16 = .ok (.aload_n 0, 1) := by decide +kernel
theorem d11_17 : decode jdk_42_method_56_code 17 = .ok (.getfield 9, 3) := by decide +kernel
theorem d11_20 : decode jdk_42_method_56_code 20 = .ok (.iload_n 1, 1) := by decide +kernel
theorem d11_21 : decode jdk_42_method_56_code 21 = .ok (.invokestatic 498, 3) := by decide +kernel
theorem d11_24 : decode jdk_42_method_56_code 24 = .ok (.ireturn, 1) := by decide +kernel
theorem ef_cu (m : MethodId) (x0 : Addr) (x1 : Int32) : entryFrame m #[(.ref x0), (.int x1)] 2 = mkF m 0 #[.val (.ref x0), .val (.int x1)] [] := by first | (simp [entryFrame, mkF, argsToLocals, Value.category]; done) | rfl
set_option maxRecDepth 65536 in
set_option maxHeartbeats 40000000 in
theorem rmcu (l : Launch) (Z : State) (a0 : Array Value) (hw : ∀ d ∈ tables_1, d.before a0 Z = true) (ws : List Jvm.Cond) (a1 : Addr) (p2 : Int32) (g1 : Int32) (b : Addr) (kb : ClassId) (z : Int32) (cs : List Int32) (rS : Value) (h0 : Heap) (n0 : Nat) (Z0 : n0 ≤ h0.size) (E1 : Exa Z h0 a1 "java/lang/String") (Fc : Fld Z h0 a1 "java/lang/String" "coder" "B" (.int (1 : Int32))) (Fv : Fld Z h0 a1 "java/lang/String" "value" "[B" (.ref b)) (Vb : Arv Z h0 b kb .byte z (cs.map Value.int) (.int (0 : Int32))) (h1 : ¬ (p2 < (0 : Int32))) (h2 : p2 < (z >>> ((1 : Int32) &&& 31))) (i1 : ¬ ((p2 <<< ((1 : Int32) &&& 31)) < (0 : Int32))) (i2 : (p2 <<< ((1 : Int32) &&& 31)) < z) (i3 : ¬ (((p2 <<< ((1 : Int32) &&& 31)) + (1 : Int32)) < (0 : Int32))) (i4 : ((p2 <<< ((1 : Int32) &&& 31)) + (1 : Int32)) < z) (SC : Sta Z h0 "java/lang/String" "COMPACT_STRINGS" "Z" (.int g1)) (hg1 : ¬ (g1 = (0 : Int32))) (SA : Sta Z h0 "java/lang/StringUTF16" "$assertionsDisabled" "Z" (.int (1 : Int32))) (SHI : Sta Z h0 "java/lang/StringUTF16" "HI_BYTE_SHIFT" "I" (.int (0 : Int32))) (SLO : Sta Z h0 "java/lang/StringUTF16" "LO_BYTE_SHIFT" "I" (.int (8 : Int32))) (SF : Sta Z h0 "jdk/internal/util/Preconditions" "SIOOBE_FORMATTER" "Ljava/util/function/BiFunction;" rS) (hrS : rS.isRef = true) :
    MetFree l mN_7 (head1 (Jvm.Cond.code mN_7 jdk_42_method_56_code 2 (some .char) :: ws) ({ frames := 4, cells := 0, slots := 0, locals := 53 } : Room)) (fun a U => a = #[(.ref a1), (.int p2)] ∧ Z.Warmed39 U.vm ∧ U.heap = h0) (fun _ _ _ _ _ => True) (fun _ U o U' => ∃ v L, o = .returned v ∧ (Qv (own_chu cs p2) h0 n0) v U'.heap L ∧ FrameEnd U o U' L ({ frames := 4, cells := 0, slots := 0, locals := 53 } : Room).cells ({ frames := 4, cells := 0, slots := 0, locals := 53 } : Room).slots) := by
  refine MetFree.of_bodySF (plainFor_of_name pn_1) hisR ?_
  intro p e s m args below meth c s₁ Bd hml0 hP hK
  obtain ⟨rfl, hZ, hh⟩ := hP
  have hx := Bd.exec
  have hby := Bd.bytes
  have hml : c.maxLocals = 2 := hml0
  have hown : s.vm.findClass "java/lang/String" = some m.cls := findClass_of_methodNamed Bd.named
  have hnm := (name_of_methodNamed Bd.named Bd.method).1
  have hlk := Bd.notSynchronized
  have X0 : Stand p l e ({ frames := 4, cells := 0, slots := 0, locals := 53 } : Room) s m #[(.ref a1), (.int p2)] below meth c s₁ [] 0 0 := Stand.of_body Bd
  have e0 : s₁.heap = h0 := by rw [← hh, Bd.state]; rfl
  have N0 := Fr.nil n0
  show own_Ends p e below s FrameEnd (Qv (own_chu cs p2) h0 n0) 0 0 (s₁.setTop (entryFrame m #[(.ref a1), (.int p2)] 2))
  refine own_of (U' := (s₁.setTop (mkF m 0 #[.val (.ref a1), .val (.int p2)] []))) (fun _ k => castTop (ef_cu m a1 p2) k) ?_
  refine own_aloadN X0 hx hby d11_0 rfl rfl ?_
  obtain ⟨cq24, kq24, q24a, q24b, q24c⟩ := isOf hZ e0 E1
  obtain ⟨_, _, ⟨T24, L24, k24, n24⟩, -, X24, ⟨Lc24, hQ24, l24, y24, z24⟩, st24⟩ := X0.virtualBack hx (y := mN_6) (z := mN_6) hown (mvT hZ (own_w hw 56 rfl)) (mvT hZ (own_w hw 57 rfl)) (notFace_of_selects (args := #[]) (mvT hZ (own_w hw 59 rfl))) (mvT hZ (own_w hw 59 rfl)) (mvT hZ (own_w hw 58 rfl)) (by decide) (backOf (W := 0) (rmilU l Z a0 hw [] a1 g1 h0 n0 Z0 Fc SC hg1) hZ (own_w hw 60 rfl) (own_w hw 2 rfl) (by decide) (by decide)) q24a q24c (g := (mkF m 1 #[.val (.ref a1), .val (.int p2)] [(.ref a1)])) rfl (by rw [hml]; rfl) (Steps.refl _) (argsL := []) (rest := []) (lenOf pd_5 rfl) rfl (by show 2 * 0 + _ ≤ _; exact Nat.le_of_eq rfl) (hb hby d11_1) (fun _ _ => ⟨rfl, e0, (by decide : 0 + 0 ≤ _), (by decide : 0 + 0 ≤ _)⟩)
  dsimp only [Pt.U, Pt.locs, Pt.cells, Pt.slots] at X24 l24 y24 z24 st24 hQ24
  subst l24 y24 z24
  obtain ⟨rfl, Nq24, e24⟩ := hQ24
  have N24 := Fr.app N0 Nq24
  refine own_of (U' := (T24.setTop (mkF m 4 #[.val (.ref a1), .val (.int p2)] [(.int (0 : Int32))]))) (fun _ k => st24.trans k) ?_
  have hc4_25 : (0 : Int32) = (0 : Int32) := by decide
  refine own_ifYes X24 hx hby 4 16 d11_4 ((if0 _ _).trans (teq hc4_25).1) (by decide) (by decide) ?_
  refine own_aloadN X24 hx hby d11_16 rfl rfl ?_
  obtain ⟨T26, X26, e26, st26⟩ := getF X24 hx hZ hown (host := "") (Or.inl (own_w hw 20 rfl)) Via.refl e24 Fv (g := (mkF m 17 #[.val (.ref a1), .val (.int p2)] [(.ref a1)])) rfl rfl (hb hby d11_17)
  refine own_of (U' := (T26.setTop (mkF m 20 #[.val (.ref a1), .val (.int p2)] [(.ref b)]))) (st26) ?_
  refine own_iloadN X26 hx hby d11_20 rfl ?_
  obtain ⟨_, _, ⟨T27, L27, k27, n27⟩, -, X27, ⟨Lc27, hQ27, l27, y27, z27⟩, st27⟩ := Jvm.LawKit.callS X26 hx (y := mN_5) hown (mvT hZ (own_w hw 92 rfl)) (mvT hZ (own_w hw 93 rfl)) (mvT hZ (own_w hw 39 rfl)) (mvT hZ (own_w hw 94 rfl)) (by decide) (backOf (W := 0) (rmuc l Z a0 hw [] b p2 kb z cs rS h0 n0 Z0 Vb h1 h2 i1 i2 i3 i4 SA SHI SLO SF hrS) hZ (own_w hw 94 rfl) (own_w hw 39 rfl) (by decide) (by decide)) (g := (mkF m 21 #[.val (.ref a1), .val (.int p2)] [(.int p2), (.ref b)])) rfl (by rw [hml]; rfl) (argsL := [(.ref b), (.int p2)]) (rest := []) (lenOf pd_4 rfl) rfl (by show 2 * 0 + _ ≤ _; exact Nat.le_of_eq rfl) (hb hby d11_21) (fun _ _ => ⟨rfl, e26, (by decide : 0 + 0 ≤ _), (by decide : 0 + 0 ≤ _)⟩)
  dsimp only [Pt.U, Pt.locs, Pt.cells, Pt.slots] at X27 l27 y27 z27 st27 hQ27
  subst l27 y27 z27
  obtain ⟨rfl, Nq27, e27⟩ := hQ27
  have N27 := Fr.app N24 Nq27
  refine own_of (U' := (T27.setTop (mkF m 24 #[.val (.ref a1), .val (.int p2)] [(.int (own_chu cs p2))]))) (st27) ?_
  exact own_retN X27 hx hlk (t := .char) Bd.returns (by simp) (hb hby d11_24) (by decide) (by decide) (⟨congrArg (fun z => some (Value.int z)) (own_nar2 _), N27, e27⟩)
abbrev mN_8 : MethodName := ⟨"java/lang/StringLatin1", "charAt", "([BI)C"⟩
theorem d13_0 : decode jdk_43_method_2_code 0 = .ok (.iload_n 1, 1) := by decide +kernel
theorem d13_1 : decode jdk_43_method_2_code 1 = .ok (.aload_n 0, 1) := by decide +kernel
theorem d13_2 : decode jdk_43_method_2_code 2 = .ok (.arraylength, 1) := by decide +kernel
theorem d13_3 : decode jdk_43_method_2_code 3 = .ok (.invokestatic 9, 3) := by decide +kernel
theorem d13_6 : decode jdk_43_method_2_code 6 = .ok (.aload_n 0, 1) := by decide +kernel
theorem d13_7 : decode jdk_43_method_2_code 7 = .ok (.iload_n 1, 1) := by decide +kernel
theorem d13_8 : decode jdk_43_method_2_code 8 = .ok (.baload, 1) := by decide +kernel
theorem d13_9 : decode jdk_43_method_2_code 9 = .ok (.sipush 255, 3) := by decide +kernel
theorem d13_12 : decode jdk_43_method_2_code 12 = .ok (.iand, 1) := by decide +kernel
theorem d13_13 : decode jdk_43_method_2_code 13 = .ok (.i2c, 1) := by decide +kernel
theorem d13_14 : decode jdk_43_method_2_code 14 = .ok (.ireturn, 1) := by decide +kernel
theorem pn_3 : plainName "java/lang/StringLatin1" = true := by first | (simp [plainName, overriddenIn]; done) | decide +kernel
theorem ef_lc (m : MethodId) (x0 : Addr) (x1 : Int32) : entryFrame m #[(.ref x0), (.int x1)] 2 = mkF m 0 #[.val (.ref x0), .val (.int x1)] [] := by first | (simp [entryFrame, mkF, argsToLocals, Value.category]; done) | rfl
set_option maxRecDepth 65536 in
set_option maxHeartbeats 40000000 in
theorem rmlc (l : Launch) (Z : State) (a0 : Array Value) (hw : ∀ d ∈ tables_1, d.before a0 Z = true) (ws : List Jvm.Cond) (b : Addr) (p2 : Int32) (kb : ClassId) (z : Int32) (cs : List Int32) (rS : Value) (h0 : Heap) (n0 : Nat) (Z0 : n0 ≤ h0.size) (Vb : Arv Z h0 b kb .byte z (cs.map Value.int) (.int (0 : Int32))) (h1 : ¬ (p2 < (0 : Int32))) (h2 : p2 < z) (SF : Sta Z h0 "jdk/internal/util/Preconditions" "SIOOBE_FORMATTER" "Ljava/util/function/BiFunction;" rS) (hrS : rS.isRef = true) :
    MetFree l mN_8 (head1 (Jvm.Cond.code mN_8 jdk_43_method_2_code 2 (some .char) :: ws) ({ frames := 2, cells := 0, slots := 0, locals := 27 } : Room)) (fun a U => a = #[(.ref b), (.int p2)] ∧ Z.Warmed39 U.vm ∧ U.heap = h0) (fun _ _ _ _ _ => True) (fun _ U o U' => ∃ v L, o = .returned v ∧ (Qv (own_ch cs p2) h0 n0) v U'.heap L ∧ FrameEnd U o U' L ({ frames := 2, cells := 0, slots := 0, locals := 27 } : Room).cells ({ frames := 2, cells := 0, slots := 0, locals := 27 } : Room).slots) := by
  refine MetFree.of_bodySF (plainFor_of_name pn_3) hisR ?_
  intro p e s m args below meth c s₁ Bd hml0 hP hK
  obtain ⟨rfl, hZ, hh⟩ := hP
  have hx := Bd.exec
  have hby := Bd.bytes
  have hml : c.maxLocals = 2 := hml0
  have hown : s.vm.findClass "java/lang/StringLatin1" = some m.cls := findClass_of_methodNamed Bd.named
  have hnm := (name_of_methodNamed Bd.named Bd.method).1
  have hlk := Bd.notSynchronized
  have X0 : Stand p l e ({ frames := 2, cells := 0, slots := 0, locals := 27 } : Room) s m #[(.ref b), (.int p2)] below meth c s₁ [] 0 0 := Stand.of_body Bd
  have e0 : s₁.heap = h0 := by rw [← hh, Bd.state]; rfl
  have N0 := Fr.nil n0
  show own_Ends p e below s FrameEnd (Qv (own_ch cs p2) h0 n0) 0 0 (s₁.setTop (entryFrame m #[(.ref b), (.int p2)] 2))
  refine own_of (U' := (s₁.setTop (mkF m 0 #[.val (.ref b), .val (.int p2)] []))) (fun _ k => castTop (ef_lc m b p2) k) ?_
  refine own_iloadN X0 hx hby d13_0 rfl ?_
  refine own_aloadN X0 hx hby d13_1 rfl rfl ?_
  obtain ⟨cl28, Ar28, qa28, Sa28, Na28, -, -⟩ := id Vb
  have al28 := X0.arraylength hx (by rw [e0]; exact Ar28.1) (State.isArrayOf_alike hZ.alike Ar28.2.1) (g := (mkF m 2 #[.val (.ref b), .val (.int p2)] [(.ref b), (.int p2)])) rfl rfl (hb hby d13_2)
  rw [len_of Sa28 Na28] at al28
  refine own_of (U' := (s₁.setTop (mkF m 3 #[.val (.ref b), .val (.int p2)] [(.int z), (.int p2)]))) (al28) ?_
  obtain ⟨_, _, ⟨T29, L29, k29, n29⟩, -, X29, ⟨Lc29, hQ29, l29, y29, z29⟩, st29⟩ := Jvm.LawKit.callS X0 hx (y := mN_1) hown (mvT hZ (own_w hw 65 rfl)) (mvT hZ (own_w hw 66 rfl)) (mvT hZ (own_w hw 2 rfl)) (mvT hZ (own_w hw 67 rfl)) (by decide) (backOf (W := 0) (rmci l Z a0 hw [] p2 z rS h0 n0 Z0 h1 h2 SF hrS) hZ (own_w hw 67 rfl) (own_w hw 2 rfl) (by decide) (by decide)) (g := (mkF m 3 #[.val (.ref b), .val (.int p2)] [(.int z), (.int p2)])) rfl (by rw [hml]; rfl) (argsL := [(.int p2), (.int z)]) (rest := []) (lenOf pd_2 rfl) rfl (by show 2 * 0 + _ ≤ _; exact Nat.le_of_eq rfl) (hb hby d13_3) (fun _ _ => ⟨rfl, e0, (by decide : 0 + 0 ≤ _), (by decide : 0 + 0 ≤ _)⟩)
  dsimp only [Pt.U, Pt.locs, Pt.cells, Pt.slots] at X29 l29 y29 z29 st29 hQ29
  subst l29 y29 z29
  obtain ⟨rfl, Nq29, e29⟩ := hQ29
  have N29 := Fr.app N0 Nq29
  refine own_of (U' := (T29.setTop (mkF m 6 #[.val (.ref b), .val (.int p2)] []))) (st29) ?_
  refine own_aloadN X29 hx hby d13_6 rfl rfl ?_
  refine own_iloadN X29 hx hby d13_7 rfl ?_
  obtain ⟨cl30, Ar30, qa30, Sa30, Na30, Ha30, Ga30⟩ := id Vb
  have hin30 : ¬ (p2 < 0 ∨ cl30.slots.size ≤ (p2).toNatClampNeg) := inb_of Sa30 ⟨h1, h2⟩
  have hat30 : cl30.slots[(p2).toNatClampNeg]? = some (.int (own_at cs p2)) := Has.at Ha30 hin30 (own_at_eq cs _)
  refine own_of (U' := (T29.setTop (mkF m 9 #[.val (.ref b), .val (.int p2)] [(.int (own_at cs p2))]))) (X29.baloadBytes hx (j := p2) (v := (.int (own_at cs p2))) (by rw [e29]; exact Ar30.1) (State.isArrayOf_alike hZ.alike Ar30.2.1) Ar30.2.2 hin30 hat30 (g := (mkF m 8 #[.val (.ref b), .val (.int p2)] [(.int p2), (.ref b)])) rfl rfl (hb hby d13_8)) ?_
  refine own_sipush X29 hx hby 255 d13_9 rfl ?_
  refine own_iand X29 hx hby d13_12 ?_
  refine own_i2c X29 hx hby d13_13 ?_
  exact own_retN X29 hx hlk (t := .char) Bd.returns (by simp) (hb hby d13_14) (by decide) (by decide) (⟨rfl, N29, e29⟩)
theorem d12_13 : decode jdk_42_method_154_code 13 = .ok (.iconst 1, 1) := by decide +kernel
theorem d12_14 : decode jdk_42_method_154_code 14 = .ok (.goto 4, 3) := by decide +kernel
theorem ef_ilL (m : MethodId) (x0 : Addr) : entryFrame m #[(.ref x0)] 1 = mkF m 0 #[.val (.ref x0)] [] := by first | (simp [entryFrame, mkF, argsToLocals, Value.category]; done) | rfl
set_option maxRecDepth 65536 in
set_option maxHeartbeats 40000000 in
theorem rmilL (l : Launch) (Z : State) (a0 : Array Value) (hw : ∀ d ∈ tables_1, d.before a0 Z = true) (ws : List Jvm.Cond) (a1 : Addr) (g1 : Int32) (h0 : Heap) (n0 : Nat) (Z0 : n0 ≤ h0.size) (Fc : Fld Z h0 a1 "java/lang/String" "coder" "B" (.int (0 : Int32))) (SC : Sta Z h0 "java/lang/String" "COMPACT_STRINGS" "Z" (.int g1)) (hg1 : ¬ (g1 = (0 : Int32))) :
    MetFree l mN_6 (head1 (Jvm.Cond.code mN_6 jdk_42_method_154_code 1 (some .boolean) :: ws) ({ frames := 0, cells := 0, slots := 0, locals := 0 } : Room)) (fun a U => a = #[(.ref a1)] ∧ Z.Warmed39 U.vm ∧ U.heap = h0) (fun _ _ _ _ _ => True) (fun _ U o U' => ∃ v L, o = .returned v ∧ (Qv 1 h0 n0) v U'.heap L ∧ FrameEnd U o U' L ({ frames := 0, cells := 0, slots := 0, locals := 0 } : Room).cells ({ frames := 0, cells := 0, slots := 0, locals := 0 } : Room).slots) := by
  refine MetFree.of_bodySF (plainFor_of_name pn_1) hisR ?_
  intro p e s m args below meth c s₁ Bd hml0 hP hK
  obtain ⟨rfl, hZ, hh⟩ := hP
  have hx := Bd.exec
  have hby := Bd.bytes
  have hml : c.maxLocals = 1 := hml0
  have hown : s.vm.findClass "java/lang/String" = some m.cls := findClass_of_methodNamed Bd.named
  have hnm := (name_of_methodNamed Bd.named Bd.method).1
  have hlk := Bd.notSynchronized
  have X0 : Stand p l e ({ frames := 0, cells := 0, slots := 0, locals := 0 } : Room) s m #[(.ref a1)] below meth c s₁ [] 0 0 := Stand.of_body Bd
  have e0 : s₁.heap = h0 := by rw [← hh, Bd.state]; rfl
  have N0 := Fr.nil n0
  show own_Ends p e below s FrameEnd (Qv 1 h0 n0) 0 0 (s₁.setTop (entryFrame m #[(.ref a1)] 1))
  refine own_of (U' := (s₁.setTop (mkF m 0 #[.val (.ref a1)] []))) (fun _ k => castTop (ef_ilL m a1) k) ?_
  obtain ⟨T31, X31, e31, st31⟩ := getS2 X0 hx hZ hown (host := "") (Or.inl (own_w hw 36 rfl)) Via.refl e0 SC (g := (mkF m 0 #[.val (.ref a1)] [])) rfl (hb hby d12_0)
  refine own_of (U' := (T31.setTop (mkF m 3 #[.val (.ref a1)] [(.int g1)]))) (st31) ?_
  have hc3_32 : ¬ (g1 = (0 : Int32)) := hg1
  refine own_ifNo X31 hx hby d12_3 ((if0 _ _).trans (feq hc3_32).1) ?_
  refine own_aloadN X31 hx hby d12_6 rfl rfl ?_
  obtain ⟨T33, X33, e33, st33⟩ := getF X31 hx hZ hown (host := "") (Or.inl (own_w hw 21 rfl)) Via.refl e31 Fc (g := (mkF m 7 #[.val (.ref a1)] [(.ref a1)])) rfl rfl (hb hby d12_7)
  refine own_of (U' := (T33.setTop (mkF m 10 #[.val (.ref a1)] [(.int (0 : Int32))]))) (st33) ?_
  have hc10_34 : (0 : Int32) = (0 : Int32) := by decide
  refine own_ifNo X33 hx hby d12_10 ((if0 _ _).trans (teq hc10_34).2) ?_
  refine own_iconst X33 hx hby 1 d12_13 rfl ?_
  refine own_goto X33 hx hby 14 18 d12_14 (by decide) (by decide) ?_
  exact own_retN X33 hx hlk (t := .boolean) Bd.returns (by simp) (hb hby d12_18) (by decide) (by decide) (⟨rfl, N0, e33⟩)
theorem d11_7 : decode jdk_42_method_56_code 7 = .ok (.aload_n 0, 1) := by decide +kernel
theorem d11_8 : decode jdk_42_method_56_code 8 = .ok (.getfield 9, 3) := by decide +kernel
theorem d11_11 : decode jdk_42_method_56_code 11 = .ok (.iload_n 1, 1) := by decide +kernel
theorem d11_12 : decode jdk_42_method_56_code 12 = .ok (.invokestatic 495, 3) := by decide +kernel
theorem d11_15 : decode jdk_42_method_56_code 15 = .ok (.ireturn, 1) := by decide +kernel
theorem ef_ca (m : MethodId) (x0 : Addr) (x1 : Int32) : entryFrame m #[(.ref x0), (.int x1)] 2 = mkF m 0 #[.val (.ref x0), .val (.int x1)] [] := by first | (simp [entryFrame, mkF, argsToLocals, Value.category]; done) | rfl
set_option maxRecDepth 65536 in
set_option maxHeartbeats 40000000 in
theorem rmca (l : Launch) (Z : State) (a0 : Array Value) (hw : ∀ d ∈ tables_1, d.before a0 Z = true) (ws : List Jvm.Cond) (a1 : Addr) (p2 : Int32) (g1 : Int32) (b : Addr) (kb : ClassId) (z : Int32) (cs : List Int32) (rS : Value) (h0 : Heap) (n0 : Nat) (Z0 : n0 ≤ h0.size) (E1 : Exa Z h0 a1 "java/lang/String") (Fc : Fld Z h0 a1 "java/lang/String" "coder" "B" (.int (0 : Int32))) (Fv : Fld Z h0 a1 "java/lang/String" "value" "[B" (.ref b)) (Vb : Arv Z h0 b kb .byte z (cs.map Value.int) (.int (0 : Int32))) (h1 : ¬ (p2 < (0 : Int32))) (h2 : p2 < z) (SC : Sta Z h0 "java/lang/String" "COMPACT_STRINGS" "Z" (.int g1)) (hg1 : ¬ (g1 = (0 : Int32))) (SF : Sta Z h0 "jdk/internal/util/Preconditions" "SIOOBE_FORMATTER" "Ljava/util/function/BiFunction;" rS) (hrS : rS.isRef = true) :
    MetFree l mN_7 (head1 (Jvm.Cond.code mN_7 jdk_42_method_56_code 2 (some .char) :: ws) ({ frames := 4, cells := 0, slots := 0, locals := 53 } : Room)) (fun a U => a = #[(.ref a1), (.int p2)] ∧ Z.Warmed39 U.vm ∧ U.heap = h0) (fun _ _ _ _ _ => True) (fun _ U o U' => ∃ v L, o = .returned v ∧ (Qv (own_ch cs p2) h0 n0) v U'.heap L ∧ FrameEnd U o U' L ({ frames := 4, cells := 0, slots := 0, locals := 53 } : Room).cells ({ frames := 4, cells := 0, slots := 0, locals := 53 } : Room).slots) := by
  refine MetFree.of_bodySF (plainFor_of_name pn_1) hisR ?_
  intro p e s m args below meth c s₁ Bd hml0 hP hK
  obtain ⟨rfl, hZ, hh⟩ := hP
  have hx := Bd.exec
  have hby := Bd.bytes
  have hml : c.maxLocals = 2 := hml0
  have hown : s.vm.findClass "java/lang/String" = some m.cls := findClass_of_methodNamed Bd.named
  have hnm := (name_of_methodNamed Bd.named Bd.method).1
  have hlk := Bd.notSynchronized
  have X0 : Stand p l e ({ frames := 4, cells := 0, slots := 0, locals := 53 } : Room) s m #[(.ref a1), (.int p2)] below meth c s₁ [] 0 0 := Stand.of_body Bd
  have e0 : s₁.heap = h0 := by rw [← hh, Bd.state]; rfl
  have N0 := Fr.nil n0
  show own_Ends p e below s FrameEnd (Qv (own_ch cs p2) h0 n0) 0 0 (s₁.setTop (entryFrame m #[(.ref a1), (.int p2)] 2))
  refine own_of (U' := (s₁.setTop (mkF m 0 #[.val (.ref a1), .val (.int p2)] []))) (fun _ k => castTop (ef_ca m a1 p2) k) ?_
  refine own_aloadN X0 hx hby d11_0 rfl rfl ?_
  obtain ⟨cq35, kq35, q35a, q35b, q35c⟩ := isOf hZ e0 E1
  obtain ⟨_, _, ⟨T35, L35, k35, n35⟩, -, X35, ⟨Lc35, hQ35, l35, y35, z35⟩, st35⟩ := X0.virtualBack hx (y := mN_6) (z := mN_6) hown (mvT hZ (own_w hw 56 rfl)) (mvT hZ (own_w hw 57 rfl)) (notFace_of_selects (args := #[]) (mvT hZ (own_w hw 59 rfl))) (mvT hZ (own_w hw 59 rfl)) (mvT hZ (own_w hw 58 rfl)) (by decide) (backOf (W := 0) (rmilL l Z a0 hw [] a1 g1 h0 n0 Z0 Fc SC hg1) hZ (own_w hw 60 rfl) (own_w hw 2 rfl) (by decide) (by decide)) q35a q35c (g := (mkF m 1 #[.val (.ref a1), .val (.int p2)] [(.ref a1)])) rfl (by rw [hml]; rfl) (Steps.refl _) (argsL := []) (rest := []) (lenOf pd_5 rfl) rfl (by show 2 * 0 + _ ≤ _; exact Nat.le_of_eq rfl) (hb hby d11_1) (fun _ _ => ⟨rfl, e0, (by decide : 0 + 0 ≤ _), (by decide : 0 + 0 ≤ _)⟩)
  dsimp only [Pt.U, Pt.locs, Pt.cells, Pt.slots] at X35 l35 y35 z35 st35 hQ35
  subst l35 y35 z35
  obtain ⟨rfl, Nq35, e35⟩ := hQ35
  have N35 := Fr.app N0 Nq35
  refine own_of (U' := (T35.setTop (mkF m 4 #[.val (.ref a1), .val (.int p2)] [(.int (1 : Int32))]))) (fun _ k => st35.trans k) ?_
  have hc4_36 : ¬ ((1 : Int32) = (0 : Int32)) := by decide
  refine own_ifNo X35 hx hby d11_4 ((if0 _ _).trans (feq hc4_36).1) ?_
  refine own_aloadN X35 hx hby d11_7 rfl rfl ?_
  obtain ⟨T37, X37, e37, st37⟩ := getF X35 hx hZ hown (host := "") (Or.inl (own_w hw 20 rfl)) Via.refl e35 Fv (g := (mkF m 8 #[.val (.ref a1), .val (.int p2)] [(.ref a1)])) rfl rfl (hb hby d11_8)
  refine own_of (U' := (T37.setTop (mkF m 11 #[.val (.ref a1), .val (.int p2)] [(.ref b)]))) (st37) ?_
  refine own_iloadN X37 hx hby d11_11 rfl ?_
  obtain ⟨_, _, ⟨T38, L38, k38, n38⟩, -, X38, ⟨Lc38, hQ38, l38, y38, z38⟩, st38⟩ := Jvm.LawKit.callS X37 hx (y := mN_8) hown (mvT hZ (own_w hw 61 rfl)) (mvT hZ (own_w hw 62 rfl)) (mvT hZ (own_w hw 63 rfl)) (mvT hZ (own_w hw 64 rfl)) (by decide) (backOf (W := 0) (rmlc l Z a0 hw [] b p2 kb z cs rS h0 n0 Z0 Vb h1 h2 SF hrS) hZ (own_w hw 64 rfl) (own_w hw 63 rfl) (by decide) (by decide)) (g := (mkF m 12 #[.val (.ref a1), .val (.int p2)] [(.int p2), (.ref b)])) rfl (by rw [hml]; rfl) (argsL := [(.ref b), (.int p2)]) (rest := []) (lenOf pd_4 rfl) rfl (by show 2 * 0 + _ ≤ _; exact Nat.le_of_eq rfl) (hb hby d11_12) (fun _ _ => ⟨rfl, e37, (by decide : 0 + 0 ≤ _), (by decide : 0 + 0 ≤ _)⟩)
  dsimp only [Pt.U, Pt.locs, Pt.cells, Pt.slots] at X38 l38 y38 z38 st38 hQ38
  subst l38 y38 z38
  obtain ⟨rfl, Nq38, e38⟩ := hQ38
  have N38 := Fr.app N35 Nq38
  refine own_of (U' := (T38.setTop (mkF m 15 #[.val (.ref a1), .val (.int p2)] [(.int (own_ch cs p2))]))) (st38) ?_
  exact own_retN X38 hx hlk (t := .char) Bd.returns (by simp) (hb hby d11_15) (by decide) (by decide) (⟨congrArg (fun z => some (Value.int z)) (own_nar2 _), N38, e38⟩)
abbrev mN_9 : MethodName := ⟨"java/lang/String", "coder", "()B"⟩
theorem d6_0 : decode jdk_42_method_152_code 0 = .ok (.getstatic 38, 3) := by decide +kernel
theorem d6_3 : decode jdk_42_method_152_code 3 = .ok (.ifCond .eq 10, 3) := by decide +kernel
theorem d6_6 : decode jdk_42_method_152_code 6 = .ok (.aload_n 0, 1) := by decide +kernel
theorem d6_7 : decode jdk_42_method_152_code 7 = .ok (.getfield 15, 3) := by decide +kernel
theorem d6_10 : decode jdk_42_method_152_code 10 = .ok (.goto 4, 3) := by decide +kernel
theorem d6_14 : decode jdk_42_method_152_code 14 = .ok (.ireturn, 1) := by decide +kernel
theorem ef_coL (m : MethodId) (x0 : Addr) : entryFrame m #[(.ref x0)] 1 = mkF m 0 #[.val (.ref x0)] [] := by first | (simp [entryFrame, mkF, argsToLocals, Value.category]; done) | rfl
set_option maxRecDepth 65536 in
set_option maxHeartbeats 40000000 in
theorem rmcoL (l : Launch) (Z : State) (a0 : Array Value) (hw : ∀ d ∈ tables_1, d.before a0 Z = true) (ws : List Jvm.Cond) (a1 : Addr) (g1 : Int32) (h0 : Heap) (n0 : Nat) (Z0 : n0 ≤ h0.size) (Fc : Fld Z h0 a1 "java/lang/String" "coder" "B" (.int (0 : Int32))) (SC : Sta Z h0 "java/lang/String" "COMPACT_STRINGS" "Z" (.int g1)) (hg1 : ¬ (g1 = (0 : Int32))) :
    MetFree l mN_9 (head1 (Jvm.Cond.code mN_9 jdk_42_method_152_code 1 (some .byte) :: ws) ({ frames := 0, cells := 0, slots := 0, locals := 0 } : Room)) (fun a U => a = #[(.ref a1)] ∧ Z.Warmed39 U.vm ∧ U.heap = h0) (fun _ _ _ _ _ => True) (fun _ U o U' => ∃ v L, o = .returned v ∧ (Qv 0 h0 n0) v U'.heap L ∧ FrameEnd U o U' L ({ frames := 0, cells := 0, slots := 0, locals := 0 } : Room).cells ({ frames := 0, cells := 0, slots := 0, locals := 0 } : Room).slots) := by
  refine MetFree.of_bodySF (plainFor_of_name pn_1) hisR ?_
  intro p e s m args below meth c s₁ Bd hml0 hP hK
  obtain ⟨rfl, hZ, hh⟩ := hP
  have hx := Bd.exec
  have hby := Bd.bytes
  have hml : c.maxLocals = 1 := hml0
  have hown : s.vm.findClass "java/lang/String" = some m.cls := findClass_of_methodNamed Bd.named
  have hnm := (name_of_methodNamed Bd.named Bd.method).1
  have hlk := Bd.notSynchronized
  have X0 : Stand p l e ({ frames := 0, cells := 0, slots := 0, locals := 0 } : Room) s m #[(.ref a1)] below meth c s₁ [] 0 0 := Stand.of_body Bd
  have e0 : s₁.heap = h0 := by rw [← hh, Bd.state]; rfl
  have N0 := Fr.nil n0
  show own_Ends p e below s FrameEnd (Qv 0 h0 n0) 0 0 (s₁.setTop (entryFrame m #[(.ref a1)] 1))
  refine own_of (U' := (s₁.setTop (mkF m 0 #[.val (.ref a1)] []))) (fun _ k => castTop (ef_coL m a1) k) ?_
  obtain ⟨T39, X39, e39, st39⟩ := getS2 X0 hx hZ hown (host := "") (Or.inl (own_w hw 36 rfl)) Via.refl e0 SC (g := (mkF m 0 #[.val (.ref a1)] [])) rfl (hb hby d6_0)
  refine own_of (U' := (T39.setTop (mkF m 3 #[.val (.ref a1)] [(.int g1)]))) (st39) ?_
  have hc3_40 : ¬ (g1 = (0 : Int32)) := hg1
  refine own_ifNo X39 hx hby d6_3 ((if0 _ _).trans (feq hc3_40).1) ?_
  refine own_aloadN X39 hx hby d6_6 rfl rfl ?_
  obtain ⟨T41, X41, e41, st41⟩ := getF X39 hx hZ hown (host := "") (Or.inl (own_w hw 21 rfl)) Via.refl e39 Fc (g := (mkF m 7 #[.val (.ref a1)] [(.ref a1)])) rfl rfl (hb hby d6_7)
  refine own_of (U' := (T41.setTop (mkF m 10 #[.val (.ref a1)] [(.int (0 : Int32))]))) (st41) ?_
  refine own_goto X41 hx hby 10 14 d6_10 (by decide) (by decide) ?_
  exact own_retN X41 hx hlk (t := .byte) Bd.returns (by simp) (hb hby d6_14) (by decide) (by decide) (⟨rfl, N0, e41⟩)
abbrev mN_10 : MethodName := ⟨"java/lang/String", "length", "()I"⟩
theorem pd_6 : parseMethodDescriptor "()B" = some ⟨[], some .byte⟩ := by decide +kernel
theorem d5_0 : decode jdk_42_method_54_code 0 = .ok (.aload_n 0, 1) := by decide +kernel
theorem d5_1 : decode jdk_42_method_54_code 1 = .ok (.getfield 9, 3) := by decide +kernel
theorem d5_4 : decode jdk_42_method_54_code 4 = .ok (.arraylength, 1) := by decide +kernel
theorem d5_5 : decode jdk_42_method_54_code 5 = .ok (.aload_n 0, 1) := by decide +kernel
theorem d5_6 : decode jdk_42_method_54_code 6 = .ok (.invokevirtual 335, 3) := by decide +kernel
theorem d5_9 : decode jdk_42_method_54_code 9 = .ok (.ishr, 1) := by decide +kernel
theorem d5_10 : decode jdk_42_method_54_code 10 = .ok (.ireturn, 1) := by decide +kernel
theorem ef_lnL (m : MethodId) (x0 : Addr) : entryFrame m #[(.ref x0)] 1 = mkF m 0 #[.val (.ref x0)] [] := by first | (simp [entryFrame, mkF, argsToLocals, Value.category]; done) | rfl
set_option maxRecDepth 65536 in
set_option maxHeartbeats 40000000 in
theorem rmlnL (l : Launch) (Z : State) (a0 : Array Value) (hw : ∀ d ∈ tables_1, d.before a0 Z = true) (ws : List Jvm.Cond) (a1 : Addr) (g1 : Int32) (b : Addr) (kb : ClassId) (z : Int32) (cs : List Int32) (h0 : Heap) (n0 : Nat) (Z0 : n0 ≤ h0.size) (E1 : Exa Z h0 a1 "java/lang/String") (Fc : Fld Z h0 a1 "java/lang/String" "coder" "B" (.int (0 : Int32))) (Fv : Fld Z h0 a1 "java/lang/String" "value" "[B" (.ref b)) (Vb : Arv Z h0 b kb .byte z (cs.map Value.int) (.int (0 : Int32))) (SC : Sta Z h0 "java/lang/String" "COMPACT_STRINGS" "Z" (.int g1)) (hg1 : ¬ (g1 = (0 : Int32))) :
    MetFree l mN_10 (head1 (Jvm.Cond.code mN_10 jdk_42_method_54_code 1 (some .int) :: ws) ({ frames := 1, cells := 0, slots := 0, locals := 13 } : Room)) (fun a U => a = #[(.ref a1)] ∧ Z.Warmed39 U.vm ∧ U.heap = h0) (fun _ _ _ _ _ => True) (fun _ U o U' => ∃ v L, o = .returned v ∧ (Qv (z >>> ((0 : Int32) &&& 31)) h0 n0) v U'.heap L ∧ FrameEnd U o U' L ({ frames := 1, cells := 0, slots := 0, locals := 13 } : Room).cells ({ frames := 1, cells := 0, slots := 0, locals := 13 } : Room).slots) := by
  refine MetFree.of_bodySF (plainFor_of_name pn_1) hisR ?_
  intro p e s m args below meth c s₁ Bd hml0 hP hK
  obtain ⟨rfl, hZ, hh⟩ := hP
  have hx := Bd.exec
  have hby := Bd.bytes
  have hml : c.maxLocals = 1 := hml0
  have hown : s.vm.findClass "java/lang/String" = some m.cls := findClass_of_methodNamed Bd.named
  have hnm := (name_of_methodNamed Bd.named Bd.method).1
  have hlk := Bd.notSynchronized
  have X0 : Stand p l e ({ frames := 1, cells := 0, slots := 0, locals := 13 } : Room) s m #[(.ref a1)] below meth c s₁ [] 0 0 := Stand.of_body Bd
  have e0 : s₁.heap = h0 := by rw [← hh, Bd.state]; rfl
  have N0 := Fr.nil n0
  show own_Ends p e below s FrameEnd (Qv (z >>> ((0 : Int32) &&& 31)) h0 n0) 0 0 (s₁.setTop (entryFrame m #[(.ref a1)] 1))
  refine own_of (U' := (s₁.setTop (mkF m 0 #[.val (.ref a1)] []))) (fun _ k => castTop (ef_lnL m a1) k) ?_
  refine own_aloadN X0 hx hby d5_0 rfl rfl ?_
  obtain ⟨T42, X42, e42, st42⟩ := getF X0 hx hZ hown (host := "") (Or.inl (own_w hw 20 rfl)) Via.refl e0 Fv (g := (mkF m 1 #[.val (.ref a1)] [(.ref a1)])) rfl rfl (hb hby d5_1)
  refine own_of (U' := (T42.setTop (mkF m 4 #[.val (.ref a1)] [(.ref b)]))) (st42) ?_
  obtain ⟨cl43, Ar43, qa43, Sa43, Na43, -, -⟩ := id Vb
  have al43 := X42.arraylength hx (by rw [e42]; exact Ar43.1) (State.isArrayOf_alike hZ.alike Ar43.2.1) (g := (mkF m 4 #[.val (.ref a1)] [(.ref b)])) rfl rfl (hb hby d5_4)
  rw [len_of Sa43 Na43] at al43
  refine own_of (U' := (T42.setTop (mkF m 5 #[.val (.ref a1)] [(.int z)]))) (al43) ?_
  refine own_aloadN X42 hx hby d5_5 rfl rfl ?_
  obtain ⟨cq44, kq44, q44a, q44b, q44c⟩ := isOf hZ e42 E1
  obtain ⟨_, _, ⟨T44, L44, k44, n44⟩, -, X44, ⟨Lc44, hQ44, l44, y44, z44⟩, st44⟩ := X42.virtualBack hx (y := mN_9) (z := mN_9) hown (mvT hZ (own_w hw 31 rfl)) (mvT hZ (own_w hw 32 rfl)) (notFace_of_selects (args := #[]) (mvT hZ (own_w hw 34 rfl))) (mvT hZ (own_w hw 34 rfl)) (mvT hZ (own_w hw 33 rfl)) (by decide) (backOf (W := 1) (rmcoL l Z a0 hw [] a1 g1 h0 n0 Z0 Fc SC hg1) hZ (own_w hw 35 rfl) (own_w hw 2 rfl) (by decide) (by decide)) q44a q44c (g := (mkF m 6 #[.val (.ref a1)] [(.ref a1), (.int z)])) rfl (by rw [hml]; rfl) (Steps.refl _) (argsL := []) (rest := [(.int z)]) (lenOf pd_6 rfl) rfl (by show 2 * 0 + _ ≤ _; exact Nat.le_of_eq rfl) (hb hby d5_6) (fun _ _ => ⟨rfl, e42, (by decide : 0 + 0 ≤ _), (by decide : 0 + 0 ≤ _)⟩)
  dsimp only [Pt.U, Pt.locs, Pt.cells, Pt.slots] at X44 l44 y44 z44 st44 hQ44
  subst l44 y44 z44
  obtain ⟨rfl, Nq44, e44⟩ := hQ44
  have N44 := Fr.app N0 Nq44
  refine own_of (U' := (T44.setTop (mkF m 9 #[.val (.ref a1)] [(.int (0 : Int32)), (.int z)]))) (fun _ k => st44.trans k) ?_
  refine own_ishr X44 hx hby d5_9 ?_
  exact own_retI X44 hx hlk Bd.returns (hb hby d5_10) (by decide) (by decide) (⟨rfl, N44, e44⟩)
theorem ef_coU (m : MethodId) (x0 : Addr) : entryFrame m #[(.ref x0)] 1 = mkF m 0 #[.val (.ref x0)] [] := by first | (simp [entryFrame, mkF, argsToLocals, Value.category]; done) | rfl
set_option maxRecDepth 65536 in
set_option maxHeartbeats 40000000 in
theorem rmcoU (l : Launch) (Z : State) (a0 : Array Value) (hw : ∀ d ∈ tables_1, d.before a0 Z = true) (ws : List Jvm.Cond) (a1 : Addr) (g1 : Int32) (h0 : Heap) (n0 : Nat) (Z0 : n0 ≤ h0.size) (Fc : Fld Z h0 a1 "java/lang/String" "coder" "B" (.int (1 : Int32))) (SC : Sta Z h0 "java/lang/String" "COMPACT_STRINGS" "Z" (.int g1)) (hg1 : ¬ (g1 = (0 : Int32))) :
    MetFree l mN_9 (head1 (Jvm.Cond.code mN_9 jdk_42_method_152_code 1 (some .byte) :: ws) ({ frames := 0, cells := 0, slots := 0, locals := 0 } : Room)) (fun a U => a = #[(.ref a1)] ∧ Z.Warmed39 U.vm ∧ U.heap = h0) (fun _ _ _ _ _ => True) (fun _ U o U' => ∃ v L, o = .returned v ∧ (Qv 1 h0 n0) v U'.heap L ∧ FrameEnd U o U' L ({ frames := 0, cells := 0, slots := 0, locals := 0 } : Room).cells ({ frames := 0, cells := 0, slots := 0, locals := 0 } : Room).slots) := by
  refine MetFree.of_bodySF (plainFor_of_name pn_1) hisR ?_
  intro p e s m args below meth c s₁ Bd hml0 hP hK
  obtain ⟨rfl, hZ, hh⟩ := hP
  have hx := Bd.exec
  have hby := Bd.bytes
  have hml : c.maxLocals = 1 := hml0
  have hown : s.vm.findClass "java/lang/String" = some m.cls := findClass_of_methodNamed Bd.named
  have hnm := (name_of_methodNamed Bd.named Bd.method).1
  have hlk := Bd.notSynchronized
  have X0 : Stand p l e ({ frames := 0, cells := 0, slots := 0, locals := 0 } : Room) s m #[(.ref a1)] below meth c s₁ [] 0 0 := Stand.of_body Bd
  have e0 : s₁.heap = h0 := by rw [← hh, Bd.state]; rfl
  have N0 := Fr.nil n0
  show own_Ends p e below s FrameEnd (Qv 1 h0 n0) 0 0 (s₁.setTop (entryFrame m #[(.ref a1)] 1))
  refine own_of (U' := (s₁.setTop (mkF m 0 #[.val (.ref a1)] []))) (fun _ k => castTop (ef_coU m a1) k) ?_
  obtain ⟨T45, X45, e45, st45⟩ := getS2 X0 hx hZ hown (host := "") (Or.inl (own_w hw 36 rfl)) Via.refl e0 SC (g := (mkF m 0 #[.val (.ref a1)] [])) rfl (hb hby d6_0)
  refine own_of (U' := (T45.setTop (mkF m 3 #[.val (.ref a1)] [(.int g1)]))) (st45) ?_
  have hc3_46 : ¬ (g1 = (0 : Int32)) := hg1
  refine own_ifNo X45 hx hby d6_3 ((if0 _ _).trans (feq hc3_46).1) ?_
  refine own_aloadN X45 hx hby d6_6 rfl rfl ?_
  obtain ⟨T47, X47, e47, st47⟩ := getF X45 hx hZ hown (host := "") (Or.inl (own_w hw 21 rfl)) Via.refl e45 Fc (g := (mkF m 7 #[.val (.ref a1)] [(.ref a1)])) rfl rfl (hb hby d6_7)
  refine own_of (U' := (T47.setTop (mkF m 10 #[.val (.ref a1)] [(.int (1 : Int32))]))) (st47) ?_
  refine own_goto X47 hx hby 10 14 d6_10 (by decide) (by decide) ?_
  exact own_retN X47 hx hlk (t := .byte) Bd.returns (by simp) (hb hby d6_14) (by decide) (by decide) (⟨rfl, N0, e47⟩)
theorem ef_lnU (m : MethodId) (x0 : Addr) : entryFrame m #[(.ref x0)] 1 = mkF m 0 #[.val (.ref x0)] [] := by first | (simp [entryFrame, mkF, argsToLocals, Value.category]; done) | rfl
set_option maxRecDepth 65536 in
set_option maxHeartbeats 40000000 in
theorem rmlnU (l : Launch) (Z : State) (a0 : Array Value) (hw : ∀ d ∈ tables_1, d.before a0 Z = true) (ws : List Jvm.Cond) (a1 : Addr) (g1 : Int32) (b : Addr) (kb : ClassId) (z : Int32) (cs : List Int32) (h0 : Heap) (n0 : Nat) (Z0 : n0 ≤ h0.size) (E1 : Exa Z h0 a1 "java/lang/String") (Fc : Fld Z h0 a1 "java/lang/String" "coder" "B" (.int (1 : Int32))) (Fv : Fld Z h0 a1 "java/lang/String" "value" "[B" (.ref b)) (Vb : Arv Z h0 b kb .byte z (cs.map Value.int) (.int (0 : Int32))) (SC : Sta Z h0 "java/lang/String" "COMPACT_STRINGS" "Z" (.int g1)) (hg1 : ¬ (g1 = (0 : Int32))) :
    MetFree l mN_10 (head1 (Jvm.Cond.code mN_10 jdk_42_method_54_code 1 (some .int) :: ws) ({ frames := 1, cells := 0, slots := 0, locals := 13 } : Room)) (fun a U => a = #[(.ref a1)] ∧ Z.Warmed39 U.vm ∧ U.heap = h0) (fun _ _ _ _ _ => True) (fun _ U o U' => ∃ v L, o = .returned v ∧ (Qv (z >>> ((1 : Int32) &&& 31)) h0 n0) v U'.heap L ∧ FrameEnd U o U' L ({ frames := 1, cells := 0, slots := 0, locals := 13 } : Room).cells ({ frames := 1, cells := 0, slots := 0, locals := 13 } : Room).slots) := by
  refine MetFree.of_bodySF (plainFor_of_name pn_1) hisR ?_
  intro p e s m args below meth c s₁ Bd hml0 hP hK
  obtain ⟨rfl, hZ, hh⟩ := hP
  have hx := Bd.exec
  have hby := Bd.bytes
  have hml : c.maxLocals = 1 := hml0
  have hown : s.vm.findClass "java/lang/String" = some m.cls := findClass_of_methodNamed Bd.named
  have hnm := (name_of_methodNamed Bd.named Bd.method).1
  have hlk := Bd.notSynchronized
  have X0 : Stand p l e ({ frames := 1, cells := 0, slots := 0, locals := 13 } : Room) s m #[(.ref a1)] below meth c s₁ [] 0 0 := Stand.of_body Bd
  have e0 : s₁.heap = h0 := by rw [← hh, Bd.state]; rfl
  have N0 := Fr.nil n0
  show own_Ends p e below s FrameEnd (Qv (z >>> ((1 : Int32) &&& 31)) h0 n0) 0 0 (s₁.setTop (entryFrame m #[(.ref a1)] 1))
  refine own_of (U' := (s₁.setTop (mkF m 0 #[.val (.ref a1)] []))) (fun _ k => castTop (ef_lnU m a1) k) ?_
  refine own_aloadN X0 hx hby d5_0 rfl rfl ?_
  obtain ⟨T48, X48, e48, st48⟩ := getF X0 hx hZ hown (host := "") (Or.inl (own_w hw 20 rfl)) Via.refl e0 Fv (g := (mkF m 1 #[.val (.ref a1)] [(.ref a1)])) rfl rfl (hb hby d5_1)
  refine own_of (U' := (T48.setTop (mkF m 4 #[.val (.ref a1)] [(.ref b)]))) (st48) ?_
  obtain ⟨cl49, Ar49, qa49, Sa49, Na49, -, -⟩ := id Vb
  have al49 := X48.arraylength hx (by rw [e48]; exact Ar49.1) (State.isArrayOf_alike hZ.alike Ar49.2.1) (g := (mkF m 4 #[.val (.ref a1)] [(.ref b)])) rfl rfl (hb hby d5_4)
  rw [len_of Sa49 Na49] at al49
  refine own_of (U' := (T48.setTop (mkF m 5 #[.val (.ref a1)] [(.int z)]))) (al49) ?_
  refine own_aloadN X48 hx hby d5_5 rfl rfl ?_
  obtain ⟨cq50, kq50, q50a, q50b, q50c⟩ := isOf hZ e48 E1
  obtain ⟨_, _, ⟨T50, L50, k50, n50⟩, -, X50, ⟨Lc50, hQ50, l50, y50, z50⟩, st50⟩ := X48.virtualBack hx (y := mN_9) (z := mN_9) hown (mvT hZ (own_w hw 31 rfl)) (mvT hZ (own_w hw 32 rfl)) (notFace_of_selects (args := #[]) (mvT hZ (own_w hw 34 rfl))) (mvT hZ (own_w hw 34 rfl)) (mvT hZ (own_w hw 33 rfl)) (by decide) (backOf (W := 1) (rmcoU l Z a0 hw [] a1 g1 h0 n0 Z0 Fc SC hg1) hZ (own_w hw 35 rfl) (own_w hw 2 rfl) (by decide) (by decide)) q50a q50c (g := (mkF m 6 #[.val (.ref a1)] [(.ref a1), (.int z)])) rfl (by rw [hml]; rfl) (Steps.refl _) (argsL := []) (rest := [(.int z)]) (lenOf pd_6 rfl) rfl (by show 2 * 0 + _ ≤ _; exact Nat.le_of_eq rfl) (hb hby d5_6) (fun _ _ => ⟨rfl, e48, (by decide : 0 + 0 ≤ _), (by decide : 0 + 0 ≤ _)⟩)
  dsimp only [Pt.U, Pt.locs, Pt.cells, Pt.slots] at X50 l50 y50 z50 st50 hQ50
  subst l50 y50 z50
  obtain ⟨rfl, Nq50, e50⟩ := hQ50
  have N50 := Fr.app N0 Nq50
  refine own_of (U' := (T50.setTop (mkF m 9 #[.val (.ref a1)] [(.int (1 : Int32)), (.int z)]))) (fun _ k => st50.trans k) ?_
  refine own_ishr X50 hx hby d5_9 ?_
  exact own_retI X50 hx hlk Bd.returns (hb hby d5_10) (by decide) (by decide) (⟨rfl, N50, e50⟩)
set_option maxRecDepth 65536 in
theorem rmlen0 (l : Launch) (Z : State) (a0 : Array Value) (hw : ∀ d ∈ tables_1, d.before a0 Z = true) (ws : List Jvm.Cond) (a1 : Addr)  (g1 : Int32) (h0 : Heap) (n0 : Nat) (Z0 : n0 ≤ h0.size) (T1 : own_Str Z h0 a1 (0 : Int32) (0 : Int32) []) (SC : Sta Z h0 "java/lang/String" "COMPACT_STRINGS" "Z" (.int g1)) (hg1 : ¬ (g1 = (0 : Int32))) :
    MetFree l mN_10 (head1 (Jvm.Cond.code mN_10 jdk_42_method_54_code 1 (some .int) :: ws) ({ frames := 1, cells := 0, slots := 0, locals := 13 } : Room)) (fun a U => a = #[(.ref a1)] ∧ Z.Warmed39 U.vm ∧ U.heap = h0) (fun _ _ _ _ _ => True) (fun _ U o U' => ∃ v L, o = .returned v ∧ (Qv 0 h0 n0) v U'.heap L ∧ FrameEnd U o U' L ({ frames := 1, cells := 0, slots := 0, locals := 13 } : Room).cells ({ frames := 1, cells := 0, slots := 0, locals := 13 } : Room).slots) := by
  obtain ⟨E1, b, kb, Fv, ⟨Fc, Vb, hall⟩ | ⟨Fc, Vb⟩⟩ := T1
  · have r := rmlnL l Z a0 hw ws a1 g1 b kb (0 : Int32) (List.map own_b8 []) h0 n0 Z0 E1 Fc Fv Vb SC hg1
    rw [show ((0 : Int32) >>> ((0 : Int32) &&& 31)) = 0 by decide] at r
    exact r
  · have r := rmlnU l Z a0 hw ws a1 g1 b kb (0 : Int32) (own_u16 []) h0 n0 Z0 E1 Fc Fv Vb SC hg1
    rw [show ((0 : Int32) >>> ((1 : Int32) &&& 31)) = 0 by decide] at r
    exact r
set_option maxRecDepth 65536 in
theorem rmlen1 (l : Launch) (Z : State) (a0 : Array Value) (hw : ∀ d ∈ tables_1, d.before a0 Z = true) (ws : List Jvm.Cond) (a1 : Addr) (c0 : Int32) (g1 : Int32) (h0 : Heap) (n0 : Nat) (Z0 : n0 ≤ h0.size) (T1 : own_Str Z h0 a1 (1 : Int32) (2 : Int32) [c0]) (SC : Sta Z h0 "java/lang/String" "COMPACT_STRINGS" "Z" (.int g1)) (hg1 : ¬ (g1 = (0 : Int32))) :
    MetFree l mN_10 (head1 (Jvm.Cond.code mN_10 jdk_42_method_54_code 1 (some .int) :: ws) ({ frames := 1, cells := 0, slots := 0, locals := 13 } : Room)) (fun a U => a = #[(.ref a1)] ∧ Z.Warmed39 U.vm ∧ U.heap = h0) (fun _ _ _ _ _ => True) (fun _ U o U' => ∃ v L, o = .returned v ∧ (Qv 1 h0 n0) v U'.heap L ∧ FrameEnd U o U' L ({ frames := 1, cells := 0, slots := 0, locals := 13 } : Room).cells ({ frames := 1, cells := 0, slots := 0, locals := 13 } : Room).slots) := by
  obtain ⟨E1, b, kb, Fv, ⟨Fc, Vb, hall⟩ | ⟨Fc, Vb⟩⟩ := T1
  · have r := rmlnL l Z a0 hw ws a1 g1 b kb (1 : Int32) (List.map own_b8 [c0]) h0 n0 Z0 E1 Fc Fv Vb SC hg1
    rw [show ((1 : Int32) >>> ((0 : Int32) &&& 31)) = 1 by decide] at r
    exact r
  · have r := rmlnU l Z a0 hw ws a1 g1 b kb (2 : Int32) (own_u16 [c0]) h0 n0 Z0 E1 Fc Fv Vb SC hg1
    rw [show ((2 : Int32) >>> ((1 : Int32) &&& 31)) = 1 by decide] at r
    exact r
set_option maxRecDepth 65536 in
theorem rmch1_0 (l : Launch) (Z : State) (a0 : Array Value) (hw : ∀ d ∈ tables_1, d.before a0 Z = true) (ws : List Jvm.Cond) (a1 : Addr) (c0 : Int32) (g1 : Int32) (rS : Value) (h0 : Heap) (n0 : Nat) (Z0 : n0 ≤ h0.size) (T1 : own_Str Z h0 a1 (1 : Int32) (2 : Int32) [c0]) (hb0 : 0 ≤ c0.toInt ∧ c0.toInt < 65536) (SC : Sta Z h0 "java/lang/String" "COMPACT_STRINGS" "Z" (.int g1)) (hg1 : ¬ (g1 = (0 : Int32))) (SA : Sta Z h0 "java/lang/StringUTF16" "$assertionsDisabled" "Z" (.int (1 : Int32))) (SHI : Sta Z h0 "java/lang/StringUTF16" "HI_BYTE_SHIFT" "I" (.int (0 : Int32))) (SLO : Sta Z h0 "java/lang/StringUTF16" "LO_BYTE_SHIFT" "I" (.int (8 : Int32))) (SF : Sta Z h0 "jdk/internal/util/Preconditions" "SIOOBE_FORMATTER" "Ljava/util/function/BiFunction;" rS) (hrS : rS.isRef = true) :
    MetFree l mN_7 (head1 (Jvm.Cond.code mN_7 jdk_42_method_56_code 2 (some .char) :: ws) ({ frames := 4, cells := 0, slots := 0, locals := 53 } : Room)) (fun a U => a = #[(.ref a1), (.int (0 : Int32))] ∧ Z.Warmed39 U.vm ∧ U.heap = h0) (fun _ _ _ _ _ => True) (fun _ U o U' => ∃ v L, o = .returned v ∧ (Qv c0 h0 n0) v U'.heap L ∧ FrameEnd U o U' L ({ frames := 4, cells := 0, slots := 0, locals := 53 } : Room).cells ({ frames := 4, cells := 0, slots := 0, locals := 53 } : Room).slots) := by
  obtain ⟨E1, b, kb, Fv, ⟨Fc, Vb, hall⟩ | ⟨Fc, Vb⟩⟩ := T1
  · have r := rmca l Z a0 hw ws a1 (0 : Int32) g1 b kb (1 : Int32) (List.map own_b8 [c0]) rS h0 n0 Z0 E1 Fc Fv Vb (by decide) (by decide) SC hg1 SF hrS
    rw [show own_ch (List.map own_b8 [c0]) (0 : Int32) = c0 from own_ch_eq hb0 (hall c0 (List.mem_of_getElem? (i := 0) rfl))] at r
    exact r
  · have r := rmcu l Z a0 hw ws a1 (0 : Int32) g1 b kb (2 : Int32) (own_u16 [c0]) rS h0 n0 Z0 E1 Fc Fv Vb (by decide) (by decide) (by decide) (by decide) (by decide) (by decide) SC hg1 SA SHI SLO SF hrS
    rw [show own_chu (own_u16 [c0]) (0 : Int32) = c0 from own_gc_eq hb0] at r
    exact r
set_option maxRecDepth 65536 in
theorem rmlen2 (l : Launch) (Z : State) (a0 : Array Value) (hw : ∀ d ∈ tables_1, d.before a0 Z = true) (ws : List Jvm.Cond) (a1 : Addr) (c0 c1 : Int32) (g1 : Int32) (h0 : Heap) (n0 : Nat) (Z0 : n0 ≤ h0.size) (T1 : own_Str Z h0 a1 (2 : Int32) (4 : Int32) [c0, c1]) (SC : Sta Z h0 "java/lang/String" "COMPACT_STRINGS" "Z" (.int g1)) (hg1 : ¬ (g1 = (0 : Int32))) :
    MetFree l mN_10 (head1 (Jvm.Cond.code mN_10 jdk_42_method_54_code 1 (some .int) :: ws) ({ frames := 1, cells := 0, slots := 0, locals := 13 } : Room)) (fun a U => a = #[(.ref a1)] ∧ Z.Warmed39 U.vm ∧ U.heap = h0) (fun _ _ _ _ _ => True) (fun _ U o U' => ∃ v L, o = .returned v ∧ (Qv 2 h0 n0) v U'.heap L ∧ FrameEnd U o U' L ({ frames := 1, cells := 0, slots := 0, locals := 13 } : Room).cells ({ frames := 1, cells := 0, slots := 0, locals := 13 } : Room).slots) := by
  obtain ⟨E1, b, kb, Fv, ⟨Fc, Vb, hall⟩ | ⟨Fc, Vb⟩⟩ := T1
  · have r := rmlnL l Z a0 hw ws a1 g1 b kb (2 : Int32) (List.map own_b8 [c0, c1]) h0 n0 Z0 E1 Fc Fv Vb SC hg1
    rw [show ((2 : Int32) >>> ((0 : Int32) &&& 31)) = 2 by decide] at r
    exact r
  · have r := rmlnU l Z a0 hw ws a1 g1 b kb (4 : Int32) (own_u16 [c0, c1]) h0 n0 Z0 E1 Fc Fv Vb SC hg1
    rw [show ((4 : Int32) >>> ((1 : Int32) &&& 31)) = 2 by decide] at r
    exact r
set_option maxRecDepth 65536 in
theorem rmch2_0 (l : Launch) (Z : State) (a0 : Array Value) (hw : ∀ d ∈ tables_1, d.before a0 Z = true) (ws : List Jvm.Cond) (a1 : Addr) (c0 c1 : Int32) (g1 : Int32) (rS : Value) (h0 : Heap) (n0 : Nat) (Z0 : n0 ≤ h0.size) (T1 : own_Str Z h0 a1 (2 : Int32) (4 : Int32) [c0, c1]) (hb0 : 0 ≤ c0.toInt ∧ c0.toInt < 65536) (hb1 : 0 ≤ c1.toInt ∧ c1.toInt < 65536) (SC : Sta Z h0 "java/lang/String" "COMPACT_STRINGS" "Z" (.int g1)) (hg1 : ¬ (g1 = (0 : Int32))) (SA : Sta Z h0 "java/lang/StringUTF16" "$assertionsDisabled" "Z" (.int (1 : Int32))) (SHI : Sta Z h0 "java/lang/StringUTF16" "HI_BYTE_SHIFT" "I" (.int (0 : Int32))) (SLO : Sta Z h0 "java/lang/StringUTF16" "LO_BYTE_SHIFT" "I" (.int (8 : Int32))) (SF : Sta Z h0 "jdk/internal/util/Preconditions" "SIOOBE_FORMATTER" "Ljava/util/function/BiFunction;" rS) (hrS : rS.isRef = true) :
    MetFree l mN_7 (head1 (Jvm.Cond.code mN_7 jdk_42_method_56_code 2 (some .char) :: ws) ({ frames := 4, cells := 0, slots := 0, locals := 53 } : Room)) (fun a U => a = #[(.ref a1), (.int (0 : Int32))] ∧ Z.Warmed39 U.vm ∧ U.heap = h0) (fun _ _ _ _ _ => True) (fun _ U o U' => ∃ v L, o = .returned v ∧ (Qv c0 h0 n0) v U'.heap L ∧ FrameEnd U o U' L ({ frames := 4, cells := 0, slots := 0, locals := 53 } : Room).cells ({ frames := 4, cells := 0, slots := 0, locals := 53 } : Room).slots) := by
  obtain ⟨E1, b, kb, Fv, ⟨Fc, Vb, hall⟩ | ⟨Fc, Vb⟩⟩ := T1
  · have r := rmca l Z a0 hw ws a1 (0 : Int32) g1 b kb (2 : Int32) (List.map own_b8 [c0, c1]) rS h0 n0 Z0 E1 Fc Fv Vb (by decide) (by decide) SC hg1 SF hrS
    rw [show own_ch (List.map own_b8 [c0, c1]) (0 : Int32) = c0 from own_ch_eq hb0 (hall c0 (List.mem_of_getElem? (i := 0) rfl))] at r
    exact r
  · have r := rmcu l Z a0 hw ws a1 (0 : Int32) g1 b kb (4 : Int32) (own_u16 [c0, c1]) rS h0 n0 Z0 E1 Fc Fv Vb (by decide) (by decide) (by decide) (by decide) (by decide) (by decide) SC hg1 SA SHI SLO SF hrS
    rw [show own_chu (own_u16 [c0, c1]) (0 : Int32) = c0 from own_gc_eq hb0] at r
    exact r
set_option maxRecDepth 65536 in
theorem rmch2_1 (l : Launch) (Z : State) (a0 : Array Value) (hw : ∀ d ∈ tables_1, d.before a0 Z = true) (ws : List Jvm.Cond) (a1 : Addr) (c0 c1 : Int32) (g1 : Int32) (rS : Value) (h0 : Heap) (n0 : Nat) (Z0 : n0 ≤ h0.size) (T1 : own_Str Z h0 a1 (2 : Int32) (4 : Int32) [c0, c1]) (hb0 : 0 ≤ c0.toInt ∧ c0.toInt < 65536) (hb1 : 0 ≤ c1.toInt ∧ c1.toInt < 65536) (SC : Sta Z h0 "java/lang/String" "COMPACT_STRINGS" "Z" (.int g1)) (hg1 : ¬ (g1 = (0 : Int32))) (SA : Sta Z h0 "java/lang/StringUTF16" "$assertionsDisabled" "Z" (.int (1 : Int32))) (SHI : Sta Z h0 "java/lang/StringUTF16" "HI_BYTE_SHIFT" "I" (.int (0 : Int32))) (SLO : Sta Z h0 "java/lang/StringUTF16" "LO_BYTE_SHIFT" "I" (.int (8 : Int32))) (SF : Sta Z h0 "jdk/internal/util/Preconditions" "SIOOBE_FORMATTER" "Ljava/util/function/BiFunction;" rS) (hrS : rS.isRef = true) :
    MetFree l mN_7 (head1 (Jvm.Cond.code mN_7 jdk_42_method_56_code 2 (some .char) :: ws) ({ frames := 4, cells := 0, slots := 0, locals := 53 } : Room)) (fun a U => a = #[(.ref a1), (.int (1 : Int32))] ∧ Z.Warmed39 U.vm ∧ U.heap = h0) (fun _ _ _ _ _ => True) (fun _ U o U' => ∃ v L, o = .returned v ∧ (Qv c1 h0 n0) v U'.heap L ∧ FrameEnd U o U' L ({ frames := 4, cells := 0, slots := 0, locals := 53 } : Room).cells ({ frames := 4, cells := 0, slots := 0, locals := 53 } : Room).slots) := by
  obtain ⟨E1, b, kb, Fv, ⟨Fc, Vb, hall⟩ | ⟨Fc, Vb⟩⟩ := T1
  · have r := rmca l Z a0 hw ws a1 (1 : Int32) g1 b kb (2 : Int32) (List.map own_b8 [c0, c1]) rS h0 n0 Z0 E1 Fc Fv Vb (by decide) (by decide) SC hg1 SF hrS
    rw [show own_ch (List.map own_b8 [c0, c1]) (1 : Int32) = c1 from own_ch_eq hb1 (hall c1 (List.mem_of_getElem? (i := 1) rfl))] at r
    exact r
  · have r := rmcu l Z a0 hw ws a1 (1 : Int32) g1 b kb (4 : Int32) (own_u16 [c0, c1]) rS h0 n0 Z0 E1 Fc Fv Vb (by decide) (by decide) (by decide) (by decide) (by decide) (by decide) SC hg1 SA SHI SLO SF hrS
    rw [show own_chu (own_u16 [c0, c1]) (1 : Int32) = c1 from own_gc_eq hb1] at r
    exact r
set_option maxRecDepth 65536 in
theorem rmlen3 (l : Launch) (Z : State) (a0 : Array Value) (hw : ∀ d ∈ tables_1, d.before a0 Z = true) (ws : List Jvm.Cond) (a1 : Addr) (c0 c1 c2 : Int32) (g1 : Int32) (h0 : Heap) (n0 : Nat) (Z0 : n0 ≤ h0.size) (T1 : own_Str Z h0 a1 (3 : Int32) (6 : Int32) [c0, c1, c2]) (SC : Sta Z h0 "java/lang/String" "COMPACT_STRINGS" "Z" (.int g1)) (hg1 : ¬ (g1 = (0 : Int32))) :
    MetFree l mN_10 (head1 (Jvm.Cond.code mN_10 jdk_42_method_54_code 1 (some .int) :: ws) ({ frames := 1, cells := 0, slots := 0, locals := 13 } : Room)) (fun a U => a = #[(.ref a1)] ∧ Z.Warmed39 U.vm ∧ U.heap = h0) (fun _ _ _ _ _ => True) (fun _ U o U' => ∃ v L, o = .returned v ∧ (Qv 3 h0 n0) v U'.heap L ∧ FrameEnd U o U' L ({ frames := 1, cells := 0, slots := 0, locals := 13 } : Room).cells ({ frames := 1, cells := 0, slots := 0, locals := 13 } : Room).slots) := by
  obtain ⟨E1, b, kb, Fv, ⟨Fc, Vb, hall⟩ | ⟨Fc, Vb⟩⟩ := T1
  · have r := rmlnL l Z a0 hw ws a1 g1 b kb (3 : Int32) (List.map own_b8 [c0, c1, c2]) h0 n0 Z0 E1 Fc Fv Vb SC hg1
    rw [show ((3 : Int32) >>> ((0 : Int32) &&& 31)) = 3 by decide] at r
    exact r
  · have r := rmlnU l Z a0 hw ws a1 g1 b kb (6 : Int32) (own_u16 [c0, c1, c2]) h0 n0 Z0 E1 Fc Fv Vb SC hg1
    rw [show ((6 : Int32) >>> ((1 : Int32) &&& 31)) = 3 by decide] at r
    exact r
set_option maxRecDepth 65536 in
theorem rmch3_0 (l : Launch) (Z : State) (a0 : Array Value) (hw : ∀ d ∈ tables_1, d.before a0 Z = true) (ws : List Jvm.Cond) (a1 : Addr) (c0 c1 c2 : Int32) (g1 : Int32) (rS : Value) (h0 : Heap) (n0 : Nat) (Z0 : n0 ≤ h0.size) (T1 : own_Str Z h0 a1 (3 : Int32) (6 : Int32) [c0, c1, c2]) (hb0 : 0 ≤ c0.toInt ∧ c0.toInt < 65536) (hb1 : 0 ≤ c1.toInt ∧ c1.toInt < 65536) (hb2 : 0 ≤ c2.toInt ∧ c2.toInt < 65536) (SC : Sta Z h0 "java/lang/String" "COMPACT_STRINGS" "Z" (.int g1)) (hg1 : ¬ (g1 = (0 : Int32))) (SA : Sta Z h0 "java/lang/StringUTF16" "$assertionsDisabled" "Z" (.int (1 : Int32))) (SHI : Sta Z h0 "java/lang/StringUTF16" "HI_BYTE_SHIFT" "I" (.int (0 : Int32))) (SLO : Sta Z h0 "java/lang/StringUTF16" "LO_BYTE_SHIFT" "I" (.int (8 : Int32))) (SF : Sta Z h0 "jdk/internal/util/Preconditions" "SIOOBE_FORMATTER" "Ljava/util/function/BiFunction;" rS) (hrS : rS.isRef = true) :
    MetFree l mN_7 (head1 (Jvm.Cond.code mN_7 jdk_42_method_56_code 2 (some .char) :: ws) ({ frames := 4, cells := 0, slots := 0, locals := 53 } : Room)) (fun a U => a = #[(.ref a1), (.int (0 : Int32))] ∧ Z.Warmed39 U.vm ∧ U.heap = h0) (fun _ _ _ _ _ => True) (fun _ U o U' => ∃ v L, o = .returned v ∧ (Qv c0 h0 n0) v U'.heap L ∧ FrameEnd U o U' L ({ frames := 4, cells := 0, slots := 0, locals := 53 } : Room).cells ({ frames := 4, cells := 0, slots := 0, locals := 53 } : Room).slots) := by
  obtain ⟨E1, b, kb, Fv, ⟨Fc, Vb, hall⟩ | ⟨Fc, Vb⟩⟩ := T1
  · have r := rmca l Z a0 hw ws a1 (0 : Int32) g1 b kb (3 : Int32) (List.map own_b8 [c0, c1, c2]) rS h0 n0 Z0 E1 Fc Fv Vb (by decide) (by decide) SC hg1 SF hrS
    rw [show own_ch (List.map own_b8 [c0, c1, c2]) (0 : Int32) = c0 from own_ch_eq hb0 (hall c0 (List.mem_of_getElem? (i := 0) rfl))] at r
    exact r
  · have r := rmcu l Z a0 hw ws a1 (0 : Int32) g1 b kb (6 : Int32) (own_u16 [c0, c1, c2]) rS h0 n0 Z0 E1 Fc Fv Vb (by decide) (by decide) (by decide) (by decide) (by decide) (by decide) SC hg1 SA SHI SLO SF hrS
    rw [show own_chu (own_u16 [c0, c1, c2]) (0 : Int32) = c0 from own_gc_eq hb0] at r
    exact r
set_option maxRecDepth 65536 in
theorem rmch3_1 (l : Launch) (Z : State) (a0 : Array Value) (hw : ∀ d ∈ tables_1, d.before a0 Z = true) (ws : List Jvm.Cond) (a1 : Addr) (c0 c1 c2 : Int32) (g1 : Int32) (rS : Value) (h0 : Heap) (n0 : Nat) (Z0 : n0 ≤ h0.size) (T1 : own_Str Z h0 a1 (3 : Int32) (6 : Int32) [c0, c1, c2]) (hb0 : 0 ≤ c0.toInt ∧ c0.toInt < 65536) (hb1 : 0 ≤ c1.toInt ∧ c1.toInt < 65536) (hb2 : 0 ≤ c2.toInt ∧ c2.toInt < 65536) (SC : Sta Z h0 "java/lang/String" "COMPACT_STRINGS" "Z" (.int g1)) (hg1 : ¬ (g1 = (0 : Int32))) (SA : Sta Z h0 "java/lang/StringUTF16" "$assertionsDisabled" "Z" (.int (1 : Int32))) (SHI : Sta Z h0 "java/lang/StringUTF16" "HI_BYTE_SHIFT" "I" (.int (0 : Int32))) (SLO : Sta Z h0 "java/lang/StringUTF16" "LO_BYTE_SHIFT" "I" (.int (8 : Int32))) (SF : Sta Z h0 "jdk/internal/util/Preconditions" "SIOOBE_FORMATTER" "Ljava/util/function/BiFunction;" rS) (hrS : rS.isRef = true) :
    MetFree l mN_7 (head1 (Jvm.Cond.code mN_7 jdk_42_method_56_code 2 (some .char) :: ws) ({ frames := 4, cells := 0, slots := 0, locals := 53 } : Room)) (fun a U => a = #[(.ref a1), (.int (1 : Int32))] ∧ Z.Warmed39 U.vm ∧ U.heap = h0) (fun _ _ _ _ _ => True) (fun _ U o U' => ∃ v L, o = .returned v ∧ (Qv c1 h0 n0) v U'.heap L ∧ FrameEnd U o U' L ({ frames := 4, cells := 0, slots := 0, locals := 53 } : Room).cells ({ frames := 4, cells := 0, slots := 0, locals := 53 } : Room).slots) := by
  obtain ⟨E1, b, kb, Fv, ⟨Fc, Vb, hall⟩ | ⟨Fc, Vb⟩⟩ := T1
  · have r := rmca l Z a0 hw ws a1 (1 : Int32) g1 b kb (3 : Int32) (List.map own_b8 [c0, c1, c2]) rS h0 n0 Z0 E1 Fc Fv Vb (by decide) (by decide) SC hg1 SF hrS
    rw [show own_ch (List.map own_b8 [c0, c1, c2]) (1 : Int32) = c1 from own_ch_eq hb1 (hall c1 (List.mem_of_getElem? (i := 1) rfl))] at r
    exact r
  · have r := rmcu l Z a0 hw ws a1 (1 : Int32) g1 b kb (6 : Int32) (own_u16 [c0, c1, c2]) rS h0 n0 Z0 E1 Fc Fv Vb (by decide) (by decide) (by decide) (by decide) (by decide) (by decide) SC hg1 SA SHI SLO SF hrS
    rw [show own_chu (own_u16 [c0, c1, c2]) (1 : Int32) = c1 from own_gc_eq hb1] at r
    exact r
set_option maxRecDepth 65536 in
theorem rmch3_2 (l : Launch) (Z : State) (a0 : Array Value) (hw : ∀ d ∈ tables_1, d.before a0 Z = true) (ws : List Jvm.Cond) (a1 : Addr) (c0 c1 c2 : Int32) (g1 : Int32) (rS : Value) (h0 : Heap) (n0 : Nat) (Z0 : n0 ≤ h0.size) (T1 : own_Str Z h0 a1 (3 : Int32) (6 : Int32) [c0, c1, c2]) (hb0 : 0 ≤ c0.toInt ∧ c0.toInt < 65536) (hb1 : 0 ≤ c1.toInt ∧ c1.toInt < 65536) (hb2 : 0 ≤ c2.toInt ∧ c2.toInt < 65536) (SC : Sta Z h0 "java/lang/String" "COMPACT_STRINGS" "Z" (.int g1)) (hg1 : ¬ (g1 = (0 : Int32))) (SA : Sta Z h0 "java/lang/StringUTF16" "$assertionsDisabled" "Z" (.int (1 : Int32))) (SHI : Sta Z h0 "java/lang/StringUTF16" "HI_BYTE_SHIFT" "I" (.int (0 : Int32))) (SLO : Sta Z h0 "java/lang/StringUTF16" "LO_BYTE_SHIFT" "I" (.int (8 : Int32))) (SF : Sta Z h0 "jdk/internal/util/Preconditions" "SIOOBE_FORMATTER" "Ljava/util/function/BiFunction;" rS) (hrS : rS.isRef = true) :
    MetFree l mN_7 (head1 (Jvm.Cond.code mN_7 jdk_42_method_56_code 2 (some .char) :: ws) ({ frames := 4, cells := 0, slots := 0, locals := 53 } : Room)) (fun a U => a = #[(.ref a1), (.int (2 : Int32))] ∧ Z.Warmed39 U.vm ∧ U.heap = h0) (fun _ _ _ _ _ => True) (fun _ U o U' => ∃ v L, o = .returned v ∧ (Qv c2 h0 n0) v U'.heap L ∧ FrameEnd U o U' L ({ frames := 4, cells := 0, slots := 0, locals := 53 } : Room).cells ({ frames := 4, cells := 0, slots := 0, locals := 53 } : Room).slots) := by
  obtain ⟨E1, b, kb, Fv, ⟨Fc, Vb, hall⟩ | ⟨Fc, Vb⟩⟩ := T1
  · have r := rmca l Z a0 hw ws a1 (2 : Int32) g1 b kb (3 : Int32) (List.map own_b8 [c0, c1, c2]) rS h0 n0 Z0 E1 Fc Fv Vb (by decide) (by decide) SC hg1 SF hrS
    rw [show own_ch (List.map own_b8 [c0, c1, c2]) (2 : Int32) = c2 from own_ch_eq hb2 (hall c2 (List.mem_of_getElem? (i := 2) rfl))] at r
    exact r
  · have r := rmcu l Z a0 hw ws a1 (2 : Int32) g1 b kb (6 : Int32) (own_u16 [c0, c1, c2]) rS h0 n0 Z0 E1 Fc Fv Vb (by decide) (by decide) (by decide) (by decide) (by decide) (by decide) SC hg1 SA SHI SLO SF hrS
    rw [show own_chu (own_u16 [c0, c1, c2]) (2 : Int32) = c2 from own_gc_eq hb2] at r
    exact r
abbrev mN_11 : MethodName := ⟨"java/lang/StringUTF16", "putChar", "([BII)V"⟩
theorem d19_0 : decode jdk_52_method_4_code 0 = .ok (.getstatic 44, 3) := by decide +kernel
theorem d19_3 : decode jdk_52_method_4_code 3 = .ok (.ifCond .ne 25, 3) := by decide +kernel
theorem d19_28 : decode jdk_52_method_4_code 28 = .ok (.iload_n 1, 1) := by decide +kernel
theorem d19_29 : decode jdk_52_method_4_code 29 = .ok (.iconst 1, 1) := by decide +kernel
theorem d19_30 : decode jdk_52_method_4_code 30 = .ok (.ishl, 1) := by decide +kernel
theorem d19_31 : decode jdk_52_method_4_code 31 = .ok (.istore_n 1, 1) := by decide +kernel
theorem d19_32 : decode jdk_52_method_4_code 32 = .ok (.aload_n 0, 1) := by decide +kernel
theorem d19_33 : decode jdk_52_method_4_code 33 = .ok (.iload_n 1, 1) := by decide +kernel
theorem d19_34 : decode jdk_52_method_4_code 34 = .ok (.iinc 1 1, 3) := by decide +kernel
theorem d19_37 : decode jdk_52_method_4_code 37 = .ok (.iload_n 2, 1) := by decide +kernel
theorem d19_38 : decode jdk_52_method_4_code 38 = .ok (.getstatic 59, 3) := by decide +kernel
theorem d19_41 : decode jdk_52_method_4_code 41 = .ok (.ishr, 1) := by decide +kernel
theorem d19_42 : decode jdk_52_method_4_code 42 = .ok (.i2b, 1) := by decide +kernel
theorem d19_43 : decode jdk_52_method_4_code 43 = .ok (.bastore, 1) := by decide +kernel
theorem d19_44 : decode jdk_52_method_4_code 44 = .ok (.aload_n 0, 1) := by decide +kernel
theorem d19_45 : decode jdk_52_method_4_code 45 = .ok (.iload_n 1, 1) := by decide +kernel
theorem d19_46 : decode jdk_52_method_4_code 46 = .ok (.iload_n 2, 1) := by decide +kernel
theorem d19_47 : decode jdk_52_method_4_code 47 = .ok (.getstatic 63, 3) := by decide +kernel
theorem d19_50 : decode jdk_52_method_4_code 50 = .ok (.ishr, 1) := by decide +kernel
theorem d19_51 : decode jdk_52_method_4_code 51 = .ok (.i2b, 1) := by decide +kernel
theorem d19_52 : decode jdk_52_method_4_code 52 = .ok (.bastore, 1) := by decide +kernel
theorem d19_53 : decode jdk_52_method_4_code 53 = .ok (.return_, 1) := by decide +kernel
theorem ef_pc (m : MethodId) (x0 : Addr) (x1 : Int32) (x2 : Int32) : entryFrame m #[(.ref x0), (.int x1), (.int x2)] 3 = mkF m 0 #[.val (.ref x0), .val (.int x1), .val (.int x2)] [] := by first | (simp [entryFrame, mkF, argsToLocals, Value.category]; done) | rfl
def Qpc (Z : State) (b : Addr) (kb : ClassId) (z p3 : Int32) (cs : List Int32) (kI : Nat) (h0 : Heap) (n0 : Nat) (v : Option Value) (h : Heap) (L : List Loc) : Prop := v = none ∧ Fr n0 L ∧ Keep h0 h [b] ∧ Arv Z h b kb .byte z (((cs.set kI (own_lo8 p3)).set (kI + 1) (own_hi8 p3)).map Value.int) (.int (0 : Int32))
set_option maxRecDepth 65536 in
set_option maxHeartbeats 40000000 in
theorem rmpc (l : Launch) (Z : State) (a0 : Array Value) (hw : ∀ d ∈ tables_1, d.before a0 Z = true) (ws : List Jvm.Cond) (b : Addr) (p2 p3 : Int32) (kb : ClassId) (z : Int32) (cs : List Int32) (kI : Nat) (h0 : Heap) (n0 : Nat) (Z0 : n0 ≤ h0.size) (Vb : Arv Z h0 b kb .byte z (cs.map Value.int) (.int (0 : Int32))) (i1 : ¬ ((p2 <<< ((1 : Int32) &&& 31)) < (0 : Int32))) (i2 : (p2 <<< ((1 : Int32) &&& 31)) < z) (i3 : ¬ (((p2 <<< ((1 : Int32) &&& 31)) + (1 : Int32)) < (0 : Int32))) (i4 : ((p2 <<< ((1 : Int32) &&& 31)) + (1 : Int32)) < z) (q1 : (p2 <<< ((1 : Int32) &&& 31)).toNatClampNeg = kI) (q2 : ((p2 <<< ((1 : Int32) &&& 31)) + (1 : Int32)).toNatClampNeg = kI + 1) (q3 : kI < cs.length) (q4 : kI + 1 < cs.length) (SA : Sta Z h0 "java/lang/StringUTF16" "$assertionsDisabled" "Z" (.int (1 : Int32))) (SHI : Sta Z h0 "java/lang/StringUTF16" "HI_BYTE_SHIFT" "I" (.int (0 : Int32))) (SLO : Sta Z h0 "java/lang/StringUTF16" "LO_BYTE_SHIFT" "I" (.int (8 : Int32))) (g_b : n0 ≤ b) :
    MetFree l mN_11 (head1 (Jvm.Cond.code mN_11 jdk_52_method_4_code 3 none :: ws) ({ frames := 0, cells := 0, slots := 0, locals := 0 } : Room)) (fun a U => a = #[(.ref b), (.int p2), (.int p3)] ∧ Z.Warmed39 U.vm ∧ U.heap = h0) (fun _ _ _ _ _ => True) (fun _ U o U' => ∃ v L, o = .returned v ∧ (Qpc Z b kb z p3 cs kI h0 n0) v U'.heap L ∧ FrameEnd U o U' L ({ frames := 0, cells := 0, slots := 0, locals := 0 } : Room).cells ({ frames := 0, cells := 0, slots := 0, locals := 0 } : Room).slots) := by
  refine MetFree.of_bodySF (plainFor_of_name pn_2) hisR ?_
  intro p e s m args below meth c s₁ Bd hml0 hP hK
  obtain ⟨rfl, hZ, hh⟩ := hP
  have hx := Bd.exec
  have hby := Bd.bytes
  have hml : c.maxLocals = 3 := hml0
  have hown : s.vm.findClass "java/lang/StringUTF16" = some m.cls := findClass_of_methodNamed Bd.named
  have hnm := (name_of_methodNamed Bd.named Bd.method).1
  have hlk := Bd.notSynchronized
  have X0 : Stand p l e ({ frames := 0, cells := 0, slots := 0, locals := 0 } : Room) s m #[(.ref b), (.int p2), (.int p3)] below meth c s₁ [] 0 0 := Stand.of_body Bd
  have e0 : s₁.heap = h0 := by rw [← hh, Bd.state]; rfl
  have N0 := Fr.nil n0
  have KK := Keep.refl h0 [b]
  show own_Ends p e below s FrameEnd (Qpc Z b kb z p3 cs kI h0 n0) 0 0 (s₁.setTop (entryFrame m #[(.ref b), (.int p2), (.int p3)] 3))
  refine own_of (U' := (s₁.setTop (mkF m 0 #[.val (.ref b), .val (.int p2), .val (.int p3)] []))) (fun _ k => castTop (ef_pc m b p2 p3) k) ?_
  obtain ⟨T51, X51, e51, st51⟩ := getS2 X0 hx hZ hown (host := "") (Or.inl (own_w hw 86 rfl)) Via.refl e0 SA (g := (mkF m 0 #[.val (.ref b), .val (.int p2), .val (.int p3)] [])) rfl (hb hby d19_0)
  refine own_of (U' := (T51.setTop (mkF m 3 #[.val (.ref b), .val (.int p2), .val (.int p3)] [(.int (1 : Int32))]))) (st51) ?_
  have hc3_52 : ¬ ((1 : Int32) = (0 : Int32)) := by decide
  refine own_ifYes X51 hx hby 3 28 d19_3 ((if0 _ _).trans (feq hc3_52).2) (by decide) (by decide) ?_
  refine own_iloadN X51 hx hby d19_28 rfl ?_
  refine own_iconst X51 hx hby 1 d19_29 rfl ?_
  refine own_ishl X51 hx hby d19_30 ?_
  refine own_istoreN X51 hx hby d19_31 (l' := #[.val (.ref b), .val (.int (p2 <<< ((1 : Int32) &&& 31))), .val (.int p3)]) rfl ?_
  refine own_aloadN X51 hx hby d19_32 rfl rfl ?_
  refine own_iloadN X51 hx hby d19_33 rfl ?_
  refine own_iinc X51 hx hby d19_34 rfl (l' := #[.val (.ref b), .val (.int ((p2 <<< ((1 : Int32) &&& 31)) + (1 : Int32))), .val (.int p3)]) rfl ?_
  refine own_iloadN X51 hx hby d19_37 rfl ?_
  obtain ⟨T53, X53, e53, st53⟩ := getS2 X51 hx hZ hown (host := "") (Or.inl (own_w hw 87 rfl)) Via.refl e51 SHI (g := (mkF m 38 #[.val (.ref b), .val (.int ((p2 <<< ((1 : Int32) &&& 31)) + (1 : Int32))), .val (.int p3)] [(.int p3), (.int (p2 <<< ((1 : Int32) &&& 31))), (.ref b)])) rfl (hb hby d19_38)
  refine own_of (U' := (T53.setTop (mkF m 41 #[.val (.ref b), .val (.int ((p2 <<< ((1 : Int32) &&& 31)) + (1 : Int32))), .val (.int p3)] [(.int (0 : Int32)), (.int p3), (.int (p2 <<< ((1 : Int32) &&& 31))), (.ref b)]))) (st53) ?_
  refine own_ishr X53 hx hby d19_41 ?_
  refine own_i2b X53 hx hby d19_42 ?_
  obtain ⟨cl54, Ar54, qa54, Sa54, Na54, Ha54, Ga54⟩ := Vb
  have hin54 : ¬ ((p2 <<< ((1 : Int32) &&& 31)) < 0 ∨ cl54.slots.size ≤ ((p2 <<< ((1 : Int32) &&& 31))).toNatClampNeg) := inb_of Sa54 ⟨i1, i2⟩
  obtain ⟨T54, h54, X54, e54, W54, st54⟩ := stB X53 hx hZ e53 Ar54 (j := (p2 <<< ((1 : Int32) &&& 31))) hin54 (g := (mkF m 43 #[.val (.ref b), .val (.int ((p2 <<< ((1 : Int32) &&& 31)) + (1 : Int32))), .val (.int p3)] [(.int ((p3 >>> ((0 : Int32) &&& 31)).toInt8.toInt32)), (.int (p2 <<< ((1 : Int32) &&& 31))), (.ref b)])) rfl rfl (hb hby d19_43)
  replace Vb : Arv Z h54 b kb .byte z ((cs.set kI (own_lo8 p3)).map Value.int) (.int (0 : Int32)) := by rw [List.map_set]; exact Arv.set Ar54 qa54 Sa54 Na54 Ha54 Ga54 (fits_nar_byte _) W54 kI q1 (by rw [List.length_map]; exact q3)
  replace Z0 := Nat.le_trans Z0 (Keep.of_wr W54).1
  replace SA := SA.wr W54
  replace SHI := SHI.wr W54
  replace SLO := SLO.wr W54
  replace KK := KK.wr W54 (Or.inl (List.mem_of_getElem? (i := 0) rfl))
  have N54 := Fr.snoc X54 N0 g_b
  refine own_of (U' := (T54.setTop (mkF m 44 #[.val (.ref b), .val (.int ((p2 <<< ((1 : Int32) &&& 31)) + (1 : Int32))), .val (.int p3)] []))) (st54) ?_
  refine own_aloadN X54 hx hby d19_44 rfl rfl ?_
  refine own_iloadN X54 hx hby d19_45 rfl ?_
  refine own_iloadN X54 hx hby d19_46 rfl ?_
  obtain ⟨T55, X55, e55, st55⟩ := getS2 X54 hx hZ hown (host := "") (Or.inl (own_w hw 88 rfl)) Via.refl e54 SLO (g := (mkF m 47 #[.val (.ref b), .val (.int ((p2 <<< ((1 : Int32) &&& 31)) + (1 : Int32))), .val (.int p3)] [(.int p3), (.int ((p2 <<< ((1 : Int32) &&& 31)) + (1 : Int32))), (.ref b)])) rfl (hb hby d19_47)
  refine own_of (U' := (T55.setTop (mkF m 50 #[.val (.ref b), .val (.int ((p2 <<< ((1 : Int32) &&& 31)) + (1 : Int32))), .val (.int p3)] [(.int (8 : Int32)), (.int p3), (.int ((p2 <<< ((1 : Int32) &&& 31)) + (1 : Int32))), (.ref b)]))) (st55) ?_
  refine own_ishr X55 hx hby d19_50 ?_
  refine own_i2b X55 hx hby d19_51 ?_
  obtain ⟨cl56, Ar56, qa56, Sa56, Na56, Ha56, Ga56⟩ := Vb
  have hin56 : ¬ (((p2 <<< ((1 : Int32) &&& 31)) + (1 : Int32)) < 0 ∨ cl56.slots.size ≤ (((p2 <<< ((1 : Int32) &&& 31)) + (1 : Int32))).toNatClampNeg) := inb_of Sa56 ⟨i3, i4⟩
  obtain ⟨T56, h56, X56, e56, W56, st56⟩ := stB X55 hx hZ e55 Ar56 (j := ((p2 <<< ((1 : Int32) &&& 31)) + (1 : Int32))) hin56 (g := (mkF m 52 #[.val (.ref b), .val (.int ((p2 <<< ((1 : Int32) &&& 31)) + (1 : Int32))), .val (.int p3)] [(.int ((p3 >>> ((8 : Int32) &&& 31)).toInt8.toInt32)), (.int ((p2 <<< ((1 : Int32) &&& 31)) + (1 : Int32))), (.ref b)])) rfl rfl (hb hby d19_52)
  replace Vb : Arv Z h56 b kb .byte z (((cs.set kI (own_lo8 p3)).set (kI + 1) (own_hi8 p3)).map Value.int) (.int (0 : Int32)) := by rw [List.map_set]; exact Arv.set Ar56 qa56 Sa56 Na56 Ha56 Ga56 (fits_nar_byte _) W56 (kI + 1) q2 (by rw [List.length_map, List.length_set]; exact q4)
  replace Z0 := Nat.le_trans Z0 (Keep.of_wr W56).1
  replace SA := SA.wr W56
  replace SHI := SHI.wr W56
  replace SLO := SLO.wr W56
  replace KK := KK.wr W56 (Or.inl (List.mem_of_getElem? (i := 0) rfl))
  have N56 := Fr.snoc X56 N54 g_b
  refine own_of (U' := (T56.setTop (mkF m 53 #[.val (.ref b), .val (.int ((p2 <<< ((1 : Int32) &&& 31)) + (1 : Int32))), .val (.int p3)] []))) (st56) ?_
  exact own_ret0 X56 hx hlk Bd.returns (hb hby d19_53) (by decide) (by decide) (by rw [e56]; exact ⟨rfl, N56, KK, Vb⟩)
abbrev mN_12 : MethodName := ⟨"java/lang/StringUTF16", "newBytesLength", "(I)I"⟩
theorem d18_0 : decode jdk_52_method_3_code 0 = .ok (.iload_n 0, 1) := by decide +kernel
theorem d18_1 : decode jdk_52_method_3_code 1 = .ok (.ifCond .ge 11, 3) := by decide +kernel
theorem d18_12 : decode jdk_52_method_3_code 12 = .ok (.iload_n 0, 1) := by decide +kernel
theorem d18_13 : decode jdk_52_method_3_code 13 = .ok (.ldc 20, 2) := by decide +kernel
theorem d18_15 : decode jdk_52_method_3_code 15 = .ok (.if_icmp .lt 40, 3) := by decide +kernel
theorem d18_55 : decode jdk_52_method_3_code 55 = .ok (.iload_n 0, 1) := by decide +kernel
theorem d18_56 : decode jdk_52_method_3_code 56 = .ok (.iconst 1, 1) := by decide +kernel
theorem d18_57 : decode jdk_52_method_3_code 57 = .ok (.ishl, 1) := by decide +kernel
theorem d18_58 : decode jdk_52_method_3_code 58 = .ok (.ireturn, 1) := by decide +kernel
theorem ef_nl1 (m : MethodId)  : entryFrame m #[(.int (1 : Int32))] 1 = mkF m 0 #[.val (.int (1 : Int32))] [] := by first | (simp [entryFrame, mkF, argsToLocals, Value.category]; done) | rfl
set_option maxRecDepth 65536 in
set_option maxHeartbeats 40000000 in
theorem rmnl1 (l : Launch) (Z : State) (a0 : Array Value) (hw : ∀ d ∈ tables_1, d.before a0 Z = true) (ws : List Jvm.Cond)  (h0 : Heap) (n0 : Nat) (Z0 : n0 ≤ h0.size)  :
    MetFree l mN_12 (head1 (Jvm.Cond.code mN_12 jdk_52_method_3_code 1 (some .int) :: ws) ({ frames := 0, cells := 0, slots := 0, locals := 0 } : Room)) (fun a U => a = #[(.int (1 : Int32))] ∧ Z.Warmed39 U.vm ∧ U.heap = h0) (fun _ _ _ _ _ => True) (fun _ U o U' => ∃ v L, o = .returned v ∧ (Qv 2 h0 n0) v U'.heap L ∧ FrameEnd U o U' L ({ frames := 0, cells := 0, slots := 0, locals := 0 } : Room).cells ({ frames := 0, cells := 0, slots := 0, locals := 0 } : Room).slots) := by
  refine MetFree.of_bodySF (plainFor_of_name pn_2) hisR ?_
  intro p e s m args below meth c s₁ Bd hml0 hP hK
  obtain ⟨rfl, hZ, hh⟩ := hP
  have hx := Bd.exec
  have hby := Bd.bytes
  have hml : c.maxLocals = 1 := hml0
  have hown : s.vm.findClass "java/lang/StringUTF16" = some m.cls := findClass_of_methodNamed Bd.named
  have hnm := (name_of_methodNamed Bd.named Bd.method).1
  have hlk := Bd.notSynchronized
  have X0 : Stand p l e ({ frames := 0, cells := 0, slots := 0, locals := 0 } : Room) s m #[(.int (1 : Int32))] below meth c s₁ [] 0 0 := Stand.of_body Bd
  have e0 : s₁.heap = h0 := by rw [← hh, Bd.state]; rfl
  have N0 := Fr.nil n0
  show own_Ends p e below s FrameEnd (Qv 2 h0 n0) 0 0 (s₁.setTop (entryFrame m #[(.int (1 : Int32))] 1))
  refine own_of (U' := (s₁.setTop (mkF m 0 #[.val (.int (1 : Int32))] []))) (fun _ k => castTop (ef_nl1 m) k) ?_
  refine own_iloadN X0 hx hby d18_0 rfl ?_
  have hc1_57 : ¬ ((1 : Int32) < (0 : Int32)) := by decide
  refine own_ifYes X0 hx hby 1 12 d18_1 ((if0 _ _).trans (flt hc1_57).2.1) (by decide) (by decide) ?_
  refine own_iloadN X0 hx hby d18_12 rfl ?_
  refine own_of (U' := (s₁.setTop (mkF m 15 #[.val (.int (1 : Int32))] [(.int (1073741823 : Int32)), (.int (1 : Int32))]))) (X0.ldcInt hx hown (mvT hZ (own_w hw 82 rfl)) (g := (mkF m 13 #[.val (.int (1 : Int32))] [(.int (1 : Int32))])) rfl (hb hby d18_13)) ?_
  have hc15_58 : (1 : Int32) < (1073741823 : Int32) := by decide
  refine own_icmpYes X0 hx hby 15 55 d18_15 (tlt hc15_58).1 (by decide) (by decide) ?_
  refine own_iloadN X0 hx hby d18_55 rfl ?_
  refine own_iconst X0 hx hby 1 d18_56 rfl ?_
  refine own_ishl X0 hx hby d18_57 ?_
  refine own_eq (U' := (s₁.setTop (mkF m 58 #[.val (.int (1 : Int32))] [(.int (2 : Int32))]))) (by rw [show ((1 : Int32) <<< ((1 : Int32) &&& 31)) = (2 : Int32) by decide]) ?_
  exact own_retI X0 hx hlk Bd.returns (hb hby d18_58) (by decide) (by decide) (⟨rfl, N0, e0⟩)
abbrev mN_13 : MethodName := ⟨"java/lang/StringUTF16", "newBytesFor", "(I)[B"⟩
theorem pd_7 : parseMethodDescriptor "(I)I" = some ⟨[.int], some .int⟩ := by decide +kernel
theorem d17_0 : decode jdk_52_method_2_code 0 = .ok (.iload_n 0, 1) := by decide +kernel
theorem d17_1 : decode jdk_52_method_2_code 1 = .ok (.invokestatic 11, 3) := by decide +kernel
theorem d17_4 : decode jdk_52_method_2_code 4 = .ok (.newarray .byte, 2) := by decide +kernel
theorem d17_6 : decode jdk_52_method_2_code 6 = .ok (.areturn, 1) := by decide +kernel
theorem ef_nb1 (m : MethodId)  : entryFrame m #[(.int (1 : Int32))] 1 = mkF m 0 #[.val (.int (1 : Int32))] [] := by first | (simp [entryFrame, mkF, argsToLocals, Value.category]; done) | rfl
def Qnb1 (Z : State) (h0 : Heap) (n0 : Nat) (v : Option Value) (h : Heap) (L : List Loc) : Prop := ∃ (b : Addr) (kb : ClassId), v = some (.ref b) ∧ Fr n0 L ∧ Keep h0 h [] ∧ h0.size ≤ b ∧ Arv Z h b kb .byte (2 : Int32) [(.int (0 : Int32)), (.int (0 : Int32))] (.int (0 : Int32))
set_option maxRecDepth 65536 in
set_option maxHeartbeats 40000000 in
theorem rmnb1 (l : Launch) (Z : State) (a0 : Array Value) (hw : ∀ d ∈ tables_1, d.before a0 Z = true) (ws : List Jvm.Cond)  (h0 : Heap) (n0 : Nat) (Z0 : n0 ≤ h0.size)  :
    MetFree l mN_13 (head1 (Jvm.Cond.code mN_13 jdk_52_method_2_code 1 (some (.array .byte)) :: ws) ({ frames := 1, cells := 1, slots := 2, locals := 12 } : Room)) (fun a U => a = #[(.int (1 : Int32))] ∧ Z.Warmed39 U.vm ∧ U.heap = h0) (fun _ _ _ _ _ => True) (fun _ U o U' => ∃ v L, o = .returned v ∧ (Qnb1 Z h0 n0) v U'.heap L ∧ FrameEnd U o U' L ({ frames := 1, cells := 1, slots := 2, locals := 12 } : Room).cells ({ frames := 1, cells := 1, slots := 2, locals := 12 } : Room).slots) := by
  refine MetFree.of_bodySF (plainFor_of_name pn_2) hisR ?_
  intro p e s m args below meth c s₁ Bd hml0 hP hK
  obtain ⟨rfl, hZ, hh⟩ := hP
  have hx := Bd.exec
  have hby := Bd.bytes
  have hml : c.maxLocals = 1 := hml0
  have hown : s.vm.findClass "java/lang/StringUTF16" = some m.cls := findClass_of_methodNamed Bd.named
  have hnm := (name_of_methodNamed Bd.named Bd.method).1
  have hlk := Bd.notSynchronized
  have X0 : Stand p l e ({ frames := 1, cells := 1, slots := 2, locals := 12 } : Room) s m #[(.int (1 : Int32))] below meth c s₁ [] 0 0 := Stand.of_body Bd
  have e0 : s₁.heap = h0 := by rw [← hh, Bd.state]; rfl
  have N0 := Fr.nil n0
  have KK := Keep.refl h0 []
  show own_Ends p e below s FrameEnd (Qnb1 Z h0 n0) 1 2 (s₁.setTop (entryFrame m #[(.int (1 : Int32))] 1))
  refine own_of (U' := (s₁.setTop (mkF m 0 #[.val (.int (1 : Int32))] []))) (fun _ k => castTop (ef_nb1 m) k) ?_
  refine own_iloadN X0 hx hby d17_0 rfl ?_
  obtain ⟨_, _, ⟨T59, L59, k59, n59⟩, -, X59, ⟨Lc59, hQ59, l59, y59, z59⟩, st59⟩ := Jvm.LawKit.callS X0 hx (y := mN_12) hown (mvT hZ (own_w hw 79 rfl)) (mvT hZ (own_w hw 80 rfl)) (mvT hZ (own_w hw 39 rfl)) (mvT hZ (own_w hw 81 rfl)) (by decide) (backOf (W := 0) (rmnl1 l Z a0 hw []  h0 n0 Z0 ) hZ (own_w hw 81 rfl) (own_w hw 39 rfl) (by decide) (by decide)) (g := (mkF m 1 #[.val (.int (1 : Int32))] [(.int (1 : Int32))])) rfl (by rw [hml]; rfl) (argsL := [(.int (1 : Int32))]) (rest := []) (lenOf pd_7 rfl) rfl (by show 2 * 0 + _ ≤ _; exact Nat.le_of_eq rfl) (hb hby d17_1) (fun _ _ => ⟨rfl, e0, (by decide : 0 + 0 ≤ _), (by decide : 0 + 0 ≤ _)⟩)
  dsimp only [Pt.U, Pt.locs, Pt.cells, Pt.slots] at X59 l59 y59 z59 st59 hQ59
  subst l59 y59 z59
  obtain ⟨rfl, Nq59, e59⟩ := hQ59
  have N59 := Fr.app N0 Nq59
  refine own_of (U' := (T59.setTop (mkF m 4 #[.val (.int (1 : Int32))] [(.int (2 : Int32))]))) (st59) ?_
  obtain ⟨T60, h60, k60, X60, e60, E60, A60, st60⟩ := newP X59 hx hZ (own_w hw 15 rfl) e59 (g := (mkF m 4 #[.val (.int (1 : Int32))] [(.int (2 : Int32))])) rfl (hb hby d17_4) rfl (by decide) (cap := 2) (by decide) (by decide) (by decide) (by decide)
  obtain ⟨b60, gz60⟩ : ∃ z, z = h0.size := ⟨_, rfl⟩
  rw [← gz60] at A60 st60
  have g_b60 : n0 ≤ b60 := Nat.le_trans Z0 (Nat.le_of_eq gz60.symm)
  have sz_b60 : h0.size ≤ b60 := Nat.le_trans KK.1 (Nat.le_of_eq gz60.symm)
  replace Z0 := Nat.le_trans Z0 E60.1
  replace KK := KK.ext E60
  have V60 : Arv Z h60 b60 k60 .byte (2 : Int32) [(.int (0 : Int32)), (.int (0 : Int32))] (.int (0 : Int32)) := (Arv.new A60 (by decide)).pad (pad_rep [] (.int (0 : Int32)) 2)
  refine own_of (U' := (T60.setTop (mkF m 6 #[.val (.int (1 : Int32))] [(.ref b60)]))) (st60) ?_
  exact own_retA X60 hx hlk Bd.returns rfl rfl (hb hby d17_6) (by decide) (by decide) (by rw [e60]; exact ⟨b60, k60, rfl, N59, KK, sz_b60, V60⟩)
abbrev mN_14 : MethodName := ⟨"java/lang/StringUTF16", "toBytes", "([CII)[B"⟩
theorem pd_8 : parseMethodDescriptor "(I)[B" = some ⟨[.int], some (.array .byte)⟩ := by decide +kernel
theorem pd_9 : parseMethodDescriptor "([BII)V" = some ⟨[(.array .byte), .int, .int], none⟩ := by decide +kernel
theorem d16_0 : decode jdk_52_method_14_code 0 = .ok (.iload_n 2, 1) := by decide +kernel
theorem d16_1 : decode jdk_52_method_14_code 1 = .ok (.invokestatic 107, 3) := by decide +kernel
theorem d16_4 : decode jdk_52_method_14_code 4 = .ok (.astore_n 3, 1) := by decide +kernel
theorem d16_5 : decode jdk_52_method_14_code 5 = .ok (.iconst 0, 1) := by decide +kernel
theorem d16_6 : decode jdk_52_method_14_code 6 = .ok (.istore 4, 2) := by decide +kernel
theorem d16_8 : decode jdk_52_method_14_code 8 = .ok (.iload 4, 2) := by decide +kernel
theorem d16_10 : decode jdk_52_method_14_code 10 = .ok (.iload_n 2, 1) := by decide +kernel
theorem d16_11 : decode jdk_52_method_14_code 11 = .ok (.if_icmp .ge 21, 3) := by decide +kernel
theorem d16_14 : decode jdk_52_method_14_code 14 = .ok (.aload_n 3, 1) := by decide +kernel
theorem d16_15 : decode jdk_52_method_14_code 15 = .ok (.iload 4, 2) := by decide +kernel
theorem d16_17 : decode jdk_52_method_14_code 17 = .ok (.aload_n 0, 1) := by decide +kernel
theorem d16_18 : decode jdk_52_method_14_code 18 = .ok (.iload_n 1, 1) := by decide +kernel
theorem d16_19 : decode jdk_52_method_14_code 19 = .ok (.caload, 1) := by decide +kernel
theorem d16_20 : decode jdk_52_method_14_code 20 = .ok (.invokestatic 111, 3) := by decide +kernel
theorem d16_23 : decode jdk_52_method_14_code 23 = .ok (.iinc 1 1, 3) := by decide +kernel
theorem d16_26 : decode jdk_52_method_14_code 26 = .ok (.iinc 4 1, 3) := by decide +kernel
theorem d16_29 : decode jdk_52_method_14_code 29 = .ok (.goto (-21), 3) := by decide +kernel
theorem d16_32 : decode jdk_52_method_14_code 32 = .ok (.aload_n 3, 1) := by decide +kernel
theorem d16_33 : decode jdk_52_method_14_code 33 = .ok (.areturn, 1) := by decide +kernel
theorem ef_tb1 (m : MethodId) (x0 : Addr) : entryFrame m #[(.ref x0), (.int (0 : Int32)), (.int (1 : Int32))] 5 = mkF m 0 #[.val (.ref x0), .val (.int (0 : Int32)), .val (.int (1 : Int32)), .unset, .unset] [] := by first | (simp [entryFrame, mkF, argsToLocals, Value.category]; done) | rfl
def Qtb1 (Z : State) (c0 : Int32) (h0 : Heap) (n0 : Nat) (v : Option Value) (h : Heap) (L : List Loc) : Prop := ∃ (b : Addr) (kb : ClassId), v = some (.ref b) ∧ Fr n0 L ∧ Keep h0 h [] ∧ h0.size ≤ b ∧ Arv Z h b kb .byte (2 : Int32) [(.int (own_lo8 c0)), (.int (own_hi8 c0))] (.int (0 : Int32))
set_option maxRecDepth 65536 in
set_option maxHeartbeats 40000000 in
theorem rmtb1 (l : Launch) (Z : State) (a0 : Array Value) (hw : ∀ d ∈ tables_1, d.before a0 Z = true) (ws : List Jvm.Cond) (a1 : Addr) (kc : ClassId) (c0 : Int32) (h0 : Heap) (n0 : Nat) (Z0 : n0 ≤ h0.size) (Vc : Arv Z h0 a1 kc .char (1 : Int32) [(.int c0)] (.int (0 : Int32))) (SA : Sta Z h0 "java/lang/StringUTF16" "$assertionsDisabled" "Z" (.int (1 : Int32))) (SHI : Sta Z h0 "java/lang/StringUTF16" "HI_BYTE_SHIFT" "I" (.int (0 : Int32))) (SLO : Sta Z h0 "java/lang/StringUTF16" "LO_BYTE_SHIFT" "I" (.int (8 : Int32))) :
    MetFree l mN_14 (head1 (Jvm.Cond.code mN_14 jdk_52_method_14_code 5 (some (.array .byte)) :: ws) ({ frames := 2, cells := 1, slots := 2, locals := 24 } : Room)) (fun a U => a = #[(.ref a1), (.int (0 : Int32)), (.int (1 : Int32))] ∧ Z.Warmed39 U.vm ∧ U.heap = h0) (fun _ _ _ _ _ => True) (fun _ U o U' => ∃ v L, o = .returned v ∧ (Qtb1 Z c0 h0 n0) v U'.heap L ∧ FrameEnd U o U' L ({ frames := 2, cells := 1, slots := 2, locals := 24 } : Room).cells ({ frames := 2, cells := 1, slots := 2, locals := 24 } : Room).slots) := by
  refine MetFree.of_bodySF (plainFor_of_name pn_2) hisR ?_
  intro p e s m args below meth c s₁ Bd hml0 hP hK
  obtain ⟨rfl, hZ, hh⟩ := hP
  have hx := Bd.exec
  have hby := Bd.bytes
  have hml : c.maxLocals = 5 := hml0
  have hown : s.vm.findClass "java/lang/StringUTF16" = some m.cls := findClass_of_methodNamed Bd.named
  have hnm := (name_of_methodNamed Bd.named Bd.method).1
  have hlk := Bd.notSynchronized
  have X0 : Stand p l e ({ frames := 2, cells := 1, slots := 2, locals := 24 } : Room) s m #[(.ref a1), (.int (0 : Int32)), (.int (1 : Int32))] below meth c s₁ [] 0 0 := Stand.of_body Bd
  have e0 : s₁.heap = h0 := by rw [← hh, Bd.state]; rfl
  have N0 := Fr.nil n0
  have KK := Keep.refl h0 []
  show own_Ends p e below s FrameEnd (Qtb1 Z c0 h0 n0) 1 2 (s₁.setTop (entryFrame m #[(.ref a1), (.int (0 : Int32)), (.int (1 : Int32))] 5))
  refine own_of (U' := (s₁.setTop (mkF m 0 #[.val (.ref a1), .val (.int (0 : Int32)), .val (.int (1 : Int32)), .unset, .unset] []))) (fun _ k => castTop (ef_tb1 m a1) k) ?_
  refine own_iloadN X0 hx hby d16_0 rfl ?_
  obtain ⟨_, _, ⟨T61, L61, k61, n61⟩, -, X61, ⟨Lc61, hQ61, l61, y61, z61⟩, st61⟩ := Jvm.LawKit.callS X0 hx (y := mN_13) hown (mvT hZ (own_w hw 76 rfl)) (mvT hZ (own_w hw 77 rfl)) (mvT hZ (own_w hw 39 rfl)) (mvT hZ (own_w hw 78 rfl)) (by decide) (backOf (W := 0) (rmnb1 l Z a0 hw []  h0 n0 Z0 ) hZ (own_w hw 78 rfl) (own_w hw 39 rfl) (by decide) (by decide)) (g := (mkF m 1 #[.val (.ref a1), .val (.int (0 : Int32)), .val (.int (1 : Int32)), .unset, .unset] [(.int (1 : Int32))])) rfl (by rw [hml]; rfl) (argsL := [(.int (1 : Int32))]) (rest := []) (lenOf pd_8 rfl) rfl (by show 2 * 0 + _ ≤ _; exact Nat.le_of_eq rfl) (hb hby d16_1) (fun _ _ => ⟨rfl, e0, (by decide : 0 + 1 ≤ _), (by decide : 0 + 2 ≤ _)⟩)
  dsimp only [Pt.U, Pt.locs, Pt.cells, Pt.slots] at X61 l61 y61 z61 st61 hQ61
  subst l61 y61 z61
  obtain ⟨u61, ku61, rfl, Nq61, Kp61, gq61, Vq61⟩ := hQ61
  have g_u61 : n0 ≤ u61 := Nat.le_trans Z0 gq61
  have sz_u61 : h0.size ≤ u61 := Nat.le_trans KK.1 gq61
  have ne_a1_u61 : a1 ≠ u61 := Nat.ne_of_lt (Nat.lt_of_lt_of_le Vc.lt gq61)
  have N61 := Fr.app N0 Nq61
  replace Z0 := Nat.le_trans Z0 Kp61.1
  replace Vc := Vc.keep Kp61 nin0
  replace SA := own_staKeep SA Kp61 ns0
  replace SHI := own_staKeep SHI Kp61 ns0
  replace SLO := own_staKeep SLO Kp61 ns0
  replace KK := KK.trans Kp61 all0
  refine own_of (U' := (T61.setTop (mkF m 4 #[.val (.ref a1), .val (.int (0 : Int32)), .val (.int (1 : Int32)), .unset, .unset] [(.ref u61)]))) (st61) ?_
  refine own_astoreN X61 hx hby d16_4 rfl (l' := #[.val (.ref a1), .val (.int (0 : Int32)), .val (.int (1 : Int32)), .val (.ref u61), .unset]) rfl ?_
  refine own_iconst X61 hx hby 0 d16_5 rfl ?_
  refine own_istore X61 hx hby d16_6 (l' := #[.val (.ref a1), .val (.int (0 : Int32)), .val (.int (1 : Int32)), .val (.ref u61), .val (.int (0 : Int32))]) rfl ?_
  refine own_iload X61 hx hby d16_8 rfl ?_
  refine own_iloadN X61 hx hby d16_10 rfl ?_
  have hc11_62 : (0 : Int32) < (1 : Int32) := by decide
  refine own_icmpNo X61 hx hby d16_11 (tlt hc11_62).2.1 ?_
  refine own_aloadN X61 hx hby d16_14 rfl rfl ?_
  refine own_iload X61 hx hby d16_15 rfl ?_
  refine own_aloadN X61 hx hby d16_17 rfl rfl ?_
  refine own_iloadN X61 hx hby d16_18 rfl ?_
  obtain ⟨cl63, Ar63, qa63, Sa63, Na63, Ha63, Ga63⟩ := id Vc
  have hin63 : ¬ ((0 : Int32) < 0 ∨ cl63.slots.size ≤ ((0 : Int32)).toNatClampNeg) := inb_of Sa63 ⟨by decide, by decide⟩
  have hat63 : cl63.slots[((0 : Int32)).toNatClampNeg]? = some (.int c0) := Has.at Ha63 hin63 rfl
  refine own_of (U' := (T61.setTop (mkF m 20 #[.val (.ref a1), .val (.int (0 : Int32)), .val (.int (1 : Int32)), .val (.ref u61), .val (.int (0 : Int32))] [(.int c0), (.int (0 : Int32)), (.ref u61)]))) (X61.caload hx (j := (0 : Int32)) (v := (.int c0)) Ar63.1 (State.isArrayOf_alike hZ.alike Ar63.2.1) Ar63.2.2 hin63 hat63 (g := (mkF m 19 #[.val (.ref a1), .val (.int (0 : Int32)), .val (.int (1 : Int32)), .val (.ref u61), .val (.int (0 : Int32))] [(.int (0 : Int32)), (.ref a1), (.int (0 : Int32)), (.ref u61)])) rfl rfl (hb hby d16_19)) ?_
  obtain ⟨_, _, ⟨T64, L64, k64, n64⟩, -, X64, ⟨Lc64, hQ64, l64, y64, z64⟩, st64⟩ := Jvm.LawKit.callS X61 hx (y := mN_11) hown (mvT hZ (own_w hw 83 rfl)) (mvT hZ (own_w hw 84 rfl)) (mvT hZ (own_w hw 39 rfl)) (mvT hZ (own_w hw 85 rfl)) (by decide) (backOf (W := 0) (rmpc l Z a0 hw [] u61 (0 : Int32) c0 ku61 (2 : Int32) [(0 : Int32), (0 : Int32)] 0 T61.heap n0 Z0 Vq61 (by decide) (by decide) (by decide) (by decide) (by decide) (by decide) (Nat.le_of_ble_eq_true rfl) (Nat.le_of_ble_eq_true rfl) SA SHI SLO g_u61) hZ (own_w hw 85 rfl) (own_w hw 39 rfl) (by decide) (by decide)) (g := (mkF m 20 #[.val (.ref a1), .val (.int (0 : Int32)), .val (.int (1 : Int32)), .val (.ref u61), .val (.int (0 : Int32))] [(.int c0), (.int (0 : Int32)), (.ref u61)])) rfl (by rw [hml]; rfl) (argsL := [(.ref u61), (.int (0 : Int32)), (.int c0)]) (rest := []) (lenOf pd_9 rfl) rfl (by show 2 * 0 + _ ≤ _; exact Nat.le_of_eq rfl) (hb hby d16_20) (fun _ _ => ⟨rfl, rfl, (by decide : 1 + 0 ≤ _), (by decide : 2 + 0 ≤ _)⟩)
  dsimp only [Pt.U, Pt.locs, Pt.cells, Pt.slots] at X64 l64 y64 z64 st64 hQ64
  subst l64 y64 z64
  obtain ⟨rfl, Nq64, Kp64, Vq64⟩ := hQ64
  have N64 := Fr.app N61 Nq64
  have nst_u61 := Vq61.nostat
  replace Z0 := Nat.le_trans Z0 Kp64.1
  replace Vc := Vc.keep Kp64 (ninS ne_a1_u61 nin0)
  replace SA := own_staKeep SA Kp64 (nsS nst_u61 ns0)
  replace SHI := own_staKeep SHI Kp64 (nsS nst_u61 ns0)
  replace SLO := own_staKeep SLO Kp64 (nsS nst_u61 ns0)
  replace KK := KK.trans Kp64 (allS (Or.inr sz_u61) all0)
  have V64 : Arv Z T64.heap u61 ku61 .byte (2 : Int32) [(.int (own_lo8 c0)), (.int (own_hi8 c0))] (.int (0 : Int32)) := Vq64
  refine own_of (U' := (T64.setTop (mkF m 23 #[.val (.ref a1), .val (.int (0 : Int32)), .val (.int (1 : Int32)), .val (.ref u61), .val (.int (0 : Int32))] []))) (st64) ?_
  refine own_iinc X64 hx hby d16_23 rfl (l' := #[.val (.ref a1), .val (.int ((0 : Int32) + (1 : Int32))), .val (.int (1 : Int32)), .val (.ref u61), .val (.int (0 : Int32))]) rfl ?_
  refine own_eq (U' := (T64.setTop (mkF m 26 #[.val (.ref a1), .val (.int (1 : Int32)), .val (.int (1 : Int32)), .val (.ref u61), .val (.int (0 : Int32))] []))) (by rw [show ((0 : Int32) + (1 : Int32)) = (1 : Int32) by decide]) ?_
  refine own_iinc X64 hx hby d16_26 rfl (l' := #[.val (.ref a1), .val (.int (1 : Int32)), .val (.int (1 : Int32)), .val (.ref u61), .val (.int ((0 : Int32) + (1 : Int32)))]) rfl ?_
  refine own_eq (U' := (T64.setTop (mkF m 29 #[.val (.ref a1), .val (.int (1 : Int32)), .val (.int (1 : Int32)), .val (.ref u61), .val (.int (1 : Int32))] []))) (by rw [show ((0 : Int32) + (1 : Int32)) = (1 : Int32) by decide]) ?_
  refine own_goto X64 hx hby 29 8 d16_29 (by decide) (by decide) ?_
  refine own_iload X64 hx hby d16_8 rfl ?_
  refine own_iloadN X64 hx hby d16_10 rfl ?_
  have hc11_65 : ¬ ((1 : Int32) < (1 : Int32)) := by decide
  refine own_icmpYes X64 hx hby 11 32 d16_11 (flt hc11_65).2.1 (by decide) (by decide) ?_
  refine own_aloadN X64 hx hby d16_32 rfl rfl ?_
  exact own_retA X64 hx hlk Bd.returns rfl rfl (hb hby d16_33) (by decide) (by decide) (⟨u61, ku61, rfl, N64, KK, sz_u61, V64⟩)
abbrev mN_15 : MethodName := ⟨"java/lang/StringUTF16", "compress", "([CI[BII)I"⟩
theorem d8_0 : decode jdk_52_method_21_code 0 = .ok (.iconst 0, 1) := by decide +kernel
theorem d8_1 : decode jdk_52_method_21_code 1 = .ok (.istore 5, 2) := by decide +kernel
theorem d8_3 : decode jdk_52_method_21_code 3 = .ok (.iload 5, 2) := by decide +kernel
theorem d8_5 : decode jdk_52_method_21_code 5 = .ok (.iload 4, 2) := by decide +kernel
theorem d8_7 : decode jdk_52_method_21_code 7 = .ok (.if_icmp .ge 37, 3) := by decide +kernel
theorem d8_10 : decode jdk_52_method_21_code 10 = .ok (.aload_n 0, 1) := by decide +kernel
theorem d8_11 : decode jdk_52_method_21_code 11 = .ok (.iload_n 1, 1) := by decide +kernel
theorem d8_12 : decode jdk_52_method_21_code 12 = .ok (.caload, 1) := by decide +kernel
theorem d8_13 : decode jdk_52_method_21_code 13 = .ok (.istore 6, 2) := by decide +kernel
theorem d8_15 : decode jdk_52_method_21_code 15 = .ok (.iload 6, 2) := by decide +kernel
theorem d8_17 : decode jdk_52_method_21_code 17 = .ok (.sipush 255, 3) := by decide +kernel
theorem d8_20 : decode jdk_52_method_21_code 20 = .ok (.if_icmp .le 6, 3) := by decide +kernel
theorem d8_23 : decode jdk_52_method_21_code 23 = .ok (.iload 5, 2) := by decide +kernel
theorem d8_25 : decode jdk_52_method_21_code 25 = .ok (.ireturn, 1) := by decide +kernel
theorem ef_cl1_0 (m : MethodId) (x0 : Addr) (x2 : Addr) : entryFrame m #[(.ref x0), (.int (0 : Int32)), (.ref x2), (.int (0 : Int32)), (.int (1 : Int32))] 7 = mkF m 0 #[.val (.ref x0), .val (.int (0 : Int32)), .val (.ref x2), .val (.int (0 : Int32)), .val (.int (1 : Int32)), .unset, .unset] [] := by first | (simp [entryFrame, mkF, argsToLocals, Value.category]; done) | rfl
def Qcl1_0 (Z : State) (a3 : Addr) (kd : ClassId) (c0 : Int32) (h0 : Heap) (n0 : Nat) (v : Option Value) (h : Heap) (L : List Loc) : Prop := v = some (.int (0 : Int32)) ∧ Fr n0 L ∧ Keep h0 h [a3] ∧ Arv Z h a3 kd .byte (1 : Int32) [(.int (0 : Int32))] (.int (0 : Int32))
set_option maxRecDepth 65536 in
set_option maxHeartbeats 40000000 in
theorem rmcl1_0 (l : Launch) (Z : State) (a0 : Array Value) (hw : ∀ d ∈ tables_1, d.before a0 Z = true) (ws : List Jvm.Cond) (a1 a3 : Addr) (kc kd : ClassId) (c0 : Int32) (h0 : Heap) (n0 : Nat) (Z0 : n0 ≤ h0.size) (Vc : Arv Z h0 a1 kc .char (1 : Int32) [(.int c0)] (.int (0 : Int32))) (Vd : Arv Z h0 a3 kd .byte (1 : Int32) [(.int (0 : Int32))] (.int (0 : Int32))) (g_a3 : n0 ≤ a3) (nea : a1 ≠ a3)  (hB : (255 : Int32) < c0) :
    MetFree l mN_15 (head1 (Jvm.Cond.code mN_15 jdk_52_method_21_code 7 (some .int) :: ws) ({ frames := 0, cells := 0, slots := 0, locals := 0 } : Room)) (fun a U => a = #[(.ref a1), (.int (0 : Int32)), (.ref a3), (.int (0 : Int32)), (.int (1 : Int32))] ∧ Z.Warmed39 U.vm ∧ U.heap = h0) (fun _ _ _ _ _ => True) (fun _ U o U' => ∃ v L, o = .returned v ∧ (Qcl1_0 Z a3 kd c0 h0 n0) v U'.heap L ∧ FrameEnd U o U' L ({ frames := 0, cells := 0, slots := 0, locals := 0 } : Room).cells ({ frames := 0, cells := 0, slots := 0, locals := 0 } : Room).slots) := by
  refine MetFree.of_bodySF (plainFor_of_name pn_2) hisR ?_
  intro p e s m args below meth c s₁ Bd hml0 hP hK
  obtain ⟨rfl, hZ, hh⟩ := hP
  have hx := Bd.exec
  have hby := Bd.bytes
  have hml : c.maxLocals = 7 := hml0
  have hown : s.vm.findClass "java/lang/StringUTF16" = some m.cls := findClass_of_methodNamed Bd.named
  have hnm := (name_of_methodNamed Bd.named Bd.method).1
  have hlk := Bd.notSynchronized
  have X0 : Stand p l e ({ frames := 0, cells := 0, slots := 0, locals := 0 } : Room) s m #[(.ref a1), (.int (0 : Int32)), (.ref a3), (.int (0 : Int32)), (.int (1 : Int32))] below meth c s₁ [] 0 0 := Stand.of_body Bd
  have e0 : s₁.heap = h0 := by rw [← hh, Bd.state]; rfl
  have N0 := Fr.nil n0
  have KK := Keep.refl h0 [a3]
  show own_Ends p e below s FrameEnd (Qcl1_0 Z a3 kd c0 h0 n0) 0 0 (s₁.setTop (entryFrame m #[(.ref a1), (.int (0 : Int32)), (.ref a3), (.int (0 : Int32)), (.int (1 : Int32))] 7))
  refine own_of (U' := (s₁.setTop (mkF m 0 #[.val (.ref a1), .val (.int (0 : Int32)), .val (.ref a3), .val (.int (0 : Int32)), .val (.int (1 : Int32)), .unset, .unset] []))) (fun _ k => castTop (ef_cl1_0 m a1 a3) k) ?_
  refine own_iconst X0 hx hby 0 d8_0 rfl ?_
  refine own_istore X0 hx hby d8_1 (l' := #[.val (.ref a1), .val (.int (0 : Int32)), .val (.ref a3), .val (.int (0 : Int32)), .val (.int (1 : Int32)), .val (.int (0 : Int32)), .unset]) rfl ?_
  refine own_iload X0 hx hby d8_3 rfl ?_
  refine own_iload X0 hx hby d8_5 rfl ?_
  have hc7_66 : (0 : Int32) < (1 : Int32) := by decide
  refine own_icmpNo X0 hx hby d8_7 (tlt hc7_66).2.1 ?_
  refine own_aloadN X0 hx hby d8_10 rfl rfl ?_
  refine own_iloadN X0 hx hby d8_11 rfl ?_
  obtain ⟨cl67, Ar67, qa67, Sa67, Na67, Ha67, Ga67⟩ := id Vc
  have hin67 : ¬ ((0 : Int32) < 0 ∨ cl67.slots.size ≤ ((0 : Int32)).toNatClampNeg) := inb_of Sa67 ⟨by decide, by decide⟩
  have hat67 : cl67.slots[((0 : Int32)).toNatClampNeg]? = some (.int c0) := Has.at Ha67 hin67 rfl
  refine own_of (U' := (s₁.setTop (mkF m 13 #[.val (.ref a1), .val (.int (0 : Int32)), .val (.ref a3), .val (.int (0 : Int32)), .val (.int (1 : Int32)), .val (.int (0 : Int32)), .unset] [(.int c0)]))) (X0.caload hx (j := (0 : Int32)) (v := (.int c0)) (by rw [e0]; exact Ar67.1) (State.isArrayOf_alike hZ.alike Ar67.2.1) Ar67.2.2 hin67 hat67 (g := (mkF m 12 #[.val (.ref a1), .val (.int (0 : Int32)), .val (.ref a3), .val (.int (0 : Int32)), .val (.int (1 : Int32)), .val (.int (0 : Int32)), .unset] [(.int (0 : Int32)), (.ref a1)])) rfl rfl (hb hby d8_12)) ?_
  refine own_istore X0 hx hby d8_13 (l' := #[.val (.ref a1), .val (.int (0 : Int32)), .val (.ref a3), .val (.int (0 : Int32)), .val (.int (1 : Int32)), .val (.int (0 : Int32)), .val (.int c0)]) rfl ?_
  refine own_iload X0 hx hby d8_15 rfl ?_
  refine own_sipush X0 hx hby 255 d8_17 rfl ?_
  have hc20_68 : (255 : Int32) < c0 := hB
  refine own_icmpNo X0 hx hby d8_20 (tlt hc20_68).2.2.2 ?_
  refine own_iload X0 hx hby d8_23 rfl ?_
  exact own_retI X0 hx hlk Bd.returns (hb hby d8_25) (by decide) (by decide) (by rw [e0]; exact ⟨rfl, N0, KK, Vd⟩)
theorem d8_26 : decode jdk_52_method_21_code 26 = .ok (.aload_n 2, 1) := by decide +kernel
theorem d8_27 : decode jdk_52_method_21_code 27 = .ok (.iload_n 3, 1) := by decide +kernel
theorem d8_28 : decode jdk_52_method_21_code 28 = .ok (.iload 6, 2) := by decide +kernel
theorem d8_30 : decode jdk_52_method_21_code 30 = .ok (.i2b, 1) := by decide +kernel
theorem d8_31 : decode jdk_52_method_21_code 31 = .ok (.bastore, 1) := by decide +kernel
theorem d8_32 : decode jdk_52_method_21_code 32 = .ok (.iinc 1 1, 3) := by decide +kernel
theorem d8_35 : decode jdk_52_method_21_code 35 = .ok (.iinc 3 1, 3) := by decide +kernel
theorem d8_38 : decode jdk_52_method_21_code 38 = .ok (.iinc 5 1, 3) := by decide +kernel
theorem d8_41 : decode jdk_52_method_21_code 41 = .ok (.goto (-38), 3) := by decide +kernel
theorem d8_44 : decode jdk_52_method_21_code 44 = .ok (.iload 4, 2) := by decide +kernel
theorem d8_46 : decode jdk_52_method_21_code 46 = .ok (.ireturn, 1) := by decide +kernel
theorem ef_cl1_1 (m : MethodId) (x0 : Addr) (x2 : Addr) : entryFrame m #[(.ref x0), (.int (0 : Int32)), (.ref x2), (.int (0 : Int32)), (.int (1 : Int32))] 7 = mkF m 0 #[.val (.ref x0), .val (.int (0 : Int32)), .val (.ref x2), .val (.int (0 : Int32)), .val (.int (1 : Int32)), .unset, .unset] [] := by first | (simp [entryFrame, mkF, argsToLocals, Value.category]; done) | rfl
def Qcl1_1 (Z : State) (a3 : Addr) (kd : ClassId) (c0 : Int32) (h0 : Heap) (n0 : Nat) (v : Option Value) (h : Heap) (L : List Loc) : Prop := v = some (.int (1 : Int32)) ∧ Fr n0 L ∧ Keep h0 h [a3] ∧ Arv Z h a3 kd .byte (1 : Int32) [(.int (own_b8 c0))] (.int (0 : Int32))
set_option maxRecDepth 65536 in
set_option maxHeartbeats 40000000 in
theorem rmcl1_1 (l : Launch) (Z : State) (a0 : Array Value) (hw : ∀ d ∈ tables_1, d.before a0 Z = true) (ws : List Jvm.Cond) (a1 a3 : Addr) (kc kd : ClassId) (c0 : Int32) (h0 : Heap) (n0 : Nat) (Z0 : n0 ≤ h0.size) (Vc : Arv Z h0 a1 kc .char (1 : Int32) [(.int c0)] (.int (0 : Int32))) (Vd : Arv Z h0 a3 kd .byte (1 : Int32) [(.int (0 : Int32))] (.int (0 : Int32))) (g_a3 : n0 ≤ a3) (nea : a1 ≠ a3) (hL0 : ¬ ((255 : Int32) < c0)) :
    MetFree l mN_15 (head1 (Jvm.Cond.code mN_15 jdk_52_method_21_code 7 (some .int) :: ws) ({ frames := 0, cells := 0, slots := 0, locals := 0 } : Room)) (fun a U => a = #[(.ref a1), (.int (0 : Int32)), (.ref a3), (.int (0 : Int32)), (.int (1 : Int32))] ∧ Z.Warmed39 U.vm ∧ U.heap = h0) (fun _ _ _ _ _ => True) (fun _ U o U' => ∃ v L, o = .returned v ∧ (Qcl1_1 Z a3 kd c0 h0 n0) v U'.heap L ∧ FrameEnd U o U' L ({ frames := 0, cells := 0, slots := 0, locals := 0 } : Room).cells ({ frames := 0, cells := 0, slots := 0, locals := 0 } : Room).slots) := by
  refine MetFree.of_bodySF (plainFor_of_name pn_2) hisR ?_
  intro p e s m args below meth c s₁ Bd hml0 hP hK
  obtain ⟨rfl, hZ, hh⟩ := hP
  have hx := Bd.exec
  have hby := Bd.bytes
  have hml : c.maxLocals = 7 := hml0
  have hown : s.vm.findClass "java/lang/StringUTF16" = some m.cls := findClass_of_methodNamed Bd.named
  have hnm := (name_of_methodNamed Bd.named Bd.method).1
  have hlk := Bd.notSynchronized
  have X0 : Stand p l e ({ frames := 0, cells := 0, slots := 0, locals := 0 } : Room) s m #[(.ref a1), (.int (0 : Int32)), (.ref a3), (.int (0 : Int32)), (.int (1 : Int32))] below meth c s₁ [] 0 0 := Stand.of_body Bd
  have e0 : s₁.heap = h0 := by rw [← hh, Bd.state]; rfl
  have N0 := Fr.nil n0
  have KK := Keep.refl h0 [a3]
  show own_Ends p e below s FrameEnd (Qcl1_1 Z a3 kd c0 h0 n0) 0 0 (s₁.setTop (entryFrame m #[(.ref a1), (.int (0 : Int32)), (.ref a3), (.int (0 : Int32)), (.int (1 : Int32))] 7))
  refine own_of (U' := (s₁.setTop (mkF m 0 #[.val (.ref a1), .val (.int (0 : Int32)), .val (.ref a3), .val (.int (0 : Int32)), .val (.int (1 : Int32)), .unset, .unset] []))) (fun _ k => castTop (ef_cl1_1 m a1 a3) k) ?_
  refine own_iconst X0 hx hby 0 d8_0 rfl ?_
  refine own_istore X0 hx hby d8_1 (l' := #[.val (.ref a1), .val (.int (0 : Int32)), .val (.ref a3), .val (.int (0 : Int32)), .val (.int (1 : Int32)), .val (.int (0 : Int32)), .unset]) rfl ?_
  refine own_iload X0 hx hby d8_3 rfl ?_
  refine own_iload X0 hx hby d8_5 rfl ?_
  have hc7_69 : (0 : Int32) < (1 : Int32) := by decide
  refine own_icmpNo X0 hx hby d8_7 (tlt hc7_69).2.1 ?_
  refine own_aloadN X0 hx hby d8_10 rfl rfl ?_
  refine own_iloadN X0 hx hby d8_11 rfl ?_
  obtain ⟨cl70, Ar70, qa70, Sa70, Na70, Ha70, Ga70⟩ := id Vc
  have hin70 : ¬ ((0 : Int32) < 0 ∨ cl70.slots.size ≤ ((0 : Int32)).toNatClampNeg) := inb_of Sa70 ⟨by decide, by decide⟩
  have hat70 : cl70.slots[((0 : Int32)).toNatClampNeg]? = some (.int c0) := Has.at Ha70 hin70 rfl
  refine own_of (U' := (s₁.setTop (mkF m 13 #[.val (.ref a1), .val (.int (0 : Int32)), .val (.ref a3), .val (.int (0 : Int32)), .val (.int (1 : Int32)), .val (.int (0 : Int32)), .unset] [(.int c0)]))) (X0.caload hx (j := (0 : Int32)) (v := (.int c0)) (by rw [e0]; exact Ar70.1) (State.isArrayOf_alike hZ.alike Ar70.2.1) Ar70.2.2 hin70 hat70 (g := (mkF m 12 #[.val (.ref a1), .val (.int (0 : Int32)), .val (.ref a3), .val (.int (0 : Int32)), .val (.int (1 : Int32)), .val (.int (0 : Int32)), .unset] [(.int (0 : Int32)), (.ref a1)])) rfl rfl (hb hby d8_12)) ?_
  refine own_istore X0 hx hby d8_13 (l' := #[.val (.ref a1), .val (.int (0 : Int32)), .val (.ref a3), .val (.int (0 : Int32)), .val (.int (1 : Int32)), .val (.int (0 : Int32)), .val (.int c0)]) rfl ?_
  refine own_iload X0 hx hby d8_15 rfl ?_
  refine own_sipush X0 hx hby 255 d8_17 rfl ?_
  have hc20_71 : ¬ ((255 : Int32) < c0) := hL0
  refine own_icmpYes X0 hx hby 20 26 d8_20 (flt hc20_71).2.2.2 (by decide) (by decide) ?_
  refine own_aloadN X0 hx hby d8_26 rfl rfl ?_
  refine own_iloadN X0 hx hby d8_27 rfl ?_
  refine own_iload X0 hx hby d8_28 rfl ?_
  refine own_i2b X0 hx hby d8_30 ?_
  obtain ⟨cl72, Ar72, qa72, Sa72, Na72, Ha72, Ga72⟩ := Vd
  have hin72 : ¬ ((0 : Int32) < 0 ∨ cl72.slots.size ≤ ((0 : Int32)).toNatClampNeg) := inb_of Sa72 ⟨by decide, by decide⟩
  obtain ⟨T72, h72, X72, e72, W72, st72⟩ := stB X0 hx hZ e0 Ar72 (j := (0 : Int32)) hin72 (g := (mkF m 31 #[.val (.ref a1), .val (.int (0 : Int32)), .val (.ref a3), .val (.int (0 : Int32)), .val (.int (1 : Int32)), .val (.int (0 : Int32)), .val (.int c0)] [(.int (c0.toInt8.toInt32)), (.int (0 : Int32)), (.ref a3)])) rfl rfl (hb hby d8_31)
  replace Vd : Arv Z h72 a3 kd .byte (1 : Int32) [(.int (nar .byte (c0.toInt8.toInt32)))] (.int (0 : Int32)) := Arv.set Ar72 qa72 Sa72 Na72 Ha72 Ga72 (fits_nar_byte _) W72 0 rfl (Nat.le_of_ble_eq_true rfl)
  replace Z0 := Nat.le_trans Z0 (Keep.of_wr W72).1
  replace Vc := Vc.other W72 nea
  replace KK := KK.wr W72 (Or.inl (List.mem_of_getElem? (i := 0) rfl))
  have N72 := Fr.snoc X72 N0 g_a3
  refine own_of (U' := (T72.setTop (mkF m 32 #[.val (.ref a1), .val (.int (0 : Int32)), .val (.ref a3), .val (.int (0 : Int32)), .val (.int (1 : Int32)), .val (.int (0 : Int32)), .val (.int c0)] []))) (st72) ?_
  refine own_iinc X72 hx hby d8_32 rfl (l' := #[.val (.ref a1), .val (.int ((0 : Int32) + (1 : Int32))), .val (.ref a3), .val (.int (0 : Int32)), .val (.int (1 : Int32)), .val (.int (0 : Int32)), .val (.int c0)]) rfl ?_
  refine own_eq (U' := (T72.setTop (mkF m 35 #[.val (.ref a1), .val (.int (1 : Int32)), .val (.ref a3), .val (.int (0 : Int32)), .val (.int (1 : Int32)), .val (.int (0 : Int32)), .val (.int c0)] []))) (by rw [show ((0 : Int32) + (1 : Int32)) = (1 : Int32) by decide]) ?_
  refine own_iinc X72 hx hby d8_35 rfl (l' := #[.val (.ref a1), .val (.int (1 : Int32)), .val (.ref a3), .val (.int ((0 : Int32) + (1 : Int32))), .val (.int (1 : Int32)), .val (.int (0 : Int32)), .val (.int c0)]) rfl ?_
  refine own_eq (U' := (T72.setTop (mkF m 38 #[.val (.ref a1), .val (.int (1 : Int32)), .val (.ref a3), .val (.int (1 : Int32)), .val (.int (1 : Int32)), .val (.int (0 : Int32)), .val (.int c0)] []))) (by rw [show ((0 : Int32) + (1 : Int32)) = (1 : Int32) by decide]) ?_
  refine own_iinc X72 hx hby d8_38 rfl (l' := #[.val (.ref a1), .val (.int (1 : Int32)), .val (.ref a3), .val (.int (1 : Int32)), .val (.int (1 : Int32)), .val (.int ((0 : Int32) + (1 : Int32))), .val (.int c0)]) rfl ?_
  refine own_eq (U' := (T72.setTop (mkF m 41 #[.val (.ref a1), .val (.int (1 : Int32)), .val (.ref a3), .val (.int (1 : Int32)), .val (.int (1 : Int32)), .val (.int (1 : Int32)), .val (.int c0)] []))) (by rw [show ((0 : Int32) + (1 : Int32)) = (1 : Int32) by decide]) ?_
  refine own_goto X72 hx hby 41 3 d8_41 (by decide) (by decide) ?_
  refine own_iload X72 hx hby d8_3 rfl ?_
  refine own_iload X72 hx hby d8_5 rfl ?_
  have hc7_73 : ¬ ((1 : Int32) < (1 : Int32)) := by decide
  refine own_icmpYes X72 hx hby 7 44 d8_7 (flt hc7_73).2.1 (by decide) (by decide) ?_
  refine own_iload X72 hx hby d8_44 rfl ?_
  exact own_retI X72 hx hlk Bd.returns (hb hby d8_46) (by decide) (by decide) (by rw [e72]; exact ⟨rfl, N72, KK, Vd⟩)
def Qclb1 (a3 : Addr) (c0 : Int32) (h0 : Heap) (n0 : Nat) (v : Option Value) (h : Heap) (L : List Loc) : Prop := ∃ r : Int32, v = some (.int r) ∧ Fr n0 L ∧ Keep h0 h [a3] ∧ ¬ (r = (1 : Int32)) ∧ (¬ ((r <<< ((1 : Int32) &&& 31)) < (0 : Int32))) ∧ ((r <<< ((1 : Int32) &&& 31)) < (2 : Int32)) ∧ (¬ (((r <<< ((1 : Int32) &&& 31)) + (1 : Int32)) < (0 : Int32))) ∧ (((r <<< ((1 : Int32) &&& 31)) + (1 : Int32)) < (2 : Int32)) ∧ (255 : Int32) < own_chu [(own_lo8 c0), (own_hi8 c0)] r
theorem rmclb1 (l : Launch) (Z : State) (a0 : Array Value) (hw : ∀ d ∈ tables_1, d.before a0 Z = true) (ws : List Jvm.Cond) (a1 a3 : Addr) (kc kd : ClassId) (c0 : Int32) (h0 : Heap) (n0 : Nat) (Z0 : n0 ≤ h0.size) (Vc : Arv Z h0 a1 kc .char (1 : Int32) [(.int c0)] (.int (0 : Int32))) (Vd : Arv Z h0 a3 kd .byte (1 : Int32) [(.int (0 : Int32))] (.int (0 : Int32))) (g_a3 : n0 ≤ a3) (nea : a1 ≠ a3) (hb0 : 0 ≤ c0.toInt ∧ c0.toInt < 65536) (big : ((255 : Int32) < c0)) :
    MetFree l mN_15 (head1 (Jvm.Cond.code mN_15 jdk_52_method_21_code 7 (some .int) :: ws) ({ frames := 0, cells := 0, slots := 0, locals := 0 } : Room)) (fun a U => a = #[(.ref a1), (.int (0 : Int32)), (.ref a3), (.int (0 : Int32)), (.int (1 : Int32))] ∧ Z.Warmed39 U.vm ∧ U.heap = h0) (fun _ _ _ _ _ => True) (fun _ U o U' => ∃ v L, o = .returned v ∧ (Qclb1 a3 c0 h0 n0) v U'.heap L ∧ FrameEnd U o U' L ({ frames := 0, cells := 0, slots := 0, locals := 0 } : Room).cells ({ frames := 0, cells := 0, slots := 0, locals := 0 } : Room).slots) := by
  by_cases qB0 : (255 : Int32) < c0
  · exact own_mono (rmcl1_0 l Z a0 hw ws a1 a3 kc kd c0 h0 n0 Z0 Vc Vd g_a3 nea  qB0) (fun _ _ _ _ ⟨v, L, h1, ⟨q1, q2, q3, _⟩, h3⟩ => ⟨v, L, h1, ⟨(0 : Int32), q1, q2, q3, by decide, by decide, by decide, by decide, by decide, by rw [show own_chu [(own_lo8 c0), (own_hi8 c0)] (0 : Int32) = c0 from own_gc_eq hb0]; exact qB0⟩, h3⟩)
  exact absurd big (by simp [qB0])
abbrev mN_16 : MethodName := ⟨"java/lang/StringUTF16", "compress", "([CII)[B"⟩
theorem pd_10 : parseMethodDescriptor "([CI[BII)I" = some ⟨[(.array .char), .int, (.array .byte), .int, .int], some .int⟩ := by decide +kernel
theorem d7_0 : decode jdk_52_method_16_code 0 = .ok (.iload_n 2, 1) := by decide +kernel
theorem d7_1 : decode jdk_52_method_16_code 1 = .ok (.newarray .byte, 2) := by decide +kernel
theorem d7_3 : decode jdk_52_method_16_code 3 = .ok (.astore_n 3, 1) := by decide +kernel
theorem d7_4 : decode jdk_52_method_16_code 4 = .ok (.aload_n 0, 1) := by decide +kernel
theorem d7_5 : decode jdk_52_method_16_code 5 = .ok (.iload_n 1, 1) := by decide +kernel
theorem d7_6 : decode jdk_52_method_16_code 6 = .ok (.aload_n 3, 1) := by decide +kernel
theorem d7_7 : decode jdk_52_method_16_code 7 = .ok (.iconst 0, 1) := by decide +kernel
theorem d7_8 : decode jdk_52_method_16_code 8 = .ok (.iload_n 2, 1) := by decide +kernel
theorem d7_9 : decode jdk_52_method_16_code 9 = .ok (.invokestatic 115, 3) := by decide +kernel
theorem d7_12 : decode jdk_52_method_16_code 12 = .ok (.istore 4, 2) := by decide +kernel
theorem d7_14 : decode jdk_52_method_16_code 14 = .ok (.iload 4, 2) := by decide +kernel
theorem d7_16 : decode jdk_52_method_16_code 16 = .ok (.iload_n 2, 1) := by decide +kernel
theorem d7_17 : decode jdk_52_method_16_code 17 = .ok (.if_icmp .eq 40, 3) := by decide +kernel
theorem d7_57 : decode jdk_52_method_16_code 57 = .ok (.aload_n 3, 1) := by decide +kernel
theorem d7_58 : decode jdk_52_method_16_code 58 = .ok (.areturn, 1) := by decide +kernel
theorem ef_cl1 (m : MethodId) (x0 : Addr) : entryFrame m #[(.ref x0), (.int (0 : Int32)), (.int (1 : Int32))] 6 = mkF m 0 #[.val (.ref x0), .val (.int (0 : Int32)), .val (.int (1 : Int32)), .unset, .unset, .unset] [] := by first | (simp [entryFrame, mkF, argsToLocals, Value.category]; done) | rfl
def Qcl1 (Z : State) (c0 : Int32) (h0 : Heap) (n0 : Nat) (v : Option Value) (h : Heap) (L : List Loc) : Prop := ∃ (b : Addr) (kb : ClassId), v = some (.ref b) ∧ Fr n0 L ∧ Keep h0 h [] ∧ h0.size ≤ b ∧ Arv Z h b kb .byte (1 : Int32) [(.int (own_b8 c0))] (.int (0 : Int32))
set_option maxRecDepth 65536 in
set_option maxHeartbeats 40000000 in
theorem rmcl1 (l : Launch) (Z : State) (a0 : Array Value) (hw : ∀ d ∈ tables_1, d.before a0 Z = true) (ws : List Jvm.Cond) (a1 : Addr) (kc : ClassId) (c0 : Int32) (h0 : Heap) (n0 : Nat) (Z0 : n0 ≤ h0.size) (Vc : Arv Z h0 a1 kc .char (1 : Int32) [(.int c0)] (.int (0 : Int32))) (hb0 : 0 ≤ c0.toInt ∧ c0.toInt < 65536) (SA : Sta Z h0 "java/lang/StringUTF16" "$assertionsDisabled" "Z" (.int (1 : Int32))) (SHI : Sta Z h0 "java/lang/StringUTF16" "HI_BYTE_SHIFT" "I" (.int (0 : Int32))) (SLO : Sta Z h0 "java/lang/StringUTF16" "LO_BYTE_SHIFT" "I" (.int (8 : Int32))) (hL0 : ¬ ((255 : Int32) < c0)) :
    MetFree l mN_16 (head1 (Jvm.Cond.code mN_16 jdk_52_method_16_code 6 (some (.array .byte)) :: ws) ({ frames := 1, cells := 1, slots := 1, locals := 18 } : Room)) (fun a U => a = #[(.ref a1), (.int (0 : Int32)), (.int (1 : Int32))] ∧ Z.Warmed39 U.vm ∧ U.heap = h0) (fun _ _ _ _ _ => True) (fun _ U o U' => ∃ v L, o = .returned v ∧ (Qcl1 Z c0 h0 n0) v U'.heap L ∧ FrameEnd U o U' L ({ frames := 1, cells := 1, slots := 1, locals := 18 } : Room).cells ({ frames := 1, cells := 1, slots := 1, locals := 18 } : Room).slots) := by
  refine MetFree.of_bodySF (plainFor_of_name pn_2) hisR ?_
  intro p e s m args below meth c s₁ Bd hml0 hP hK
  obtain ⟨rfl, hZ, hh⟩ := hP
  have hx := Bd.exec
  have hby := Bd.bytes
  have hml : c.maxLocals = 6 := hml0
  have hown : s.vm.findClass "java/lang/StringUTF16" = some m.cls := findClass_of_methodNamed Bd.named
  have hnm := (name_of_methodNamed Bd.named Bd.method).1
  have hlk := Bd.notSynchronized
  have X0 : Stand p l e ({ frames := 1, cells := 1, slots := 1, locals := 18 } : Room) s m #[(.ref a1), (.int (0 : Int32)), (.int (1 : Int32))] below meth c s₁ [] 0 0 := Stand.of_body Bd
  have e0 : s₁.heap = h0 := by rw [← hh, Bd.state]; rfl
  have N0 := Fr.nil n0
  have KK := Keep.refl h0 []
  show own_Ends p e below s FrameEnd (Qcl1 Z c0 h0 n0) 1 1 (s₁.setTop (entryFrame m #[(.ref a1), (.int (0 : Int32)), (.int (1 : Int32))] 6))
  refine own_of (U' := (s₁.setTop (mkF m 0 #[.val (.ref a1), .val (.int (0 : Int32)), .val (.int (1 : Int32)), .unset, .unset, .unset] []))) (fun _ k => castTop (ef_cl1 m a1) k) ?_
  refine own_iloadN X0 hx hby d7_0 rfl ?_
  obtain ⟨T74, h74, k74, X74, e74, E74, A74, st74⟩ := newP X0 hx hZ (own_w hw 15 rfl) e0 (g := (mkF m 1 #[.val (.ref a1), .val (.int (0 : Int32)), .val (.int (1 : Int32)), .unset, .unset, .unset] [(.int (1 : Int32))])) rfl (hb hby d7_1) rfl (by decide) (cap := 1) (by decide) (by decide) (by decide) (by decide)
  obtain ⟨b74, gz74⟩ : ∃ z, z = h0.size := ⟨_, rfl⟩
  rw [← gz74] at A74 st74
  have g_b74 : n0 ≤ b74 := Nat.le_trans Z0 (Nat.le_of_eq gz74.symm)
  have sz_b74 : h0.size ≤ b74 := Nat.le_trans KK.1 (Nat.le_of_eq gz74.symm)
  have ne_a1_b74 : a1 ≠ b74 := Nat.ne_of_lt (Nat.lt_of_lt_of_le Vc.lt (Nat.le_of_eq gz74.symm))
  replace Z0 := Nat.le_trans Z0 E74.1
  replace Vc := Vc.ext E74
  replace SA := SA.ext E74
  replace SHI := SHI.ext E74
  replace SLO := SLO.ext E74
  replace KK := KK.ext E74
  have V74 : Arv Z h74 b74 k74 .byte (1 : Int32) [(.int (0 : Int32))] (.int (0 : Int32)) := (Arv.new A74 (by decide)).pad (pad_rep [] (.int (0 : Int32)) 1)
  refine own_of (U' := (T74.setTop (mkF m 3 #[.val (.ref a1), .val (.int (0 : Int32)), .val (.int (1 : Int32)), .unset, .unset, .unset] [(.ref b74)]))) (st74) ?_
  refine own_astoreN X74 hx hby d7_3 rfl (l' := #[.val (.ref a1), .val (.int (0 : Int32)), .val (.int (1 : Int32)), .val (.ref b74), .unset, .unset]) rfl ?_
  refine own_aloadN X74 hx hby d7_4 rfl rfl ?_
  refine own_iloadN X74 hx hby d7_5 rfl ?_
  refine own_aloadN X74 hx hby d7_6 rfl rfl ?_
  refine own_iconst X74 hx hby 0 d7_7 rfl ?_
  refine own_iloadN X74 hx hby d7_8 rfl ?_
  obtain ⟨_, _, ⟨T75, L75, k75, n75⟩, -, X75, ⟨Lc75, hQ75, l75, y75, z75⟩, st75⟩ := Jvm.LawKit.callS X74 hx (y := mN_15) hown (mvT hZ (own_w hw 41 rfl)) (mvT hZ (own_w hw 42 rfl)) (mvT hZ (own_w hw 39 rfl)) (mvT hZ (own_w hw 43 rfl)) (by decide) (backOf (W := 0) (rmcl1_1 l Z a0 hw [] a1 b74 kc k74 c0 h74 n0 Z0 Vc V74 g_b74 ne_a1_b74 hL0) hZ (own_w hw 43 rfl) (own_w hw 39 rfl) (by decide) (by decide)) (g := (mkF m 9 #[.val (.ref a1), .val (.int (0 : Int32)), .val (.int (1 : Int32)), .val (.ref b74), .unset, .unset] [(.int (1 : Int32)), (.int (0 : Int32)), (.ref b74), (.int (0 : Int32)), (.ref a1)])) rfl (by rw [hml]; rfl) (argsL := [(.ref a1), (.int (0 : Int32)), (.ref b74), (.int (0 : Int32)), (.int (1 : Int32))]) (rest := []) (lenOf pd_10 rfl) rfl (by show 2 * 0 + _ ≤ _; exact Nat.le_of_eq rfl) (hb hby d7_9) (fun _ _ => ⟨rfl, e74, (by decide : 1 + 0 ≤ _), (by decide : 1 + 0 ≤ _)⟩)
  dsimp only [Pt.U, Pt.locs, Pt.cells, Pt.slots] at X75 l75 y75 z75 st75 hQ75
  subst l75 y75 z75
  obtain ⟨rfl, Nq75, Kp75, Vq75⟩ := hQ75
  have N75 := Fr.app N0 Nq75
  have nst_b74 := V74.nostat
  replace Z0 := Nat.le_trans Z0 Kp75.1
  replace Vc := Vc.keep Kp75 (ninS ne_a1_b74 nin0)
  replace SA := own_staKeep SA Kp75 (nsS nst_b74 ns0)
  replace SHI := own_staKeep SHI Kp75 (nsS nst_b74 ns0)
  replace SLO := own_staKeep SLO Kp75 (nsS nst_b74 ns0)
  replace KK := KK.trans Kp75 (allS (Or.inr sz_b74) all0)
  refine own_of (U' := (T75.setTop (mkF m 12 #[.val (.ref a1), .val (.int (0 : Int32)), .val (.int (1 : Int32)), .val (.ref b74), .unset, .unset] [(.int (1 : Int32))]))) (st75) ?_
  refine own_istore X75 hx hby d7_12 (l' := #[.val (.ref a1), .val (.int (0 : Int32)), .val (.int (1 : Int32)), .val (.ref b74), .val (.int (1 : Int32)), .unset]) rfl ?_
  refine own_iload X75 hx hby d7_14 rfl ?_
  refine own_iloadN X75 hx hby d7_16 rfl ?_
  have hc17_76 : (1 : Int32) = (1 : Int32) := by decide
  refine own_icmpYes X75 hx hby 17 57 d7_17 (teq hc17_76).1 (by decide) (by decide) ?_
  refine own_aloadN X75 hx hby d7_57 rfl rfl ?_
  exact own_retA X75 hx hlk Bd.returns rfl rfl (hb hby d7_58) (by decide) (by decide) (⟨b74, k74, rfl, N75, KK, sz_b74, Vq75⟩)
theorem pd_11 : parseMethodDescriptor "([CII)[B" = some ⟨[(.array .char), .int, .int], some (.array .byte)⟩ := by decide +kernel
theorem d7_20 : decode jdk_52_method_16_code 20 = .ok (.aload_n 0, 1) := by decide +kernel
theorem d7_21 : decode jdk_52_method_16_code 21 = .ok (.iload_n 1, 1) := by decide +kernel
theorem d7_22 : decode jdk_52_method_16_code 22 = .ok (.iload_n 2, 1) := by decide +kernel
theorem d7_23 : decode jdk_52_method_16_code 23 = .ok (.invokestatic 119, 3) := by decide +kernel
theorem d7_26 : decode jdk_52_method_16_code 26 = .ok (.astore 5, 2) := by decide +kernel
theorem d7_28 : decode jdk_52_method_16_code 28 = .ok (.aload 5, 2) := by decide +kernel
theorem d7_30 : decode jdk_52_method_16_code 30 = .ok (.iload 4, 2) := by decide +kernel
theorem d7_32 : decode jdk_52_method_16_code 32 = .ok (.invokestatic 71, 3) := by decide +kernel
theorem d7_35 : decode jdk_52_method_16_code 35 = .ok (.sipush 255, 3) := by decide +kernel
theorem d7_38 : decode jdk_52_method_16_code 38 = .ok (.if_icmp .gt 16, 3) := by decide +kernel
theorem d7_54 : decode jdk_52_method_16_code 54 = .ok (.aload 5, 2) := by decide +kernel
theorem d7_56 : decode jdk_52_method_16_code 56 = .ok (.areturn, 1) := by decide +kernel
theorem ef_cb1 (m : MethodId) (x0 : Addr) : entryFrame m #[(.ref x0), (.int (0 : Int32)), (.int (1 : Int32))] 6 = mkF m 0 #[.val (.ref x0), .val (.int (0 : Int32)), .val (.int (1 : Int32)), .unset, .unset, .unset] [] := by first | (simp [entryFrame, mkF, argsToLocals, Value.category]; done) | rfl
def Qcb1 (Z : State) (c0 : Int32) (h0 : Heap) (n0 : Nat) (v : Option Value) (h : Heap) (L : List Loc) : Prop := ∃ (b : Addr) (kb : ClassId), v = some (.ref b) ∧ Fr n0 L ∧ Keep h0 h [] ∧ h0.size ≤ b ∧ Arv Z h b kb .byte (2 : Int32) [(.int (own_lo8 c0)), (.int (own_hi8 c0))] (.int (0 : Int32))
set_option maxRecDepth 65536 in
set_option maxHeartbeats 40000000 in
theorem rmcb1 (l : Launch) (Z : State) (a0 : Array Value) (hw : ∀ d ∈ tables_1, d.before a0 Z = true) (ws : List Jvm.Cond) (a1 : Addr) (kc : ClassId) (c0 : Int32) (h0 : Heap) (n0 : Nat) (Z0 : n0 ≤ h0.size) (Vc : Arv Z h0 a1 kc .char (1 : Int32) [(.int c0)] (.int (0 : Int32))) (hb0 : 0 ≤ c0.toInt ∧ c0.toInt < 65536) (SA : Sta Z h0 "java/lang/StringUTF16" "$assertionsDisabled" "Z" (.int (1 : Int32))) (SHI : Sta Z h0 "java/lang/StringUTF16" "HI_BYTE_SHIFT" "I" (.int (0 : Int32))) (SLO : Sta Z h0 "java/lang/StringUTF16" "LO_BYTE_SHIFT" "I" (.int (8 : Int32))) (big : ((255 : Int32) < c0)) :
    MetFree l mN_16 (head1 (Jvm.Cond.code mN_16 jdk_52_method_16_code 6 (some (.array .byte)) :: ws) ({ frames := 3, cells := 2, slots := 3, locals := 40 } : Room)) (fun a U => a = #[(.ref a1), (.int (0 : Int32)), (.int (1 : Int32))] ∧ Z.Warmed39 U.vm ∧ U.heap = h0) (fun _ _ _ _ _ => True) (fun _ U o U' => ∃ v L, o = .returned v ∧ (Qcb1 Z c0 h0 n0) v U'.heap L ∧ FrameEnd U o U' L ({ frames := 3, cells := 2, slots := 3, locals := 40 } : Room).cells ({ frames := 3, cells := 2, slots := 3, locals := 40 } : Room).slots) := by
  refine MetFree.of_bodySF (plainFor_of_name pn_2) hisR ?_
  intro p e s m args below meth c s₁ Bd hml0 hP hK
  obtain ⟨rfl, hZ, hh⟩ := hP
  have hx := Bd.exec
  have hby := Bd.bytes
  have hml : c.maxLocals = 6 := hml0
  have hown : s.vm.findClass "java/lang/StringUTF16" = some m.cls := findClass_of_methodNamed Bd.named
  have hnm := (name_of_methodNamed Bd.named Bd.method).1
  have hlk := Bd.notSynchronized
  have X0 : Stand p l e ({ frames := 3, cells := 2, slots := 3, locals := 40 } : Room) s m #[(.ref a1), (.int (0 : Int32)), (.int (1 : Int32))] below meth c s₁ [] 0 0 := Stand.of_body Bd
  have e0 : s₁.heap = h0 := by rw [← hh, Bd.state]; rfl
  have N0 := Fr.nil n0
  have KK := Keep.refl h0 []
  show own_Ends p e below s FrameEnd (Qcb1 Z c0 h0 n0) 2 3 (s₁.setTop (entryFrame m #[(.ref a1), (.int (0 : Int32)), (.int (1 : Int32))] 6))
  refine own_of (U' := (s₁.setTop (mkF m 0 #[.val (.ref a1), .val (.int (0 : Int32)), .val (.int (1 : Int32)), .unset, .unset, .unset] []))) (fun _ k => castTop (ef_cb1 m a1) k) ?_
  refine own_iloadN X0 hx hby d7_0 rfl ?_
  obtain ⟨T77, h77, k77, X77, e77, E77, A77, st77⟩ := newP X0 hx hZ (own_w hw 15 rfl) e0 (g := (mkF m 1 #[.val (.ref a1), .val (.int (0 : Int32)), .val (.int (1 : Int32)), .unset, .unset, .unset] [(.int (1 : Int32))])) rfl (hb hby d7_1) rfl (by decide) (cap := 1) (by decide) (by decide) (by decide) (by decide)
  obtain ⟨b77, gz77⟩ : ∃ z, z = h0.size := ⟨_, rfl⟩
  rw [← gz77] at A77 st77
  have g_b77 : n0 ≤ b77 := Nat.le_trans Z0 (Nat.le_of_eq gz77.symm)
  have sz_b77 : h0.size ≤ b77 := Nat.le_trans KK.1 (Nat.le_of_eq gz77.symm)
  have ne_a1_b77 : a1 ≠ b77 := Nat.ne_of_lt (Nat.lt_of_lt_of_le Vc.lt (Nat.le_of_eq gz77.symm))
  replace Z0 := Nat.le_trans Z0 E77.1
  replace Vc := Vc.ext E77
  replace SA := SA.ext E77
  replace SHI := SHI.ext E77
  replace SLO := SLO.ext E77
  replace KK := KK.ext E77
  have V77 : Arv Z h77 b77 k77 .byte (1 : Int32) [(.int (0 : Int32))] (.int (0 : Int32)) := (Arv.new A77 (by decide)).pad (pad_rep [] (.int (0 : Int32)) 1)
  refine own_of (U' := (T77.setTop (mkF m 3 #[.val (.ref a1), .val (.int (0 : Int32)), .val (.int (1 : Int32)), .unset, .unset, .unset] [(.ref b77)]))) (st77) ?_
  refine own_astoreN X77 hx hby d7_3 rfl (l' := #[.val (.ref a1), .val (.int (0 : Int32)), .val (.int (1 : Int32)), .val (.ref b77), .unset, .unset]) rfl ?_
  refine own_aloadN X77 hx hby d7_4 rfl rfl ?_
  refine own_iloadN X77 hx hby d7_5 rfl ?_
  refine own_aloadN X77 hx hby d7_6 rfl rfl ?_
  refine own_iconst X77 hx hby 0 d7_7 rfl ?_
  refine own_iloadN X77 hx hby d7_8 rfl ?_
  obtain ⟨_, _, ⟨T78, L78, k78, n78⟩, -, X78, ⟨Lc78, hQ78, l78, y78, z78⟩, st78⟩ := Jvm.LawKit.callS X77 hx (y := mN_15) hown (mvT hZ (own_w hw 41 rfl)) (mvT hZ (own_w hw 42 rfl)) (mvT hZ (own_w hw 39 rfl)) (mvT hZ (own_w hw 43 rfl)) (by decide) (backOf (W := 0) (rmclb1 l Z a0 hw [] a1 b77 kc k77 c0 h77 n0 Z0 Vc V77 g_b77 ne_a1_b77 hb0 big) hZ (own_w hw 43 rfl) (own_w hw 39 rfl) (by decide) (by decide)) (g := (mkF m 9 #[.val (.ref a1), .val (.int (0 : Int32)), .val (.int (1 : Int32)), .val (.ref b77), .unset, .unset] [(.int (1 : Int32)), (.int (0 : Int32)), (.ref b77), (.int (0 : Int32)), (.ref a1)])) rfl (by rw [hml]; rfl) (argsL := [(.ref a1), (.int (0 : Int32)), (.ref b77), (.int (0 : Int32)), (.int (1 : Int32))]) (rest := []) (lenOf pd_10 rfl) rfl (by show 2 * 0 + _ ≤ _; exact Nat.le_of_eq rfl) (hb hby d7_9) (fun _ _ => ⟨rfl, e77, (by decide : 1 + 0 ≤ _), (by decide : 1 + 0 ≤ _)⟩)
  dsimp only [Pt.U, Pt.locs, Pt.cells, Pt.slots] at X78 l78 y78 z78 st78 hQ78
  subst l78 y78 z78
  obtain ⟨r78, rfl, Nq78, Kp78, nr78, i1, i2, i3, i4, bg78⟩ := hQ78
  have N78 := Fr.app N0 Nq78
  have nst_b77 := V77.nostat
  replace Z0 := Nat.le_trans Z0 Kp78.1
  replace Vc := Vc.keep Kp78 (ninS ne_a1_b77 nin0)
  replace SA := own_staKeep SA Kp78 (nsS nst_b77 ns0)
  replace SHI := own_staKeep SHI Kp78 (nsS nst_b77 ns0)
  replace SLO := own_staKeep SLO Kp78 (nsS nst_b77 ns0)
  replace KK := KK.trans Kp78 (allS (Or.inr sz_b77) all0)
  refine own_of (U' := (T78.setTop (mkF m 12 #[.val (.ref a1), .val (.int (0 : Int32)), .val (.int (1 : Int32)), .val (.ref b77), .unset, .unset] [(.int r78)]))) (st78) ?_
  refine own_istore X78 hx hby d7_12 (l' := #[.val (.ref a1), .val (.int (0 : Int32)), .val (.int (1 : Int32)), .val (.ref b77), .val (.int r78), .unset]) rfl ?_
  refine own_iload X78 hx hby d7_14 rfl ?_
  refine own_iloadN X78 hx hby d7_16 rfl ?_
  have hc17_79 : ¬ (r78 = (1 : Int32)) := nr78
  refine own_icmpNo X78 hx hby d7_17 (feq hc17_79).1 ?_
  refine own_aloadN X78 hx hby d7_20 rfl rfl ?_
  refine own_iloadN X78 hx hby d7_21 rfl ?_
  refine own_iloadN X78 hx hby d7_22 rfl ?_
  obtain ⟨_, _, ⟨T80, L80, k80, n80⟩, -, X80, ⟨Lc80, hQ80, l80, y80, z80⟩, st80⟩ := Jvm.LawKit.callS X78 hx (y := mN_14) hown (mvT hZ (own_w hw 73 rfl)) (mvT hZ (own_w hw 74 rfl)) (mvT hZ (own_w hw 39 rfl)) (mvT hZ (own_w hw 75 rfl)) (by decide) (backOf (W := 0) (rmtb1 l Z a0 hw [] a1 kc c0 T78.heap n0 Z0 Vc SA SHI SLO) hZ (own_w hw 75 rfl) (own_w hw 39 rfl) (by decide) (by decide)) (g := (mkF m 23 #[.val (.ref a1), .val (.int (0 : Int32)), .val (.int (1 : Int32)), .val (.ref b77), .val (.int r78), .unset] [(.int (1 : Int32)), (.int (0 : Int32)), (.ref a1)])) rfl (by rw [hml]; rfl) (argsL := [(.ref a1), (.int (0 : Int32)), (.int (1 : Int32))]) (rest := []) (lenOf pd_11 rfl) rfl (by show 2 * 0 + _ ≤ _; exact Nat.le_of_eq rfl) (hb hby d7_23) (fun _ _ => ⟨rfl, rfl, (by decide : 1 + 1 ≤ _), (by decide : 1 + 2 ≤ _)⟩)
  dsimp only [Pt.U, Pt.locs, Pt.cells, Pt.slots] at X80 l80 y80 z80 st80 hQ80
  subst l80 y80 z80
  obtain ⟨u80, ku80, rfl, Nq80, Kp80, gq80, Vq80⟩ := hQ80
  have g_u80 : n0 ≤ u80 := Nat.le_trans Z0 gq80
  have sz_u80 : h0.size ≤ u80 := Nat.le_trans KK.1 gq80
  have ne_a1_u80 : a1 ≠ u80 := Nat.ne_of_lt (Nat.lt_of_lt_of_le Vc.lt gq80)
  have N80 := Fr.app N78 Nq80
  replace Z0 := Nat.le_trans Z0 Kp80.1
  replace Vc := Vc.keep Kp80 nin0
  replace SA := own_staKeep SA Kp80 ns0
  replace SHI := own_staKeep SHI Kp80 ns0
  replace SLO := own_staKeep SLO Kp80 ns0
  replace KK := KK.trans Kp80 all0
  refine own_of (U' := (T80.setTop (mkF m 26 #[.val (.ref a1), .val (.int (0 : Int32)), .val (.int (1 : Int32)), .val (.ref b77), .val (.int r78), .unset] [(.ref u80)]))) (st80) ?_
  refine own_astore X80 hx hby d7_26 rfl (l' := #[.val (.ref a1), .val (.int (0 : Int32)), .val (.int (1 : Int32)), .val (.ref b77), .val (.int r78), .val (.ref u80)]) rfl ?_
  refine own_aload X80 hx hby d7_28 rfl rfl ?_
  refine own_iload X80 hx hby d7_30 rfl ?_
  obtain ⟨_, _, ⟨T81, L81, k81, n81⟩, -, X81, ⟨Lc81, hQ81, l81, y81, z81⟩, st81⟩ := Jvm.LawKit.callS X80 hx (y := mN_4) hown (mvT hZ (own_w hw 89 rfl)) (mvT hZ (own_w hw 90 rfl)) (mvT hZ (own_w hw 39 rfl)) (mvT hZ (own_w hw 91 rfl)) (by decide) (backOf (W := 0) (rmug l Z a0 hw [] u80 r78 ku80 (2 : Int32) [(own_lo8 c0), (own_hi8 c0)] T80.heap n0 Z0 Vq80 i1 i2 i3 i4 SA SHI SLO) hZ (own_w hw 91 rfl) (own_w hw 39 rfl) (by decide) (by decide)) (g := (mkF m 32 #[.val (.ref a1), .val (.int (0 : Int32)), .val (.int (1 : Int32)), .val (.ref b77), .val (.int r78), .val (.ref u80)] [(.int r78), (.ref u80)])) rfl (by rw [hml]; rfl) (argsL := [(.ref u80), (.int r78)]) (rest := []) (lenOf pd_4 rfl) rfl (by show 2 * 0 + _ ≤ _; exact Nat.le_of_eq rfl) (hb hby d7_32) (fun _ _ => ⟨rfl, rfl, (by decide : 2 + 0 ≤ _), (by decide : 3 + 0 ≤ _)⟩)
  dsimp only [Pt.U, Pt.locs, Pt.cells, Pt.slots] at X81 l81 y81 z81 st81 hQ81
  subst l81 y81 z81
  obtain ⟨rfl, Nq81, e81⟩ := hQ81
  have N81 := Fr.app N80 Nq81
  refine own_of (U' := (T81.setTop (mkF m 35 #[.val (.ref a1), .val (.int (0 : Int32)), .val (.int (1 : Int32)), .val (.ref b77), .val (.int r78), .val (.ref u80)] [(.int (own_chu [(own_lo8 c0), (own_hi8 c0)] r78))]))) (st81) ?_
  refine own_sipush X81 hx hby 255 d7_35 rfl ?_
  have hc38_82 : (255 : Int32) < (own_chu [(own_lo8 c0), (own_hi8 c0)] r78) := bg78
  refine own_icmpYes X81 hx hby 38 54 d7_38 (tlt hc38_82).2.2.1 (by decide) (by decide) ?_
  refine own_aload X81 hx hby d7_54 rfl rfl ?_
  exact own_retA X81 hx hlk Bd.returns rfl rfl (hb hby d7_56) (by decide) (by decide) (by rw [e81]; exact ⟨u80, ku80, rfl, N81, KK, sz_u80, Vq80⟩)
abbrev mN_17 : MethodName := ⟨"java/lang/StringUTF16", "coderFromArrayLen", "([BI)B"⟩
theorem d9_0 : decode jdk_52_method_15_code 0 = .ok (.iload_n 1, 1) := by decide +kernel
theorem d9_1 : decode jdk_52_method_15_code 1 = .ok (.aload_n 0, 1) := by decide +kernel
theorem d9_2 : decode jdk_52_method_15_code 2 = .ok (.arraylength, 1) := by decide +kernel
theorem d9_3 : decode jdk_52_method_15_code 3 = .ok (.isub, 1) := by decide +kernel
theorem d9_4 : decode jdk_52_method_15_code 4 = .ok (.bipush 31, 2) := by decide +kernel
theorem d9_6 : decode jdk_52_method_15_code 6 = .ok (.iushr, 1) := by decide +kernel
theorem d9_7 : decode jdk_52_method_15_code 7 = .ok (.i2b, 1) := by decide +kernel
theorem d9_8 : decode jdk_52_method_15_code 8 = .ok (.ireturn, 1) := by decide +kernel
theorem ef_cf1_1 (m : MethodId) (x0 : Addr) : entryFrame m #[(.ref x0), (.int (1 : Int32))] 2 = mkF m 0 #[.val (.ref x0), .val (.int (1 : Int32))] [] := by first | (simp [entryFrame, mkF, argsToLocals, Value.category]; done) | rfl
set_option maxRecDepth 65536 in
set_option maxHeartbeats 40000000 in
theorem rmcf1_1 (l : Launch) (Z : State) (a0 : Array Value) (hw : ∀ d ∈ tables_1, d.before a0 Z = true) (ws : List Jvm.Cond) (b : Addr) (kb : ClassId) (cs : List Int32) (h0 : Heap) (n0 : Nat) (Z0 : n0 ≤ h0.size) (Vb : Arv Z h0 b kb .byte (1 : Int32) (cs.map Value.int) (.int (0 : Int32))) :
    MetFree l mN_17 (head1 (Jvm.Cond.code mN_17 jdk_52_method_15_code 2 (some .byte) :: ws) ({ frames := 0, cells := 0, slots := 0, locals := 0 } : Room)) (fun a U => a = #[(.ref b), (.int (1 : Int32))] ∧ Z.Warmed39 U.vm ∧ U.heap = h0) (fun _ _ _ _ _ => True) (fun _ U o U' => ∃ v L, o = .returned v ∧ (Qv 0 h0 n0) v U'.heap L ∧ FrameEnd U o U' L ({ frames := 0, cells := 0, slots := 0, locals := 0 } : Room).cells ({ frames := 0, cells := 0, slots := 0, locals := 0 } : Room).slots) := by
  refine MetFree.of_bodySF (plainFor_of_name pn_2) hisR ?_
  intro p e s m args below meth c s₁ Bd hml0 hP hK
  obtain ⟨rfl, hZ, hh⟩ := hP
  have hx := Bd.exec
  have hby := Bd.bytes
  have hml : c.maxLocals = 2 := hml0
  have hown : s.vm.findClass "java/lang/StringUTF16" = some m.cls := findClass_of_methodNamed Bd.named
  have hnm := (name_of_methodNamed Bd.named Bd.method).1
  have hlk := Bd.notSynchronized
  have X0 : Stand p l e ({ frames := 0, cells := 0, slots := 0, locals := 0 } : Room) s m #[(.ref b), (.int (1 : Int32))] below meth c s₁ [] 0 0 := Stand.of_body Bd
  have e0 : s₁.heap = h0 := by rw [← hh, Bd.state]; rfl
  have N0 := Fr.nil n0
  show own_Ends p e below s FrameEnd (Qv 0 h0 n0) 0 0 (s₁.setTop (entryFrame m #[(.ref b), (.int (1 : Int32))] 2))
  refine own_of (U' := (s₁.setTop (mkF m 0 #[.val (.ref b), .val (.int (1 : Int32))] []))) (fun _ k => castTop (ef_cf1_1 m b) k) ?_
  refine own_iloadN X0 hx hby d9_0 rfl ?_
  refine own_aloadN X0 hx hby d9_1 rfl rfl ?_
  obtain ⟨cl83, Ar83, qa83, Sa83, Na83, -, -⟩ := id Vb
  have al83 := X0.arraylength hx (by rw [e0]; exact Ar83.1) (State.isArrayOf_alike hZ.alike Ar83.2.1) (g := (mkF m 2 #[.val (.ref b), .val (.int (1 : Int32))] [(.ref b), (.int (1 : Int32))])) rfl rfl (hb hby d9_2)
  rw [len_of Sa83 Na83] at al83
  refine own_of (U' := (s₁.setTop (mkF m 3 #[.val (.ref b), .val (.int (1 : Int32))] [(.int (1 : Int32)), (.int (1 : Int32))]))) (al83) ?_
  refine own_isub X0 hx hby d9_3 ?_
  refine own_eq (U' := (s₁.setTop (mkF m 4 #[.val (.ref b), .val (.int (1 : Int32))] [(.int (0 : Int32))]))) (by rw [show ((1 : Int32) - (1 : Int32)) = (0 : Int32) by decide]) ?_
  refine own_bipush X0 hx hby 31 d9_4 rfl ?_
  refine own_iushr X0 hx hby d9_6 ?_
  refine own_eq (U' := (s₁.setTop (mkF m 7 #[.val (.ref b), .val (.int (1 : Int32))] [(.int (0 : Int32))]))) (by rw [show (XT.ushr (0 : Int32) (31 : Int32)) = (0 : Int32) by decide]) ?_
  refine own_i2b X0 hx hby d9_7 ?_
  refine own_eq (U' := (s₁.setTop (mkF m 8 #[.val (.ref b), .val (.int (1 : Int32))] [(.int (0 : Int32))]))) (by rw [show ((0 : Int32).toInt8.toInt32) = (0 : Int32) by decide]) ?_
  exact own_retN X0 hx hlk (t := .byte) Bd.returns (by simp) (hb hby d9_8) (by decide) (by decide) (⟨rfl, N0, e0⟩)
theorem ef_cf1_2 (m : MethodId) (x0 : Addr) : entryFrame m #[(.ref x0), (.int (1 : Int32))] 2 = mkF m 0 #[.val (.ref x0), .val (.int (1 : Int32))] [] := by first | (simp [entryFrame, mkF, argsToLocals, Value.category]; done) | rfl
set_option maxRecDepth 65536 in
set_option maxHeartbeats 40000000 in
theorem rmcf1_2 (l : Launch) (Z : State) (a0 : Array Value) (hw : ∀ d ∈ tables_1, d.before a0 Z = true) (ws : List Jvm.Cond) (b : Addr) (kb : ClassId) (cs : List Int32) (h0 : Heap) (n0 : Nat) (Z0 : n0 ≤ h0.size) (Vb : Arv Z h0 b kb .byte (2 : Int32) (cs.map Value.int) (.int (0 : Int32))) :
    MetFree l mN_17 (head1 (Jvm.Cond.code mN_17 jdk_52_method_15_code 2 (some .byte) :: ws) ({ frames := 0, cells := 0, slots := 0, locals := 0 } : Room)) (fun a U => a = #[(.ref b), (.int (1 : Int32))] ∧ Z.Warmed39 U.vm ∧ U.heap = h0) (fun _ _ _ _ _ => True) (fun _ U o U' => ∃ v L, o = .returned v ∧ (Qv 1 h0 n0) v U'.heap L ∧ FrameEnd U o U' L ({ frames := 0, cells := 0, slots := 0, locals := 0 } : Room).cells ({ frames := 0, cells := 0, slots := 0, locals := 0 } : Room).slots) := by
  refine MetFree.of_bodySF (plainFor_of_name pn_2) hisR ?_
  intro p e s m args below meth c s₁ Bd hml0 hP hK
  obtain ⟨rfl, hZ, hh⟩ := hP
  have hx := Bd.exec
  have hby := Bd.bytes
  have hml : c.maxLocals = 2 := hml0
  have hown : s.vm.findClass "java/lang/StringUTF16" = some m.cls := findClass_of_methodNamed Bd.named
  have hnm := (name_of_methodNamed Bd.named Bd.method).1
  have hlk := Bd.notSynchronized
  have X0 : Stand p l e ({ frames := 0, cells := 0, slots := 0, locals := 0 } : Room) s m #[(.ref b), (.int (1 : Int32))] below meth c s₁ [] 0 0 := Stand.of_body Bd
  have e0 : s₁.heap = h0 := by rw [← hh, Bd.state]; rfl
  have N0 := Fr.nil n0
  show own_Ends p e below s FrameEnd (Qv 1 h0 n0) 0 0 (s₁.setTop (entryFrame m #[(.ref b), (.int (1 : Int32))] 2))
  refine own_of (U' := (s₁.setTop (mkF m 0 #[.val (.ref b), .val (.int (1 : Int32))] []))) (fun _ k => castTop (ef_cf1_2 m b) k) ?_
  refine own_iloadN X0 hx hby d9_0 rfl ?_
  refine own_aloadN X0 hx hby d9_1 rfl rfl ?_
  obtain ⟨cl84, Ar84, qa84, Sa84, Na84, -, -⟩ := id Vb
  have al84 := X0.arraylength hx (by rw [e0]; exact Ar84.1) (State.isArrayOf_alike hZ.alike Ar84.2.1) (g := (mkF m 2 #[.val (.ref b), .val (.int (1 : Int32))] [(.ref b), (.int (1 : Int32))])) rfl rfl (hb hby d9_2)
  rw [len_of Sa84 Na84] at al84
  refine own_of (U' := (s₁.setTop (mkF m 3 #[.val (.ref b), .val (.int (1 : Int32))] [(.int (2 : Int32)), (.int (1 : Int32))]))) (al84) ?_
  refine own_isub X0 hx hby d9_3 ?_
  refine own_eq (U' := (s₁.setTop (mkF m 4 #[.val (.ref b), .val (.int (1 : Int32))] [(.int (-1 : Int32))]))) (by rw [show ((1 : Int32) - (2 : Int32)) = (-1 : Int32) by decide]) ?_
  refine own_bipush X0 hx hby 31 d9_4 rfl ?_
  refine own_iushr X0 hx hby d9_6 ?_
  refine own_eq (U' := (s₁.setTop (mkF m 7 #[.val (.ref b), .val (.int (1 : Int32))] [(.int (1 : Int32))]))) (by rw [show (XT.ushr (-1 : Int32) (31 : Int32)) = (1 : Int32) by decide]) ?_
  refine own_i2b X0 hx hby d9_7 ?_
  refine own_eq (U' := (s₁.setTop (mkF m 8 #[.val (.ref b), .val (.int (1 : Int32))] [(.int (1 : Int32))]))) (by rw [show ((1 : Int32).toInt8.toInt32) = (1 : Int32) by decide]) ?_
  exact own_retN X0 hx hlk (t := .byte) Bd.returns (by simp) (hb hby d9_8) (by decide) (by decide) (⟨rfl, N0, e0⟩)
abbrev mN_18 : MethodName := ⟨"java/lang/String", "<init>", "([CIILjava/lang/Void;)V"⟩
theorem pd_12 : parseMethodDescriptor "([BI)B" = some ⟨[(.array .byte), .int], some .byte⟩ := by decide +kernel
theorem d2_0 : decode jdk_42_method_149_code 0 = .ok (.aload_n 0, 1) := by decide +kernel
theorem d2_1 : decode jdk_42_method_149_code 1 = .ok (.invokespecial 1, 3) := by decide +kernel
theorem d2_4 : decode jdk_42_method_149_code 4 = .ok (.iload_n 3, 1) := by decide +kernel
theorem d2_5 : decode jdk_42_method_149_code 5 = .ok (.ifCond .ne 22, 3) := by decide +kernel
theorem d2_27 : decode jdk_42_method_149_code 27 = .ok (.getstatic 38, 3) := by decide +kernel
theorem d2_30 : decode jdk_42_method_149_code 30 = .ok (.ifCond .eq 28, 3) := by decide +kernel
theorem d2_33 : decode jdk_42_method_149_code 33 = .ok (.aload_n 1, 1) := by decide +kernel
theorem d2_34 : decode jdk_42_method_149_code 34 = .ok (.iload_n 2, 1) := by decide +kernel
theorem d2_35 : decode jdk_42_method_149_code 35 = .ok (.iload_n 3, 1) := by decide +kernel
theorem d2_36 : decode jdk_42_method_149_code 36 = .ok (.invokestatic 177, 3) := by decide +kernel
theorem d2_39 : decode jdk_42_method_149_code 39 = .ok (.astore 5, 2) := by decide +kernel
theorem d2_41 : decode jdk_42_method_149_code 41 = .ok (.aload_n 0, 1) := by decide +kernel
theorem d2_42 : decode jdk_42_method_149_code 42 = .ok (.aload 5, 2) := by decide +kernel
theorem d2_44 : decode jdk_42_method_149_code 44 = .ok (.iload_n 3, 1) := by decide +kernel
theorem d2_45 : decode jdk_42_method_149_code 45 = .ok (.invokestatic 47, 3) := by decide +kernel
theorem d2_48 : decode jdk_42_method_149_code 48 = .ok (.putfield 15, 3) := by decide +kernel
theorem d2_51 : decode jdk_42_method_149_code 51 = .ok (.aload_n 0, 1) := by decide +kernel
theorem d2_52 : decode jdk_42_method_149_code 52 = .ok (.aload 5, 2) := by decide +kernel
theorem d2_54 : decode jdk_42_method_149_code 54 = .ok (.putfield 9, 3) := by decide +kernel
theorem d2_57 : decode jdk_42_method_149_code 57 = .ok (.return_, 1) := by decide +kernel
theorem ef_sv1 (m : MethodId) (x0 : Addr) (x1 : Addr) : entryFrame m #[(.ref x0), (.ref x1), (.int (0 : Int32)), (.int (1 : Int32)), .null] 6 = mkF m 0 #[.val (.ref x0), .val (.ref x1), .val (.int (0 : Int32)), .val (.int (1 : Int32)), .val .null, .unset] [] := by first | (simp [entryFrame, mkF, argsToLocals, Value.category]; done) | rfl
def Qsv1 (Z : State) (a1 : Addr) (c0 : Int32) (h0 : Heap) (n0 : Nat) (v : Option Value) (h : Heap) (L : List Loc) : Prop := v = none ∧ Fr n0 L ∧ Keep h0 h [a1] ∧ own_Str Z h a1 (1 : Int32) (2 : Int32) [c0]
set_option maxRecDepth 65536 in
set_option maxHeartbeats 40000000 in
theorem rmsv1 (l : Launch) (Z : State) (a0 : Array Value) (hw : ∀ d ∈ tables_1, d.before a0 Z = true) (ws : List Jvm.Cond) (a1 a2 : Addr) (kc : ClassId) (c0 : Int32) (g1 : Int32) (h0 : Heap) (n0 : Nat) (Z0 : n0 ≤ h0.size) (E1 : Exa Z h0 a1 "java/lang/String") (Fc : Fld Z h0 a1 "java/lang/String" "coder" "B" (.int (0 : Int32))) (Fv : Fld Z h0 a1 "java/lang/String" "value" "[B" .null) (Vc : Arv Z h0 a2 kc .char (1 : Int32) [(.int c0)] (.int (0 : Int32))) (g_a1 : n0 ≤ a1) (hb0 : 0 ≤ c0.toInt ∧ c0.toInt < 65536) (SC : Sta Z h0 "java/lang/String" "COMPACT_STRINGS" "Z" (.int g1)) (hg1 : ¬ (g1 = (0 : Int32))) (SA : Sta Z h0 "java/lang/StringUTF16" "$assertionsDisabled" "Z" (.int (1 : Int32))) (SHI : Sta Z h0 "java/lang/StringUTF16" "HI_BYTE_SHIFT" "I" (.int (0 : Int32))) (SLO : Sta Z h0 "java/lang/StringUTF16" "LO_BYTE_SHIFT" "I" (.int (8 : Int32))) :
    MetFree l mN_18 (head1 (Jvm.Cond.code mN_18 jdk_42_method_149_code 6 none :: ws) ({ frames := 4, cells := 2, slots := 3, locals := 57 } : Room)) (fun a U => a = #[(.ref a1), (.ref a2), (.int (0 : Int32)), (.int (1 : Int32)), .null] ∧ Z.Warmed39 U.vm ∧ U.heap = h0) (fun _ _ _ _ _ => True) (fun _ U o U' => ∃ v L, o = .returned v ∧ (Qsv1 Z a1 c0 h0 n0) v U'.heap L ∧ FrameEnd U o U' L ({ frames := 4, cells := 2, slots := 3, locals := 57 } : Room).cells ({ frames := 4, cells := 2, slots := 3, locals := 57 } : Room).slots) := by
  refine MetFree.of_bodySF (plainFor_of_name pn_1) hisR ?_
  intro p e s m args below meth c s₁ Bd hml0 hP hK
  obtain ⟨rfl, hZ, hh⟩ := hP
  have hx := Bd.exec
  have hby := Bd.bytes
  have hml : c.maxLocals = 6 := hml0
  have hown : s.vm.findClass "java/lang/String" = some m.cls := findClass_of_methodNamed Bd.named
  have hnm := (name_of_methodNamed Bd.named Bd.method).1
  have hlk := Bd.notSynchronized
  have X0 : Stand p l e ({ frames := 4, cells := 2, slots := 3, locals := 57 } : Room) s m #[(.ref a1), (.ref a2), (.int (0 : Int32)), (.int (1 : Int32)), .null] below meth c s₁ [] 0 0 := Stand.of_body Bd
  have e0 : s₁.heap = h0 := by rw [← hh, Bd.state]; rfl
  have N0 := Fr.nil n0
  have KK := Keep.refl h0 [a1]
  show own_Ends p e below s FrameEnd (Qsv1 Z a1 c0 h0 n0) 2 3 (s₁.setTop (entryFrame m #[(.ref a1), (.ref a2), (.int (0 : Int32)), (.int (1 : Int32)), .null] 6))
  refine own_of (U' := (s₁.setTop (mkF m 0 #[.val (.ref a1), .val (.ref a2), .val (.int (0 : Int32)), .val (.int (1 : Int32)), .val .null, .unset] []))) (fun _ k => castTop (ef_sv1 m a1 a2) k) ?_
  refine own_aloadN X0 hx hby d2_0 rfl rfl ?_
  obtain ⟨T85, X85, e85, st85⟩ := initO X0 hx hZ hown (own_w hw 11 rfl) (own_w hw 12 rfl) (own_w hw 13 rfl) e0 (g := (mkF m 1 #[.val (.ref a1), .val (.ref a2), .val (.int (0 : Int32)), .val (.int (1 : Int32)), .val .null, .unset] [(.ref a1)])) rfl (by rw [hml]; rfl) rfl (hb hby d2_1) (by decide) (W := 0) (by show 2 * 0 + _ ≤ _; exact Nat.le_of_eq rfl) (by decide)
  refine own_of (U' := (T85.setTop (mkF m 4 #[.val (.ref a1), .val (.ref a2), .val (.int (0 : Int32)), .val (.int (1 : Int32)), .val .null, .unset] []))) (st85) ?_
  refine own_iloadN X85 hx hby d2_4 rfl ?_
  have hc5_86 : ¬ ((1 : Int32) = (0 : Int32)) := by decide
  refine own_ifYes X85 hx hby 5 27 d2_5 ((if0 _ _).trans (feq hc5_86).2) (by decide) (by decide) ?_
  obtain ⟨T87, X87, e87, st87⟩ := getS2 X85 hx hZ hown (host := "") (Or.inl (own_w hw 36 rfl)) Via.refl e85 SC (g := (mkF m 27 #[.val (.ref a1), .val (.ref a2), .val (.int (0 : Int32)), .val (.int (1 : Int32)), .val .null, .unset] [])) rfl (hb hby d2_27)
  refine own_of (U' := (T87.setTop (mkF m 30 #[.val (.ref a1), .val (.ref a2), .val (.int (0 : Int32)), .val (.int (1 : Int32)), .val .null, .unset] [(.int g1)]))) (st87) ?_
  have hc30_88 : ¬ (g1 = (0 : Int32)) := hg1
  refine own_ifNo X87 hx hby d2_30 ((if0 _ _).trans (feq hc30_88).1) ?_
  by_cases qB : ((255 : Int32) < c0)
  · skip
    refine own_aloadN X87 hx hby d2_33 rfl rfl ?_
    refine own_iloadN X87 hx hby d2_34 rfl ?_
    refine own_iloadN X87 hx hby d2_35 rfl ?_
    obtain ⟨_, _, ⟨T89, L89, k89, n89⟩, -, X89, ⟨Lc89, hQ89, l89, y89, z89⟩, st89⟩ := Jvm.LawKit.callS X87 hx (y := mN_16) hown (mvT hZ (own_w hw 37 rfl)) (mvT hZ (own_w hw 38 rfl)) (mvT hZ (own_w hw 39 rfl)) (mvT hZ (own_w hw 40 rfl)) (by decide) (backOf (W := 0) (rmcb1 l Z a0 hw [] a2 kc c0 h0 n0 Z0 Vc hb0 SA SHI SLO qB) hZ (own_w hw 40 rfl) (own_w hw 39 rfl) (by decide) (by decide)) (g := (mkF m 36 #[.val (.ref a1), .val (.ref a2), .val (.int (0 : Int32)), .val (.int (1 : Int32)), .val .null, .unset] [(.int (1 : Int32)), (.int (0 : Int32)), (.ref a2)])) rfl (by rw [hml]; rfl) (argsL := [(.ref a2), (.int (0 : Int32)), (.int (1 : Int32))]) (rest := []) (lenOf pd_11 rfl) rfl (by show 2 * 0 + _ ≤ _; exact Nat.le_of_eq rfl) (hb hby d2_36) (fun _ _ => ⟨rfl, e87, (by decide : 0 + 2 ≤ _), (by decide : 0 + 3 ≤ _)⟩)
    dsimp only [Pt.U, Pt.locs, Pt.cells, Pt.slots] at X89 l89 y89 z89 st89 hQ89
    subst l89 y89 z89
    obtain ⟨u89, ku89, rfl, Nq89, Kp89, gq89, Vq89⟩ := hQ89
    have g_u89 : n0 ≤ u89 := Nat.le_trans Z0 gq89
    have sz_u89 : h0.size ≤ u89 := Nat.le_trans KK.1 gq89
    have ne_a1_u89 : a1 ≠ u89 := Nat.ne_of_lt (Nat.lt_of_lt_of_le E1.lt gq89)
    have ne_a2_u89 : a2 ≠ u89 := Nat.ne_of_lt (Nat.lt_of_lt_of_le Vc.lt gq89)
    have N89 := Fr.app N0 Nq89
    replace Z0 := Nat.le_trans Z0 Kp89.1
    replace E1 := E1.keep Kp89
    replace Fc := Fc.keep Kp89 nin0
    replace Fv := Fv.keep Kp89 nin0
    replace Vc := Vc.keep Kp89 nin0
    replace SC := own_staKeep SC Kp89 ns0
    replace SA := own_staKeep SA Kp89 ns0
    replace SHI := own_staKeep SHI Kp89 ns0
    replace SLO := own_staKeep SLO Kp89 ns0
    replace KK := KK.trans Kp89 all0
    refine own_of (U' := (T89.setTop (mkF m 39 #[.val (.ref a1), .val (.ref a2), .val (.int (0 : Int32)), .val (.int (1 : Int32)), .val .null, .unset] [(.ref u89)]))) (st89) ?_
    refine own_astore X89 hx hby d2_39 rfl (l' := #[.val (.ref a1), .val (.ref a2), .val (.int (0 : Int32)), .val (.int (1 : Int32)), .val .null, .val (.ref u89)]) rfl ?_
    refine own_aloadN X89 hx hby d2_41 rfl rfl ?_
    refine own_aload X89 hx hby d2_42 rfl rfl ?_
    refine own_iloadN X89 hx hby d2_44 rfl ?_
    obtain ⟨_, _, ⟨T90, L90, k90, n90⟩, -, X90, ⟨Lc90, hQ90, l90, y90, z90⟩, st90⟩ := Jvm.LawKit.callS X89 hx (y := mN_17) hown (mvT hZ (own_w hw 44 rfl)) (mvT hZ (own_w hw 45 rfl)) (mvT hZ (own_w hw 39 rfl)) (mvT hZ (own_w hw 46 rfl)) (by decide) (backOf (W := 1) (rmcf1_2 l Z a0 hw [] u89 ku89 [(own_lo8 c0), (own_hi8 c0)] T89.heap n0 Z0 Vq89) hZ (own_w hw 46 rfl) (own_w hw 39 rfl) (by decide) (by decide)) (g := (mkF m 45 #[.val (.ref a1), .val (.ref a2), .val (.int (0 : Int32)), .val (.int (1 : Int32)), .val .null, .val (.ref u89)] [(.int (1 : Int32)), (.ref u89), (.ref a1)])) rfl (by rw [hml]; rfl) (argsL := [(.ref u89), (.int (1 : Int32))]) (rest := [(.ref a1)]) (lenOf pd_12 rfl) rfl (by show 2 * 0 + _ ≤ _; exact Nat.le_of_eq rfl) (hb hby d2_45) (fun _ _ => ⟨rfl, rfl, (by decide : 2 + 0 ≤ _), (by decide : 3 + 0 ≤ _)⟩)
    dsimp only [Pt.U, Pt.locs, Pt.cells, Pt.slots] at X90 l90 y90 z90 st90 hQ90
    subst l90 y90 z90
    obtain ⟨rfl, Nq90, e90⟩ := hQ90
    have N90 := Fr.app N89 Nq90
    refine own_of (U' := (T90.setTop (mkF m 48 #[.val (.ref a1), .val (.ref a2), .val (.int (0 : Int32)), .val (.int (1 : Int32)), .val .null, .val (.ref u89)] [(.int (1 : Int32)), (.ref a1)]))) (st90) ?_
    obtain ⟨T91, h91, X91, e91, W91, st91⟩ := putFN X90 hx hZ hown (own_w hw 21 rfl) Via.refl e90 Fc E1 (Or.inr ⟨(own_w hw 17 rfl), rfl, hnm⟩) (own_w hw 1 rfl) (ty := .byte) (v' := (.int (1 : Int32))) (by decide) rfl (by decide) (g := (mkF m 48 #[.val (.ref a1), .val (.ref a2), .val (.int (0 : Int32)), .val (.int (1 : Int32)), .val .null, .val (.ref u89)] [(.int (1 : Int32)), (.ref a1)])) rfl rfl (hb hby d2_48)
    replace Z0 := Nat.le_trans Z0 (Keep.of_wr W91).1
    replace E1 := E1.wr W91
    replace Fc := Fc.same W91
    replace Fv := Fv.other W91 (Or.inr (slot_ne (Or.inr (own_w hw 16 rfl)) (Or.inr (own_w hw 17 rfl)) (by decide) (t := (.array .byte)) (t' := .byte) (by decide) (by decide)))
    replace SC := SC.wr W91
    replace SA := SA.wr W91
    replace SHI := SHI.wr W91
    replace SLO := SLO.wr W91
    replace KK := KK.wr W91 (Or.inl (List.mem_of_getElem? (i := 0) rfl))
    replace Vq89 := Vq89.other W91 (Ne.symm ne_a1_u89)
    have N91 := Fr.snoc X91 N90 g_a1
    refine own_of (U' := (T91.setTop (mkF m 51 #[.val (.ref a1), .val (.ref a2), .val (.int (0 : Int32)), .val (.int (1 : Int32)), .val .null, .val (.ref u89)] []))) (st91) ?_
    refine own_aloadN X91 hx hby d2_51 rfl rfl ?_
    refine own_aload X91 hx hby d2_52 rfl rfl ?_
    obtain ⟨T92, h92, X92, e92, W92, st92⟩ := putF X91 hx hZ hown (host := "") (Or.inl (own_w hw 20 rfl)) Via.refl e91 Fv E1 (Or.inr ⟨(own_w hw 16 rfl), rfl, hnm⟩) (own_w hw 1 rfl) (ty := (.array .byte)) (by decide) rfl rfl (g := (mkF m 54 #[.val (.ref a1), .val (.ref a2), .val (.int (0 : Int32)), .val (.int (1 : Int32)), .val .null, .val (.ref u89)] [(.ref u89), (.ref a1)])) rfl rfl (hb hby d2_54)
    replace Z0 := Nat.le_trans Z0 (Keep.of_wr W92).1
    replace E1 := E1.wr W92
    replace Fc := Fc.other W92 (Or.inr (slot_ne (Or.inr (own_w hw 17 rfl)) (Or.inr (own_w hw 16 rfl)) (by decide) (t := .byte) (t' := (.array .byte)) (by decide) (by decide)))
    replace Fv := Fv.same W92
    replace SC := SC.wr W92
    replace SA := SA.wr W92
    replace SHI := SHI.wr W92
    replace SLO := SLO.wr W92
    replace KK := KK.wr W92 (Or.inl (List.mem_of_getElem? (i := 0) rfl))
    replace Vq89 := Vq89.other W92 (Ne.symm ne_a1_u89)
    have N92 := Fr.snoc X92 N91 g_a1
    refine own_of (U' := (T92.setTop (mkF m 57 #[.val (.ref a1), .val (.ref a2), .val (.int (0 : Int32)), .val (.int (1 : Int32)), .val .null, .val (.ref u89)] []))) (st92) ?_
    exact own_ret0 X92 hx hlk Bd.returns (hb hby d2_57) (by decide) (by decide) (by rw [e92]; exact ⟨rfl, N92, KK, ⟨E1, u89, ku89, Fv, Or.inr ⟨Fc, Vq89⟩⟩⟩)
  · skip
    have qB0 : ¬ ((255 : Int32) < c0) := fun z => qB z
    refine own_aloadN X87 hx hby d2_33 rfl rfl ?_
    refine own_iloadN X87 hx hby d2_34 rfl ?_
    refine own_iloadN X87 hx hby d2_35 rfl ?_
    obtain ⟨_, _, ⟨T93, L93, k93, n93⟩, -, X93, ⟨Lc93, hQ93, l93, y93, z93⟩, st93⟩ := Jvm.LawKit.callS X87 hx (y := mN_16) hown (mvT hZ (own_w hw 37 rfl)) (mvT hZ (own_w hw 38 rfl)) (mvT hZ (own_w hw 39 rfl)) (mvT hZ (own_w hw 40 rfl)) (by decide) (backOf (W := 0) (rmcl1 l Z a0 hw [] a2 kc c0 h0 n0 Z0 Vc hb0 SA SHI SLO qB0) hZ (own_w hw 40 rfl) (own_w hw 39 rfl) (by decide) (by decide)) (g := (mkF m 36 #[.val (.ref a1), .val (.ref a2), .val (.int (0 : Int32)), .val (.int (1 : Int32)), .val .null, .unset] [(.int (1 : Int32)), (.int (0 : Int32)), (.ref a2)])) rfl (by rw [hml]; rfl) (argsL := [(.ref a2), (.int (0 : Int32)), (.int (1 : Int32))]) (rest := []) (lenOf pd_11 rfl) rfl (by show 2 * 0 + _ ≤ _; exact Nat.le_of_eq rfl) (hb hby d2_36) (fun _ _ => ⟨rfl, e87, (by decide : 0 + 1 ≤ _), (by decide : 0 + 1 ≤ _)⟩)
    dsimp only [Pt.U, Pt.locs, Pt.cells, Pt.slots] at X93 l93 y93 z93 st93 hQ93
    subst l93 y93 z93
    obtain ⟨u93, ku93, rfl, Nq93, Kp93, gq93, Vq93⟩ := hQ93
    have g_u93 : n0 ≤ u93 := Nat.le_trans Z0 gq93
    have sz_u93 : h0.size ≤ u93 := Nat.le_trans KK.1 gq93
    have ne_a1_u93 : a1 ≠ u93 := Nat.ne_of_lt (Nat.lt_of_lt_of_le E1.lt gq93)
    have ne_a2_u93 : a2 ≠ u93 := Nat.ne_of_lt (Nat.lt_of_lt_of_le Vc.lt gq93)
    have N93 := Fr.app N0 Nq93
    replace Z0 := Nat.le_trans Z0 Kp93.1
    replace E1 := E1.keep Kp93
    replace Fc := Fc.keep Kp93 nin0
    replace Fv := Fv.keep Kp93 nin0
    replace Vc := Vc.keep Kp93 nin0
    replace SC := own_staKeep SC Kp93 ns0
    replace SA := own_staKeep SA Kp93 ns0
    replace SHI := own_staKeep SHI Kp93 ns0
    replace SLO := own_staKeep SLO Kp93 ns0
    replace KK := KK.trans Kp93 all0
    refine own_of (U' := (T93.setTop (mkF m 39 #[.val (.ref a1), .val (.ref a2), .val (.int (0 : Int32)), .val (.int (1 : Int32)), .val .null, .unset] [(.ref u93)]))) (st93) ?_
    refine own_astore X93 hx hby d2_39 rfl (l' := #[.val (.ref a1), .val (.ref a2), .val (.int (0 : Int32)), .val (.int (1 : Int32)), .val .null, .val (.ref u93)]) rfl ?_
    refine own_aloadN X93 hx hby d2_41 rfl rfl ?_
    refine own_aload X93 hx hby d2_42 rfl rfl ?_
    refine own_iloadN X93 hx hby d2_44 rfl ?_
    obtain ⟨_, _, ⟨T94, L94, k94, n94⟩, -, X94, ⟨Lc94, hQ94, l94, y94, z94⟩, st94⟩ := Jvm.LawKit.callS X93 hx (y := mN_17) hown (mvT hZ (own_w hw 44 rfl)) (mvT hZ (own_w hw 45 rfl)) (mvT hZ (own_w hw 39 rfl)) (mvT hZ (own_w hw 46 rfl)) (by decide) (backOf (W := 1) (rmcf1_1 l Z a0 hw [] u93 ku93 [(own_b8 c0)] T93.heap n0 Z0 Vq93) hZ (own_w hw 46 rfl) (own_w hw 39 rfl) (by decide) (by decide)) (g := (mkF m 45 #[.val (.ref a1), .val (.ref a2), .val (.int (0 : Int32)), .val (.int (1 : Int32)), .val .null, .val (.ref u93)] [(.int (1 : Int32)), (.ref u93), (.ref a1)])) rfl (by rw [hml]; rfl) (argsL := [(.ref u93), (.int (1 : Int32))]) (rest := [(.ref a1)]) (lenOf pd_12 rfl) rfl (by show 2 * 0 + _ ≤ _; exact Nat.le_of_eq rfl) (hb hby d2_45) (fun _ _ => ⟨rfl, rfl, (by decide : 1 + 0 ≤ _), (by decide : 1 + 0 ≤ _)⟩)
    dsimp only [Pt.U, Pt.locs, Pt.cells, Pt.slots] at X94 l94 y94 z94 st94 hQ94
    subst l94 y94 z94
    obtain ⟨rfl, Nq94, e94⟩ := hQ94
    have N94 := Fr.app N93 Nq94
    refine own_of (U' := (T94.setTop (mkF m 48 #[.val (.ref a1), .val (.ref a2), .val (.int (0 : Int32)), .val (.int (1 : Int32)), .val .null, .val (.ref u93)] [(.int (0 : Int32)), (.ref a1)]))) (st94) ?_
    obtain ⟨T95, h95, X95, e95, W95, st95⟩ := putFN X94 hx hZ hown (own_w hw 21 rfl) Via.refl e94 Fc E1 (Or.inr ⟨(own_w hw 17 rfl), rfl, hnm⟩) (own_w hw 1 rfl) (ty := .byte) (v' := (.int (0 : Int32))) (by decide) rfl (by decide) (g := (mkF m 48 #[.val (.ref a1), .val (.ref a2), .val (.int (0 : Int32)), .val (.int (1 : Int32)), .val .null, .val (.ref u93)] [(.int (0 : Int32)), (.ref a1)])) rfl rfl (hb hby d2_48)
    replace Z0 := Nat.le_trans Z0 (Keep.of_wr W95).1
    replace E1 := E1.wr W95
    replace Fc := Fc.same W95
    replace Fv := Fv.other W95 (Or.inr (slot_ne (Or.inr (own_w hw 16 rfl)) (Or.inr (own_w hw 17 rfl)) (by decide) (t := (.array .byte)) (t' := .byte) (by decide) (by decide)))
    replace SC := SC.wr W95
    replace SA := SA.wr W95
    replace SHI := SHI.wr W95
    replace SLO := SLO.wr W95
    replace KK := KK.wr W95 (Or.inl (List.mem_of_getElem? (i := 0) rfl))
    replace Vq93 := Vq93.other W95 (Ne.symm ne_a1_u93)
    have N95 := Fr.snoc X95 N94 g_a1
    refine own_of (U' := (T95.setTop (mkF m 51 #[.val (.ref a1), .val (.ref a2), .val (.int (0 : Int32)), .val (.int (1 : Int32)), .val .null, .val (.ref u93)] []))) (st95) ?_
    refine own_aloadN X95 hx hby d2_51 rfl rfl ?_
    refine own_aload X95 hx hby d2_52 rfl rfl ?_
    obtain ⟨T96, h96, X96, e96, W96, st96⟩ := putF X95 hx hZ hown (host := "") (Or.inl (own_w hw 20 rfl)) Via.refl e95 Fv E1 (Or.inr ⟨(own_w hw 16 rfl), rfl, hnm⟩) (own_w hw 1 rfl) (ty := (.array .byte)) (by decide) rfl rfl (g := (mkF m 54 #[.val (.ref a1), .val (.ref a2), .val (.int (0 : Int32)), .val (.int (1 : Int32)), .val .null, .val (.ref u93)] [(.ref u93), (.ref a1)])) rfl rfl (hb hby d2_54)
    replace Z0 := Nat.le_trans Z0 (Keep.of_wr W96).1
    replace E1 := E1.wr W96
    replace Fc := Fc.other W96 (Or.inr (slot_ne (Or.inr (own_w hw 17 rfl)) (Or.inr (own_w hw 16 rfl)) (by decide) (t := .byte) (t' := (.array .byte)) (by decide) (by decide)))
    replace Fv := Fv.same W96
    replace SC := SC.wr W96
    replace SA := SA.wr W96
    replace SHI := SHI.wr W96
    replace SLO := SLO.wr W96
    replace KK := KK.wr W96 (Or.inl (List.mem_of_getElem? (i := 0) rfl))
    replace Vq93 := Vq93.other W96 (Ne.symm ne_a1_u93)
    have N96 := Fr.snoc X96 N95 g_a1
    refine own_of (U' := (T96.setTop (mkF m 57 #[.val (.ref a1), .val (.ref a2), .val (.int (0 : Int32)), .val (.int (1 : Int32)), .val .null, .val (.ref u93)] []))) (st96) ?_
    exact own_ret0 X96 hx hlk Bd.returns (hb hby d2_57) (by decide) (by decide) (by rw [e96]; exact ⟨rfl, N96, KK, ⟨E1, u93, ku93, Fv, Or.inl ⟨Fc, Vq93, (List.forall_mem_cons.mpr ⟨qB0, (fun _ h => nomatch h)⟩)⟩⟩⟩)
abbrev mN_19 : MethodName := ⟨"java/lang/String", "<init>", "([C)V"⟩
theorem pd_13 : parseMethodDescriptor "([CIILjava/lang/Void;)V" = some ⟨[(.array .char), .int, .int, (.object "java/lang/Void")], none⟩ := by decide +kernel
theorem d1_0 : decode jdk_42_method_3_code 0 = .ok (.aload_n 0, 1) := by decide +kernel
theorem d1_1 : decode jdk_42_method_3_code 1 = .ok (.aload_n 1, 1) := by decide +kernel
theorem d1_2 : decode jdk_42_method_3_code 2 = .ok (.iconst 0, 1) := by decide +kernel
theorem d1_3 : decode jdk_42_method_3_code 3 = .ok (.aload_n 1, 1) := by decide +kernel
theorem d1_4 : decode jdk_42_method_3_code 4 = .ok (.arraylength, 1) := by decide +kernel
theorem d1_5 : decode jdk_42_method_3_code 5 = .ok (.aconst_null, 1) := by decide +kernel
theorem d1_6 : decode jdk_42_method_3_code 6 = .ok (.invokespecial 27, 3) := by decide +kernel
theorem d1_9 : decode jdk_42_method_3_code 9 = .ok (.return_, 1) := by decide +kernel
theorem ef_si1 (m : MethodId) (x0 : Addr) (x1 : Addr) : entryFrame m #[(.ref x0), (.ref x1)] 2 = mkF m 0 #[.val (.ref x0), .val (.ref x1)] [] := by first | (simp [entryFrame, mkF, argsToLocals, Value.category]; done) | rfl
set_option maxRecDepth 65536 in
set_option maxHeartbeats 40000000 in
theorem rmsi1 (l : Launch) (Z : State) (a0 : Array Value) (hw : ∀ d ∈ tables_1, d.before a0 Z = true) (ws : List Jvm.Cond) (a1 a2 : Addr) (kc : ClassId) (c0 : Int32) (g1 : Int32) (h0 : Heap) (n0 : Nat) (Z0 : n0 ≤ h0.size) (E1 : Exa Z h0 a1 "java/lang/String") (Fc : Fld Z h0 a1 "java/lang/String" "coder" "B" (.int (0 : Int32))) (Fv : Fld Z h0 a1 "java/lang/String" "value" "[B" .null) (Vc : Arv Z h0 a2 kc .char (1 : Int32) [(.int c0)] (.int (0 : Int32))) (g_a1 : n0 ≤ a1) (hb0 : 0 ≤ c0.toInt ∧ c0.toInt < 65536) (SC : Sta Z h0 "java/lang/String" "COMPACT_STRINGS" "Z" (.int g1)) (hg1 : ¬ (g1 = (0 : Int32))) (SA : Sta Z h0 "java/lang/StringUTF16" "$assertionsDisabled" "Z" (.int (1 : Int32))) (SHI : Sta Z h0 "java/lang/StringUTF16" "HI_BYTE_SHIFT" "I" (.int (0 : Int32))) (SLO : Sta Z h0 "java/lang/StringUTF16" "LO_BYTE_SHIFT" "I" (.int (8 : Int32))) :
    MetFree l mN_19 (head1 (Jvm.Cond.code mN_19 jdk_42_method_3_code 2 none :: ws) ({ frames := 5, cells := 2, slots := 3, locals := 74 } : Room)) (fun a U => a = #[(.ref a1), (.ref a2)] ∧ Z.Warmed39 U.vm ∧ U.heap = h0) (fun _ _ _ _ _ => True) (fun _ U o U' => ∃ v L, o = .returned v ∧ (Qsv1 Z a1 c0 h0 n0) v U'.heap L ∧ FrameEnd U o U' L ({ frames := 5, cells := 2, slots := 3, locals := 74 } : Room).cells ({ frames := 5, cells := 2, slots := 3, locals := 74 } : Room).slots) := by
  refine MetFree.of_bodySF (plainFor_of_name pn_1) hisR ?_
  intro p e s m args below meth c s₁ Bd hml0 hP hK
  obtain ⟨rfl, hZ, hh⟩ := hP
  have hx := Bd.exec
  have hby := Bd.bytes
  have hml : c.maxLocals = 2 := hml0
  have hown : s.vm.findClass "java/lang/String" = some m.cls := findClass_of_methodNamed Bd.named
  have hnm := (name_of_methodNamed Bd.named Bd.method).1
  have hlk := Bd.notSynchronized
  have X0 : Stand p l e ({ frames := 5, cells := 2, slots := 3, locals := 74 } : Room) s m #[(.ref a1), (.ref a2)] below meth c s₁ [] 0 0 := Stand.of_body Bd
  have e0 : s₁.heap = h0 := by rw [← hh, Bd.state]; rfl
  have N0 := Fr.nil n0
  have KK := Keep.refl h0 [a1]
  show own_Ends p e below s FrameEnd (Qsv1 Z a1 c0 h0 n0) 2 3 (s₁.setTop (entryFrame m #[(.ref a1), (.ref a2)] 2))
  refine own_of (U' := (s₁.setTop (mkF m 0 #[.val (.ref a1), .val (.ref a2)] []))) (fun _ k => castTop (ef_si1 m a1 a2) k) ?_
  refine own_aloadN X0 hx hby d1_0 rfl rfl ?_
  refine own_aloadN X0 hx hby d1_1 rfl rfl ?_
  refine own_iconst X0 hx hby 0 d1_2 rfl ?_
  refine own_aloadN X0 hx hby d1_3 rfl rfl ?_
  obtain ⟨cl97, Ar97, qa97, Sa97, Na97, -, -⟩ := id Vc
  have al97 := X0.arraylength hx (by rw [e0]; exact Ar97.1) (State.isArrayOf_alike hZ.alike Ar97.2.1) (g := (mkF m 4 #[.val (.ref a1), .val (.ref a2)] [(.ref a2), (.int (0 : Int32)), (.ref a2), (.ref a1)])) rfl rfl (hb hby d1_4)
  rw [len_of Sa97 Na97] at al97
  refine own_of (U' := (s₁.setTop (mkF m 5 #[.val (.ref a1), .val (.ref a2)] [(.int (1 : Int32)), (.int (0 : Int32)), (.ref a2), (.ref a1)]))) (al97) ?_
  refine own_aconstNull X0 hx hby d1_5 ?_
  obtain ⟨_, _, ⟨T98, L98, k98, n98⟩, -, X98, ⟨Lc98, hQ98, l98, y98, z98⟩, st98⟩ := X0.specialBack hx (y := mN_18) rfl hown (mvT hZ (own_w hw 7 rfl)) (mvT hZ (own_w hw 8 rfl)) (mvT hZ (own_w hw 10 rfl)) (by decide) (backOf (W := 0) (rmsv1 l Z a0 hw [] a1 a2 kc c0 g1 h0 n0 Z0 E1 Fc Fv Vc g_a1 hb0 SC hg1 SA SHI SLO) hZ (own_w hw 10 rfl) (own_w hw 2 rfl) (by decide) (by decide)) (g := (mkF m 6 #[.val (.ref a1), .val (.ref a2)] [.null, (.int (1 : Int32)), (.int (0 : Int32)), (.ref a2), (.ref a1)])) rfl (by rw [hml]; rfl) (Steps.refl _) (a := a1) (argsL := [(.ref a2), (.int (0 : Int32)), (.int (1 : Int32)), .null]) (rest := []) (lenOf pd_13 rfl) rfl (by show 2 * 0 + _ ≤ _; exact Nat.le_of_eq rfl) (hb hby d1_6) (fun _ _ => ⟨rfl, e0, (by decide : 0 + 2 ≤ _), (by decide : 0 + 3 ≤ _)⟩)
  dsimp only [Pt.U, Pt.locs, Pt.cells, Pt.slots] at X98 l98 y98 z98 st98 hQ98
  subst l98 y98 z98
  obtain ⟨rfl, Nq98, Kp98, Tq98⟩ := hQ98
  have N98 := Fr.app N0 Nq98
  have nst_a1 := E1.nostat
  replace Z0 := Nat.le_trans Z0 Kp98.1
  replace E1 := E1.keep Kp98
  replace SC := own_staKeep SC Kp98 (nsS nst_a1 ns0)
  replace SA := own_staKeep SA Kp98 (nsS nst_a1 ns0)
  replace SHI := own_staKeep SHI Kp98 (nsS nst_a1 ns0)
  replace SLO := own_staKeep SLO Kp98 (nsS nst_a1 ns0)
  replace KK := KK.trans Kp98 (allS (Or.inl (List.mem_of_getElem? (i := 0) rfl)) all0)
  refine own_of (U' := (T98.setTop (mkF m 9 #[.val (.ref a1), .val (.ref a2)] []))) (fun _ k => st98.trans k) ?_
  exact own_ret0 X98 hx hlk Bd.returns (hb hby d1_9) (by decide) (by decide) (⟨rfl, N98, KK, Tq98⟩)
theorem ef_nl2 (m : MethodId)  : entryFrame m #[(.int (2 : Int32))] 1 = mkF m 0 #[.val (.int (2 : Int32))] [] := by first | (simp [entryFrame, mkF, argsToLocals, Value.category]; done) | rfl
set_option maxRecDepth 65536 in
set_option maxHeartbeats 40000000 in
theorem rmnl2 (l : Launch) (Z : State) (a0 : Array Value) (hw : ∀ d ∈ tables_1, d.before a0 Z = true) (ws : List Jvm.Cond)  (h0 : Heap) (n0 : Nat) (Z0 : n0 ≤ h0.size)  :
    MetFree l mN_12 (head1 (Jvm.Cond.code mN_12 jdk_52_method_3_code 1 (some .int) :: ws) ({ frames := 0, cells := 0, slots := 0, locals := 0 } : Room)) (fun a U => a = #[(.int (2 : Int32))] ∧ Z.Warmed39 U.vm ∧ U.heap = h0) (fun _ _ _ _ _ => True) (fun _ U o U' => ∃ v L, o = .returned v ∧ (Qv 4 h0 n0) v U'.heap L ∧ FrameEnd U o U' L ({ frames := 0, cells := 0, slots := 0, locals := 0 } : Room).cells ({ frames := 0, cells := 0, slots := 0, locals := 0 } : Room).slots) := by
  refine MetFree.of_bodySF (plainFor_of_name pn_2) hisR ?_
  intro p e s m args below meth c s₁ Bd hml0 hP hK
  obtain ⟨rfl, hZ, hh⟩ := hP
  have hx := Bd.exec
  have hby := Bd.bytes
  have hml : c.maxLocals = 1 := hml0
  have hown : s.vm.findClass "java/lang/StringUTF16" = some m.cls := findClass_of_methodNamed Bd.named
  have hnm := (name_of_methodNamed Bd.named Bd.method).1
  have hlk := Bd.notSynchronized
  have X0 : Stand p l e ({ frames := 0, cells := 0, slots := 0, locals := 0 } : Room) s m #[(.int (2 : Int32))] below meth c s₁ [] 0 0 := Stand.of_body Bd
  have e0 : s₁.heap = h0 := by rw [← hh, Bd.state]; rfl
  have N0 := Fr.nil n0
  show own_Ends p e below s FrameEnd (Qv 4 h0 n0) 0 0 (s₁.setTop (entryFrame m #[(.int (2 : Int32))] 1))
  refine own_of (U' := (s₁.setTop (mkF m 0 #[.val (.int (2 : Int32))] []))) (fun _ k => castTop (ef_nl2 m) k) ?_
  refine own_iloadN X0 hx hby d18_0 rfl ?_
  have hc1_99 : ¬ ((2 : Int32) < (0 : Int32)) := by decide
  refine own_ifYes X0 hx hby 1 12 d18_1 ((if0 _ _).trans (flt hc1_99).2.1) (by decide) (by decide) ?_
  refine own_iloadN X0 hx hby d18_12 rfl ?_
  refine own_of (U' := (s₁.setTop (mkF m 15 #[.val (.int (2 : Int32))] [(.int (1073741823 : Int32)), (.int (2 : Int32))]))) (X0.ldcInt hx hown (mvT hZ (own_w hw 82 rfl)) (g := (mkF m 13 #[.val (.int (2 : Int32))] [(.int (2 : Int32))])) rfl (hb hby d18_13)) ?_
  have hc15_100 : (2 : Int32) < (1073741823 : Int32) := by decide
  refine own_icmpYes X0 hx hby 15 55 d18_15 (tlt hc15_100).1 (by decide) (by decide) ?_
  refine own_iloadN X0 hx hby d18_55 rfl ?_
  refine own_iconst X0 hx hby 1 d18_56 rfl ?_
  refine own_ishl X0 hx hby d18_57 ?_
  refine own_eq (U' := (s₁.setTop (mkF m 58 #[.val (.int (2 : Int32))] [(.int (4 : Int32))]))) (by rw [show ((2 : Int32) <<< ((1 : Int32) &&& 31)) = (4 : Int32) by decide]) ?_
  exact own_retI X0 hx hlk Bd.returns (hb hby d18_58) (by decide) (by decide) (⟨rfl, N0, e0⟩)
theorem ef_nb2 (m : MethodId)  : entryFrame m #[(.int (2 : Int32))] 1 = mkF m 0 #[.val (.int (2 : Int32))] [] := by first | (simp [entryFrame, mkF, argsToLocals, Value.category]; done) | rfl
def Qnb2 (Z : State) (h0 : Heap) (n0 : Nat) (v : Option Value) (h : Heap) (L : List Loc) : Prop := ∃ (b : Addr) (kb : ClassId), v = some (.ref b) ∧ Fr n0 L ∧ Keep h0 h [] ∧ h0.size ≤ b ∧ Arv Z h b kb .byte (4 : Int32) [(.int (0 : Int32)), (.int (0 : Int32)), (.int (0 : Int32)), (.int (0 : Int32))] (.int (0 : Int32))
set_option maxRecDepth 65536 in
set_option maxHeartbeats 40000000 in
theorem rmnb2 (l : Launch) (Z : State) (a0 : Array Value) (hw : ∀ d ∈ tables_1, d.before a0 Z = true) (ws : List Jvm.Cond)  (h0 : Heap) (n0 : Nat) (Z0 : n0 ≤ h0.size)  :
    MetFree l mN_13 (head1 (Jvm.Cond.code mN_13 jdk_52_method_2_code 1 (some (.array .byte)) :: ws) ({ frames := 1, cells := 1, slots := 4, locals := 12 } : Room)) (fun a U => a = #[(.int (2 : Int32))] ∧ Z.Warmed39 U.vm ∧ U.heap = h0) (fun _ _ _ _ _ => True) (fun _ U o U' => ∃ v L, o = .returned v ∧ (Qnb2 Z h0 n0) v U'.heap L ∧ FrameEnd U o U' L ({ frames := 1, cells := 1, slots := 4, locals := 12 } : Room).cells ({ frames := 1, cells := 1, slots := 4, locals := 12 } : Room).slots) := by
  refine MetFree.of_bodySF (plainFor_of_name pn_2) hisR ?_
  intro p e s m args below meth c s₁ Bd hml0 hP hK
  obtain ⟨rfl, hZ, hh⟩ := hP
  have hx := Bd.exec
  have hby := Bd.bytes
  have hml : c.maxLocals = 1 := hml0
  have hown : s.vm.findClass "java/lang/StringUTF16" = some m.cls := findClass_of_methodNamed Bd.named
  have hnm := (name_of_methodNamed Bd.named Bd.method).1
  have hlk := Bd.notSynchronized
  have X0 : Stand p l e ({ frames := 1, cells := 1, slots := 4, locals := 12 } : Room) s m #[(.int (2 : Int32))] below meth c s₁ [] 0 0 := Stand.of_body Bd
  have e0 : s₁.heap = h0 := by rw [← hh, Bd.state]; rfl
  have N0 := Fr.nil n0
  have KK := Keep.refl h0 []
  show own_Ends p e below s FrameEnd (Qnb2 Z h0 n0) 1 4 (s₁.setTop (entryFrame m #[(.int (2 : Int32))] 1))
  refine own_of (U' := (s₁.setTop (mkF m 0 #[.val (.int (2 : Int32))] []))) (fun _ k => castTop (ef_nb2 m) k) ?_
  refine own_iloadN X0 hx hby d17_0 rfl ?_
  obtain ⟨_, _, ⟨T101, L101, k101, n101⟩, -, X101, ⟨Lc101, hQ101, l101, y101, z101⟩, st101⟩ := Jvm.LawKit.callS X0 hx (y := mN_12) hown (mvT hZ (own_w hw 79 rfl)) (mvT hZ (own_w hw 80 rfl)) (mvT hZ (own_w hw 39 rfl)) (mvT hZ (own_w hw 81 rfl)) (by decide) (backOf (W := 0) (rmnl2 l Z a0 hw []  h0 n0 Z0 ) hZ (own_w hw 81 rfl) (own_w hw 39 rfl) (by decide) (by decide)) (g := (mkF m 1 #[.val (.int (2 : Int32))] [(.int (2 : Int32))])) rfl (by rw [hml]; rfl) (argsL := [(.int (2 : Int32))]) (rest := []) (lenOf pd_7 rfl) rfl (by show 2 * 0 + _ ≤ _; exact Nat.le_of_eq rfl) (hb hby d17_1) (fun _ _ => ⟨rfl, e0, (by decide : 0 + 0 ≤ _), (by decide : 0 + 0 ≤ _)⟩)
  dsimp only [Pt.U, Pt.locs, Pt.cells, Pt.slots] at X101 l101 y101 z101 st101 hQ101
  subst l101 y101 z101
  obtain ⟨rfl, Nq101, e101⟩ := hQ101
  have N101 := Fr.app N0 Nq101
  refine own_of (U' := (T101.setTop (mkF m 4 #[.val (.int (2 : Int32))] [(.int (4 : Int32))]))) (st101) ?_
  obtain ⟨T102, h102, k102, X102, e102, E102, A102, st102⟩ := newP X101 hx hZ (own_w hw 15 rfl) e101 (g := (mkF m 4 #[.val (.int (2 : Int32))] [(.int (4 : Int32))])) rfl (hb hby d17_4) rfl (by decide) (cap := 4) (by decide) (by decide) (by decide) (by decide)
  obtain ⟨b102, gz102⟩ : ∃ z, z = h0.size := ⟨_, rfl⟩
  rw [← gz102] at A102 st102
  have g_b102 : n0 ≤ b102 := Nat.le_trans Z0 (Nat.le_of_eq gz102.symm)
  have sz_b102 : h0.size ≤ b102 := Nat.le_trans KK.1 (Nat.le_of_eq gz102.symm)
  replace Z0 := Nat.le_trans Z0 E102.1
  replace KK := KK.ext E102
  have V102 : Arv Z h102 b102 k102 .byte (4 : Int32) [(.int (0 : Int32)), (.int (0 : Int32)), (.int (0 : Int32)), (.int (0 : Int32))] (.int (0 : Int32)) := (Arv.new A102 (by decide)).pad (pad_rep [] (.int (0 : Int32)) 4)
  refine own_of (U' := (T102.setTop (mkF m 6 #[.val (.int (2 : Int32))] [(.ref b102)]))) (st102) ?_
  exact own_retA X102 hx hlk Bd.returns rfl rfl (hb hby d17_6) (by decide) (by decide) (by rw [e102]; exact ⟨b102, k102, rfl, N101, KK, sz_b102, V102⟩)
theorem ef_tb2 (m : MethodId) (x0 : Addr) : entryFrame m #[(.ref x0), (.int (0 : Int32)), (.int (2 : Int32))] 5 = mkF m 0 #[.val (.ref x0), .val (.int (0 : Int32)), .val (.int (2 : Int32)), .unset, .unset] [] := by first | (simp [entryFrame, mkF, argsToLocals, Value.category]; done) | rfl
def Qtb2 (Z : State) (c0 c1 : Int32) (h0 : Heap) (n0 : Nat) (v : Option Value) (h : Heap) (L : List Loc) : Prop := ∃ (b : Addr) (kb : ClassId), v = some (.ref b) ∧ Fr n0 L ∧ Keep h0 h [] ∧ h0.size ≤ b ∧ Arv Z h b kb .byte (4 : Int32) [(.int (own_lo8 c0)), (.int (own_hi8 c0)), (.int (own_lo8 c1)), (.int (own_hi8 c1))] (.int (0 : Int32))
set_option maxRecDepth 65536 in
set_option maxHeartbeats 40000000 in
theorem rmtb2 (l : Launch) (Z : State) (a0 : Array Value) (hw : ∀ d ∈ tables_1, d.before a0 Z = true) (ws : List Jvm.Cond) (a1 : Addr) (kc : ClassId) (c0 c1 : Int32) (h0 : Heap) (n0 : Nat) (Z0 : n0 ≤ h0.size) (Vc : Arv Z h0 a1 kc .char (2 : Int32) [(.int c0), (.int c1)] (.int (0 : Int32))) (SA : Sta Z h0 "java/lang/StringUTF16" "$assertionsDisabled" "Z" (.int (1 : Int32))) (SHI : Sta Z h0 "java/lang/StringUTF16" "HI_BYTE_SHIFT" "I" (.int (0 : Int32))) (SLO : Sta Z h0 "java/lang/StringUTF16" "LO_BYTE_SHIFT" "I" (.int (8 : Int32))) :
    MetFree l mN_14 (head1 (Jvm.Cond.code mN_14 jdk_52_method_14_code 5 (some (.array .byte)) :: ws) ({ frames := 2, cells := 1, slots := 4, locals := 24 } : Room)) (fun a U => a = #[(.ref a1), (.int (0 : Int32)), (.int (2 : Int32))] ∧ Z.Warmed39 U.vm ∧ U.heap = h0) (fun _ _ _ _ _ => True) (fun _ U o U' => ∃ v L, o = .returned v ∧ (Qtb2 Z c0 c1 h0 n0) v U'.heap L ∧ FrameEnd U o U' L ({ frames := 2, cells := 1, slots := 4, locals := 24 } : Room).cells ({ frames := 2, cells := 1, slots := 4, locals := 24 } : Room).slots) := by
  refine MetFree.of_bodySF (plainFor_of_name pn_2) hisR ?_
  intro p e s m args below meth c s₁ Bd hml0 hP hK
  obtain ⟨rfl, hZ, hh⟩ := hP
  have hx := Bd.exec
  have hby := Bd.bytes
  have hml : c.maxLocals = 5 := hml0
  have hown : s.vm.findClass "java/lang/StringUTF16" = some m.cls := findClass_of_methodNamed Bd.named
  have hnm := (name_of_methodNamed Bd.named Bd.method).1
  have hlk := Bd.notSynchronized
  have X0 : Stand p l e ({ frames := 2, cells := 1, slots := 4, locals := 24 } : Room) s m #[(.ref a1), (.int (0 : Int32)), (.int (2 : Int32))] below meth c s₁ [] 0 0 := Stand.of_body Bd
  have e0 : s₁.heap = h0 := by rw [← hh, Bd.state]; rfl
  have N0 := Fr.nil n0
  have KK := Keep.refl h0 []
  show own_Ends p e below s FrameEnd (Qtb2 Z c0 c1 h0 n0) 1 4 (s₁.setTop (entryFrame m #[(.ref a1), (.int (0 : Int32)), (.int (2 : Int32))] 5))
  refine own_of (U' := (s₁.setTop (mkF m 0 #[.val (.ref a1), .val (.int (0 : Int32)), .val (.int (2 : Int32)), .unset, .unset] []))) (fun _ k => castTop (ef_tb2 m a1) k) ?_
  refine own_iloadN X0 hx hby d16_0 rfl ?_
  obtain ⟨_, _, ⟨T103, L103, k103, n103⟩, -, X103, ⟨Lc103, hQ103, l103, y103, z103⟩, st103⟩ := Jvm.LawKit.callS X0 hx (y := mN_13) hown (mvT hZ (own_w hw 76 rfl)) (mvT hZ (own_w hw 77 rfl)) (mvT hZ (own_w hw 39 rfl)) (mvT hZ (own_w hw 78 rfl)) (by decide) (backOf (W := 0) (rmnb2 l Z a0 hw []  h0 n0 Z0 ) hZ (own_w hw 78 rfl) (own_w hw 39 rfl) (by decide) (by decide)) (g := (mkF m 1 #[.val (.ref a1), .val (.int (0 : Int32)), .val (.int (2 : Int32)), .unset, .unset] [(.int (2 : Int32))])) rfl (by rw [hml]; rfl) (argsL := [(.int (2 : Int32))]) (rest := []) (lenOf pd_8 rfl) rfl (by show 2 * 0 + _ ≤ _; exact Nat.le_of_eq rfl) (hb hby d16_1) (fun _ _ => ⟨rfl, e0, (by decide : 0 + 1 ≤ _), (by decide : 0 + 4 ≤ _)⟩)
  dsimp only [Pt.U, Pt.locs, Pt.cells, Pt.slots] at X103 l103 y103 z103 st103 hQ103
  subst l103 y103 z103
  obtain ⟨u103, ku103, rfl, Nq103, Kp103, gq103, Vq103⟩ := hQ103
  have g_u103 : n0 ≤ u103 := Nat.le_trans Z0 gq103
  have sz_u103 : h0.size ≤ u103 := Nat.le_trans KK.1 gq103
  have ne_a1_u103 : a1 ≠ u103 := Nat.ne_of_lt (Nat.lt_of_lt_of_le Vc.lt gq103)
  have N103 := Fr.app N0 Nq103
  replace Z0 := Nat.le_trans Z0 Kp103.1
  replace Vc := Vc.keep Kp103 nin0
  replace SA := own_staKeep SA Kp103 ns0
  replace SHI := own_staKeep SHI Kp103 ns0
  replace SLO := own_staKeep SLO Kp103 ns0
  replace KK := KK.trans Kp103 all0
  refine own_of (U' := (T103.setTop (mkF m 4 #[.val (.ref a1), .val (.int (0 : Int32)), .val (.int (2 : Int32)), .unset, .unset] [(.ref u103)]))) (st103) ?_
  refine own_astoreN X103 hx hby d16_4 rfl (l' := #[.val (.ref a1), .val (.int (0 : Int32)), .val (.int (2 : Int32)), .val (.ref u103), .unset]) rfl ?_
  refine own_iconst X103 hx hby 0 d16_5 rfl ?_
  refine own_istore X103 hx hby d16_6 (l' := #[.val (.ref a1), .val (.int (0 : Int32)), .val (.int (2 : Int32)), .val (.ref u103), .val (.int (0 : Int32))]) rfl ?_
  refine own_iload X103 hx hby d16_8 rfl ?_
  refine own_iloadN X103 hx hby d16_10 rfl ?_
  have hc11_104 : (0 : Int32) < (2 : Int32) := by decide
  refine own_icmpNo X103 hx hby d16_11 (tlt hc11_104).2.1 ?_
  refine own_aloadN X103 hx hby d16_14 rfl rfl ?_
  refine own_iload X103 hx hby d16_15 rfl ?_
  refine own_aloadN X103 hx hby d16_17 rfl rfl ?_
  refine own_iloadN X103 hx hby d16_18 rfl ?_
  obtain ⟨cl105, Ar105, qa105, Sa105, Na105, Ha105, Ga105⟩ := id Vc
  have hin105 : ¬ ((0 : Int32) < 0 ∨ cl105.slots.size ≤ ((0 : Int32)).toNatClampNeg) := inb_of Sa105 ⟨by decide, by decide⟩
  have hat105 : cl105.slots[((0 : Int32)).toNatClampNeg]? = some (.int c0) := Has.at Ha105 hin105 rfl
  refine own_of (U' := (T103.setTop (mkF m 20 #[.val (.ref a1), .val (.int (0 : Int32)), .val (.int (2 : Int32)), .val (.ref u103), .val (.int (0 : Int32))] [(.int c0), (.int (0 : Int32)), (.ref u103)]))) (X103.caload hx (j := (0 : Int32)) (v := (.int c0)) Ar105.1 (State.isArrayOf_alike hZ.alike Ar105.2.1) Ar105.2.2 hin105 hat105 (g := (mkF m 19 #[.val (.ref a1), .val (.int (0 : Int32)), .val (.int (2 : Int32)), .val (.ref u103), .val (.int (0 : Int32))] [(.int (0 : Int32)), (.ref a1), (.int (0 : Int32)), (.ref u103)])) rfl rfl (hb hby d16_19)) ?_
  obtain ⟨_, _, ⟨T106, L106, k106, n106⟩, -, X106, ⟨Lc106, hQ106, l106, y106, z106⟩, st106⟩ := Jvm.LawKit.callS X103 hx (y := mN_11) hown (mvT hZ (own_w hw 83 rfl)) (mvT hZ (own_w hw 84 rfl)) (mvT hZ (own_w hw 39 rfl)) (mvT hZ (own_w hw 85 rfl)) (by decide) (backOf (W := 0) (rmpc l Z a0 hw [] u103 (0 : Int32) c0 ku103 (4 : Int32) [(0 : Int32), (0 : Int32), (0 : Int32), (0 : Int32)] 0 T103.heap n0 Z0 Vq103 (by decide) (by decide) (by decide) (by decide) (by decide) (by decide) (Nat.le_of_ble_eq_true rfl) (Nat.le_of_ble_eq_true rfl) SA SHI SLO g_u103) hZ (own_w hw 85 rfl) (own_w hw 39 rfl) (by decide) (by decide)) (g := (mkF m 20 #[.val (.ref a1), .val (.int (0 : Int32)), .val (.int (2 : Int32)), .val (.ref u103), .val (.int (0 : Int32))] [(.int c0), (.int (0 : Int32)), (.ref u103)])) rfl (by rw [hml]; rfl) (argsL := [(.ref u103), (.int (0 : Int32)), (.int c0)]) (rest := []) (lenOf pd_9 rfl) rfl (by show 2 * 0 + _ ≤ _; exact Nat.le_of_eq rfl) (hb hby d16_20) (fun _ _ => ⟨rfl, rfl, (by decide : 1 + 0 ≤ _), (by decide : 4 + 0 ≤ _)⟩)
  dsimp only [Pt.U, Pt.locs, Pt.cells, Pt.slots] at X106 l106 y106 z106 st106 hQ106
  subst l106 y106 z106
  obtain ⟨rfl, Nq106, Kp106, Vq106⟩ := hQ106
  have N106 := Fr.app N103 Nq106
  have nst_u103 := Vq103.nostat
  replace Z0 := Nat.le_trans Z0 Kp106.1
  replace Vc := Vc.keep Kp106 (ninS ne_a1_u103 nin0)
  replace SA := own_staKeep SA Kp106 (nsS nst_u103 ns0)
  replace SHI := own_staKeep SHI Kp106 (nsS nst_u103 ns0)
  replace SLO := own_staKeep SLO Kp106 (nsS nst_u103 ns0)
  replace KK := KK.trans Kp106 (allS (Or.inr sz_u103) all0)
  have V106 : Arv Z T106.heap u103 ku103 .byte (4 : Int32) [(.int (own_lo8 c0)), (.int (own_hi8 c0)), (.int (0 : Int32)), (.int (0 : Int32))] (.int (0 : Int32)) := Vq106
  refine own_of (U' := (T106.setTop (mkF m 23 #[.val (.ref a1), .val (.int (0 : Int32)), .val (.int (2 : Int32)), .val (.ref u103), .val (.int (0 : Int32))] []))) (st106) ?_
  refine own_iinc X106 hx hby d16_23 rfl (l' := #[.val (.ref a1), .val (.int ((0 : Int32) + (1 : Int32))), .val (.int (2 : Int32)), .val (.ref u103), .val (.int (0 : Int32))]) rfl ?_
  refine own_eq (U' := (T106.setTop (mkF m 26 #[.val (.ref a1), .val (.int (1 : Int32)), .val (.int (2 : Int32)), .val (.ref u103), .val (.int (0 : Int32))] []))) (by rw [show ((0 : Int32) + (1 : Int32)) = (1 : Int32) by decide]) ?_
  refine own_iinc X106 hx hby d16_26 rfl (l' := #[.val (.ref a1), .val (.int (1 : Int32)), .val (.int (2 : Int32)), .val (.ref u103), .val (.int ((0 : Int32) + (1 : Int32)))]) rfl ?_
  refine own_eq (U' := (T106.setTop (mkF m 29 #[.val (.ref a1), .val (.int (1 : Int32)), .val (.int (2 : Int32)), .val (.ref u103), .val (.int (1 : Int32))] []))) (by rw [show ((0 : Int32) + (1 : Int32)) = (1 : Int32) by decide]) ?_
  refine own_goto X106 hx hby 29 8 d16_29 (by decide) (by decide) ?_
  refine own_iload X106 hx hby d16_8 rfl ?_
  refine own_iloadN X106 hx hby d16_10 rfl ?_
  have hc11_107 : (1 : Int32) < (2 : Int32) := by decide
  refine own_icmpNo X106 hx hby d16_11 (tlt hc11_107).2.1 ?_
  refine own_aloadN X106 hx hby d16_14 rfl rfl ?_
  refine own_iload X106 hx hby d16_15 rfl ?_
  refine own_aloadN X106 hx hby d16_17 rfl rfl ?_
  refine own_iloadN X106 hx hby d16_18 rfl ?_
  obtain ⟨cl108, Ar108, qa108, Sa108, Na108, Ha108, Ga108⟩ := id Vc
  have hin108 : ¬ ((1 : Int32) < 0 ∨ cl108.slots.size ≤ ((1 : Int32)).toNatClampNeg) := inb_of Sa108 ⟨by decide, by decide⟩
  have hat108 : cl108.slots[((1 : Int32)).toNatClampNeg]? = some (.int c1) := Has.at Ha108 hin108 rfl
  refine own_of (U' := (T106.setTop (mkF m 20 #[.val (.ref a1), .val (.int (1 : Int32)), .val (.int (2 : Int32)), .val (.ref u103), .val (.int (1 : Int32))] [(.int c1), (.int (1 : Int32)), (.ref u103)]))) (X106.caload hx (j := (1 : Int32)) (v := (.int c1)) Ar108.1 (State.isArrayOf_alike hZ.alike Ar108.2.1) Ar108.2.2 hin108 hat108 (g := (mkF m 19 #[.val (.ref a1), .val (.int (1 : Int32)), .val (.int (2 : Int32)), .val (.ref u103), .val (.int (1 : Int32))] [(.int (1 : Int32)), (.ref a1), (.int (1 : Int32)), (.ref u103)])) rfl rfl (hb hby d16_19)) ?_
  obtain ⟨_, _, ⟨T109, L109, k109, n109⟩, -, X109, ⟨Lc109, hQ109, l109, y109, z109⟩, st109⟩ := Jvm.LawKit.callS X106 hx (y := mN_11) hown (mvT hZ (own_w hw 83 rfl)) (mvT hZ (own_w hw 84 rfl)) (mvT hZ (own_w hw 39 rfl)) (mvT hZ (own_w hw 85 rfl)) (by decide) (backOf (W := 0) (rmpc l Z a0 hw [] u103 (1 : Int32) c1 ku103 (4 : Int32) [(own_lo8 c0), (own_hi8 c0), (0 : Int32), (0 : Int32)] 2 T106.heap n0 Z0 V106 (by decide) (by decide) (by decide) (by decide) (by decide) (by decide) (Nat.le_of_ble_eq_true rfl) (Nat.le_of_ble_eq_true rfl) SA SHI SLO g_u103) hZ (own_w hw 85 rfl) (own_w hw 39 rfl) (by decide) (by decide)) (g := (mkF m 20 #[.val (.ref a1), .val (.int (1 : Int32)), .val (.int (2 : Int32)), .val (.ref u103), .val (.int (1 : Int32))] [(.int c1), (.int (1 : Int32)), (.ref u103)])) rfl (by rw [hml]; rfl) (argsL := [(.ref u103), (.int (1 : Int32)), (.int c1)]) (rest := []) (lenOf pd_9 rfl) rfl (by show 2 * 0 + _ ≤ _; exact Nat.le_of_eq rfl) (hb hby d16_20) (fun _ _ => ⟨rfl, rfl, (by decide : 1 + 0 ≤ _), (by decide : 4 + 0 ≤ _)⟩)
  dsimp only [Pt.U, Pt.locs, Pt.cells, Pt.slots] at X109 l109 y109 z109 st109 hQ109
  subst l109 y109 z109
  obtain ⟨rfl, Nq109, Kp109, Vq109⟩ := hQ109
  have N109 := Fr.app N106 Nq109
  have nst_u103 := V106.nostat
  replace Z0 := Nat.le_trans Z0 Kp109.1
  replace Vc := Vc.keep Kp109 (ninS ne_a1_u103 nin0)
  replace SA := own_staKeep SA Kp109 (nsS nst_u103 ns0)
  replace SHI := own_staKeep SHI Kp109 (nsS nst_u103 ns0)
  replace SLO := own_staKeep SLO Kp109 (nsS nst_u103 ns0)
  replace KK := KK.trans Kp109 (allS (Or.inr sz_u103) all0)
  have V109 : Arv Z T109.heap u103 ku103 .byte (4 : Int32) [(.int (own_lo8 c0)), (.int (own_hi8 c0)), (.int (own_lo8 c1)), (.int (own_hi8 c1))] (.int (0 : Int32)) := Vq109
  refine own_of (U' := (T109.setTop (mkF m 23 #[.val (.ref a1), .val (.int (1 : Int32)), .val (.int (2 : Int32)), .val (.ref u103), .val (.int (1 : Int32))] []))) (st109) ?_
  refine own_iinc X109 hx hby d16_23 rfl (l' := #[.val (.ref a1), .val (.int ((1 : Int32) + (1 : Int32))), .val (.int (2 : Int32)), .val (.ref u103), .val (.int (1 : Int32))]) rfl ?_
  refine own_eq (U' := (T109.setTop (mkF m 26 #[.val (.ref a1), .val (.int (2 : Int32)), .val (.int (2 : Int32)), .val (.ref u103), .val (.int (1 : Int32))] []))) (by rw [show ((1 : Int32) + (1 : Int32)) = (2 : Int32) by decide]) ?_
  refine own_iinc X109 hx hby d16_26 rfl (l' := #[.val (.ref a1), .val (.int (2 : Int32)), .val (.int (2 : Int32)), .val (.ref u103), .val (.int ((1 : Int32) + (1 : Int32)))]) rfl ?_
  refine own_eq (U' := (T109.setTop (mkF m 29 #[.val (.ref a1), .val (.int (2 : Int32)), .val (.int (2 : Int32)), .val (.ref u103), .val (.int (2 : Int32))] []))) (by rw [show ((1 : Int32) + (1 : Int32)) = (2 : Int32) by decide]) ?_
  refine own_goto X109 hx hby 29 8 d16_29 (by decide) (by decide) ?_
  refine own_iload X109 hx hby d16_8 rfl ?_
  refine own_iloadN X109 hx hby d16_10 rfl ?_
  have hc11_110 : ¬ ((2 : Int32) < (2 : Int32)) := by decide
  refine own_icmpYes X109 hx hby 11 32 d16_11 (flt hc11_110).2.1 (by decide) (by decide) ?_
  refine own_aloadN X109 hx hby d16_32 rfl rfl ?_
  exact own_retA X109 hx hlk Bd.returns rfl rfl (hb hby d16_33) (by decide) (by decide) (⟨u103, ku103, rfl, N109, KK, sz_u103, V109⟩)
theorem ef_cl2_0 (m : MethodId) (x0 : Addr) (x2 : Addr) : entryFrame m #[(.ref x0), (.int (0 : Int32)), (.ref x2), (.int (0 : Int32)), (.int (2 : Int32))] 7 = mkF m 0 #[.val (.ref x0), .val (.int (0 : Int32)), .val (.ref x2), .val (.int (0 : Int32)), .val (.int (2 : Int32)), .unset, .unset] [] := by first | (simp [entryFrame, mkF, argsToLocals, Value.category]; done) | rfl
def Qcl2_0 (Z : State) (a3 : Addr) (kd : ClassId) (c0 c1 : Int32) (h0 : Heap) (n0 : Nat) (v : Option Value) (h : Heap) (L : List Loc) : Prop := v = some (.int (0 : Int32)) ∧ Fr n0 L ∧ Keep h0 h [a3] ∧ Arv Z h a3 kd .byte (2 : Int32) [(.int (0 : Int32)), (.int (0 : Int32))] (.int (0 : Int32))
set_option maxRecDepth 65536 in
set_option maxHeartbeats 40000000 in
theorem rmcl2_0 (l : Launch) (Z : State) (a0 : Array Value) (hw : ∀ d ∈ tables_1, d.before a0 Z = true) (ws : List Jvm.Cond) (a1 a3 : Addr) (kc kd : ClassId) (c0 c1 : Int32) (h0 : Heap) (n0 : Nat) (Z0 : n0 ≤ h0.size) (Vc : Arv Z h0 a1 kc .char (2 : Int32) [(.int c0), (.int c1)] (.int (0 : Int32))) (Vd : Arv Z h0 a3 kd .byte (2 : Int32) [(.int (0 : Int32)), (.int (0 : Int32))] (.int (0 : Int32))) (g_a3 : n0 ≤ a3) (nea : a1 ≠ a3)  (hB : (255 : Int32) < c0) :
    MetFree l mN_15 (head1 (Jvm.Cond.code mN_15 jdk_52_method_21_code 7 (some .int) :: ws) ({ frames := 0, cells := 0, slots := 0, locals := 0 } : Room)) (fun a U => a = #[(.ref a1), (.int (0 : Int32)), (.ref a3), (.int (0 : Int32)), (.int (2 : Int32))] ∧ Z.Warmed39 U.vm ∧ U.heap = h0) (fun _ _ _ _ _ => True) (fun _ U o U' => ∃ v L, o = .returned v ∧ (Qcl2_0 Z a3 kd c0 c1 h0 n0) v U'.heap L ∧ FrameEnd U o U' L ({ frames := 0, cells := 0, slots := 0, locals := 0 } : Room).cells ({ frames := 0, cells := 0, slots := 0, locals := 0 } : Room).slots) := by
  refine MetFree.of_bodySF (plainFor_of_name pn_2) hisR ?_
  intro p e s m args below meth c s₁ Bd hml0 hP hK
  obtain ⟨rfl, hZ, hh⟩ := hP
  have hx := Bd.exec
  have hby := Bd.bytes
  have hml : c.maxLocals = 7 := hml0
  have hown : s.vm.findClass "java/lang/StringUTF16" = some m.cls := findClass_of_methodNamed Bd.named
  have hnm := (name_of_methodNamed Bd.named Bd.method).1
  have hlk := Bd.notSynchronized
  have X0 : Stand p l e ({ frames := 0, cells := 0, slots := 0, locals := 0 } : Room) s m #[(.ref a1), (.int (0 : Int32)), (.ref a3), (.int (0 : Int32)), (.int (2 : Int32))] below meth c s₁ [] 0 0 := Stand.of_body Bd
  have e0 : s₁.heap = h0 := by rw [← hh, Bd.state]; rfl
  have N0 := Fr.nil n0
  have KK := Keep.refl h0 [a3]
  show own_Ends p e below s FrameEnd (Qcl2_0 Z a3 kd c0 c1 h0 n0) 0 0 (s₁.setTop (entryFrame m #[(.ref a1), (.int (0 : Int32)), (.ref a3), (.int (0 : Int32)), (.int (2 : Int32))] 7))
  refine own_of (U' := (s₁.setTop (mkF m 0 #[.val (.ref a1), .val (.int (0 : Int32)), .val (.ref a3), .val (.int (0 : Int32)), .val (.int (2 : Int32)), .unset, .unset] []))) (fun _ k => castTop (ef_cl2_0 m a1 a3) k) ?_
  refine own_iconst X0 hx hby 0 d8_0 rfl ?_
  refine own_istore X0 hx hby d8_1 (l' := #[.val (.ref a1), .val (.int (0 : Int32)), .val (.ref a3), .val (.int (0 : Int32)), .val (.int (2 : Int32)), .val (.int (0 : Int32)), .unset]) rfl ?_
  refine own_iload X0 hx hby d8_3 rfl ?_
  refine own_iload X0 hx hby d8_5 rfl ?_
  have hc7_111 : (0 : Int32) < (2 : Int32) := by decide
  refine own_icmpNo X0 hx hby d8_7 (tlt hc7_111).2.1 ?_
  refine own_aloadN X0 hx hby d8_10 rfl rfl ?_
  refine own_iloadN X0 hx hby d8_11 rfl ?_
  obtain ⟨cl112, Ar112, qa112, Sa112, Na112, Ha112, Ga112⟩ := id Vc
  have hin112 : ¬ ((0 : Int32) < 0 ∨ cl112.slots.size ≤ ((0 : Int32)).toNatClampNeg) := inb_of Sa112 ⟨by decide, by decide⟩
  have hat112 : cl112.slots[((0 : Int32)).toNatClampNeg]? = some (.int c0) := Has.at Ha112 hin112 rfl
  refine own_of (U' := (s₁.setTop (mkF m 13 #[.val (.ref a1), .val (.int (0 : Int32)), .val (.ref a3), .val (.int (0 : Int32)), .val (.int (2 : Int32)), .val (.int (0 : Int32)), .unset] [(.int c0)]))) (X0.caload hx (j := (0 : Int32)) (v := (.int c0)) (by rw [e0]; exact Ar112.1) (State.isArrayOf_alike hZ.alike Ar112.2.1) Ar112.2.2 hin112 hat112 (g := (mkF m 12 #[.val (.ref a1), .val (.int (0 : Int32)), .val (.ref a3), .val (.int (0 : Int32)), .val (.int (2 : Int32)), .val (.int (0 : Int32)), .unset] [(.int (0 : Int32)), (.ref a1)])) rfl rfl (hb hby d8_12)) ?_
  refine own_istore X0 hx hby d8_13 (l' := #[.val (.ref a1), .val (.int (0 : Int32)), .val (.ref a3), .val (.int (0 : Int32)), .val (.int (2 : Int32)), .val (.int (0 : Int32)), .val (.int c0)]) rfl ?_
  refine own_iload X0 hx hby d8_15 rfl ?_
  refine own_sipush X0 hx hby 255 d8_17 rfl ?_
  have hc20_113 : (255 : Int32) < c0 := hB
  refine own_icmpNo X0 hx hby d8_20 (tlt hc20_113).2.2.2 ?_
  refine own_iload X0 hx hby d8_23 rfl ?_
  exact own_retI X0 hx hlk Bd.returns (hb hby d8_25) (by decide) (by decide) (by rw [e0]; exact ⟨rfl, N0, KK, Vd⟩)
theorem ef_cl2_1 (m : MethodId) (x0 : Addr) (x2 : Addr) : entryFrame m #[(.ref x0), (.int (0 : Int32)), (.ref x2), (.int (0 : Int32)), (.int (2 : Int32))] 7 = mkF m 0 #[.val (.ref x0), .val (.int (0 : Int32)), .val (.ref x2), .val (.int (0 : Int32)), .val (.int (2 : Int32)), .unset, .unset] [] := by first | (simp [entryFrame, mkF, argsToLocals, Value.category]; done) | rfl
def Qcl2_1 (Z : State) (a3 : Addr) (kd : ClassId) (c0 c1 : Int32) (h0 : Heap) (n0 : Nat) (v : Option Value) (h : Heap) (L : List Loc) : Prop := v = some (.int (1 : Int32)) ∧ Fr n0 L ∧ Keep h0 h [a3] ∧ Arv Z h a3 kd .byte (2 : Int32) [(.int (own_b8 c0)), (.int (0 : Int32))] (.int (0 : Int32))
set_option maxRecDepth 65536 in
set_option maxHeartbeats 40000000 in
theorem rmcl2_1 (l : Launch) (Z : State) (a0 : Array Value) (hw : ∀ d ∈ tables_1, d.before a0 Z = true) (ws : List Jvm.Cond) (a1 a3 : Addr) (kc kd : ClassId) (c0 c1 : Int32) (h0 : Heap) (n0 : Nat) (Z0 : n0 ≤ h0.size) (Vc : Arv Z h0 a1 kc .char (2 : Int32) [(.int c0), (.int c1)] (.int (0 : Int32))) (Vd : Arv Z h0 a3 kd .byte (2 : Int32) [(.int (0 : Int32)), (.int (0 : Int32))] (.int (0 : Int32))) (g_a3 : n0 ≤ a3) (nea : a1 ≠ a3) (hL0 : ¬ ((255 : Int32) < c0)) (hB : (255 : Int32) < c1) :
    MetFree l mN_15 (head1 (Jvm.Cond.code mN_15 jdk_52_method_21_code 7 (some .int) :: ws) ({ frames := 0, cells := 0, slots := 0, locals := 0 } : Room)) (fun a U => a = #[(.ref a1), (.int (0 : Int32)), (.ref a3), (.int (0 : Int32)), (.int (2 : Int32))] ∧ Z.Warmed39 U.vm ∧ U.heap = h0) (fun _ _ _ _ _ => True) (fun _ U o U' => ∃ v L, o = .returned v ∧ (Qcl2_1 Z a3 kd c0 c1 h0 n0) v U'.heap L ∧ FrameEnd U o U' L ({ frames := 0, cells := 0, slots := 0, locals := 0 } : Room).cells ({ frames := 0, cells := 0, slots := 0, locals := 0 } : Room).slots) := by
  refine MetFree.of_bodySF (plainFor_of_name pn_2) hisR ?_
  intro p e s m args below meth c s₁ Bd hml0 hP hK
  obtain ⟨rfl, hZ, hh⟩ := hP
  have hx := Bd.exec
  have hby := Bd.bytes
  have hml : c.maxLocals = 7 := hml0
  have hown : s.vm.findClass "java/lang/StringUTF16" = some m.cls := findClass_of_methodNamed Bd.named
  have hnm := (name_of_methodNamed Bd.named Bd.method).1
  have hlk := Bd.notSynchronized
  have X0 : Stand p l e ({ frames := 0, cells := 0, slots := 0, locals := 0 } : Room) s m #[(.ref a1), (.int (0 : Int32)), (.ref a3), (.int (0 : Int32)), (.int (2 : Int32))] below meth c s₁ [] 0 0 := Stand.of_body Bd
  have e0 : s₁.heap = h0 := by rw [← hh, Bd.state]; rfl
  have N0 := Fr.nil n0
  have KK := Keep.refl h0 [a3]
  show own_Ends p e below s FrameEnd (Qcl2_1 Z a3 kd c0 c1 h0 n0) 0 0 (s₁.setTop (entryFrame m #[(.ref a1), (.int (0 : Int32)), (.ref a3), (.int (0 : Int32)), (.int (2 : Int32))] 7))
  refine own_of (U' := (s₁.setTop (mkF m 0 #[.val (.ref a1), .val (.int (0 : Int32)), .val (.ref a3), .val (.int (0 : Int32)), .val (.int (2 : Int32)), .unset, .unset] []))) (fun _ k => castTop (ef_cl2_1 m a1 a3) k) ?_
  refine own_iconst X0 hx hby 0 d8_0 rfl ?_
  refine own_istore X0 hx hby d8_1 (l' := #[.val (.ref a1), .val (.int (0 : Int32)), .val (.ref a3), .val (.int (0 : Int32)), .val (.int (2 : Int32)), .val (.int (0 : Int32)), .unset]) rfl ?_
  refine own_iload X0 hx hby d8_3 rfl ?_
  refine own_iload X0 hx hby d8_5 rfl ?_
  have hc7_114 : (0 : Int32) < (2 : Int32) := by decide
  refine own_icmpNo X0 hx hby d8_7 (tlt hc7_114).2.1 ?_
  refine own_aloadN X0 hx hby d8_10 rfl rfl ?_
  refine own_iloadN X0 hx hby d8_11 rfl ?_
  obtain ⟨cl115, Ar115, qa115, Sa115, Na115, Ha115, Ga115⟩ := id Vc
  have hin115 : ¬ ((0 : Int32) < 0 ∨ cl115.slots.size ≤ ((0 : Int32)).toNatClampNeg) := inb_of Sa115 ⟨by decide, by decide⟩
  have hat115 : cl115.slots[((0 : Int32)).toNatClampNeg]? = some (.int c0) := Has.at Ha115 hin115 rfl
  refine own_of (U' := (s₁.setTop (mkF m 13 #[.val (.ref a1), .val (.int (0 : Int32)), .val (.ref a3), .val (.int (0 : Int32)), .val (.int (2 : Int32)), .val (.int (0 : Int32)), .unset] [(.int c0)]))) (X0.caload hx (j := (0 : Int32)) (v := (.int c0)) (by rw [e0]; exact Ar115.1) (State.isArrayOf_alike hZ.alike Ar115.2.1) Ar115.2.2 hin115 hat115 (g := (mkF m 12 #[.val (.ref a1), .val (.int (0 : Int32)), .val (.ref a3), .val (.int (0 : Int32)), .val (.int (2 : Int32)), .val (.int (0 : Int32)), .unset] [(.int (0 : Int32)), (.ref a1)])) rfl rfl (hb hby d8_12)) ?_
  refine own_istore X0 hx hby d8_13 (l' := #[.val (.ref a1), .val (.int (0 : Int32)), .val (.ref a3), .val (.int (0 : Int32)), .val (.int (2 : Int32)), .val (.int (0 : Int32)), .val (.int c0)]) rfl ?_
  refine own_iload X0 hx hby d8_15 rfl ?_
  refine own_sipush X0 hx hby 255 d8_17 rfl ?_
  have hc20_116 : ¬ ((255 : Int32) < c0) := hL0
  refine own_icmpYes X0 hx hby 20 26 d8_20 (flt hc20_116).2.2.2 (by decide) (by decide) ?_
  refine own_aloadN X0 hx hby d8_26 rfl rfl ?_
  refine own_iloadN X0 hx hby d8_27 rfl ?_
  refine own_iload X0 hx hby d8_28 rfl ?_
  refine own_i2b X0 hx hby d8_30 ?_
  obtain ⟨cl117, Ar117, qa117, Sa117, Na117, Ha117, Ga117⟩ := Vd
  have hin117 : ¬ ((0 : Int32) < 0 ∨ cl117.slots.size ≤ ((0 : Int32)).toNatClampNeg) := inb_of Sa117 ⟨by decide, by decide⟩
  obtain ⟨T117, h117, X117, e117, W117, st117⟩ := stB X0 hx hZ e0 Ar117 (j := (0 : Int32)) hin117 (g := (mkF m 31 #[.val (.ref a1), .val (.int (0 : Int32)), .val (.ref a3), .val (.int (0 : Int32)), .val (.int (2 : Int32)), .val (.int (0 : Int32)), .val (.int c0)] [(.int (c0.toInt8.toInt32)), (.int (0 : Int32)), (.ref a3)])) rfl rfl (hb hby d8_31)
  replace Vd : Arv Z h117 a3 kd .byte (2 : Int32) [(.int (nar .byte (c0.toInt8.toInt32))), (.int (0 : Int32))] (.int (0 : Int32)) := Arv.set Ar117 qa117 Sa117 Na117 Ha117 Ga117 (fits_nar_byte _) W117 0 rfl (Nat.le_of_ble_eq_true rfl)
  replace Z0 := Nat.le_trans Z0 (Keep.of_wr W117).1
  replace Vc := Vc.other W117 nea
  replace KK := KK.wr W117 (Or.inl (List.mem_of_getElem? (i := 0) rfl))
  have N117 := Fr.snoc X117 N0 g_a3
  refine own_of (U' := (T117.setTop (mkF m 32 #[.val (.ref a1), .val (.int (0 : Int32)), .val (.ref a3), .val (.int (0 : Int32)), .val (.int (2 : Int32)), .val (.int (0 : Int32)), .val (.int c0)] []))) (st117) ?_
  refine own_iinc X117 hx hby d8_32 rfl (l' := #[.val (.ref a1), .val (.int ((0 : Int32) + (1 : Int32))), .val (.ref a3), .val (.int (0 : Int32)), .val (.int (2 : Int32)), .val (.int (0 : Int32)), .val (.int c0)]) rfl ?_
  refine own_eq (U' := (T117.setTop (mkF m 35 #[.val (.ref a1), .val (.int (1 : Int32)), .val (.ref a3), .val (.int (0 : Int32)), .val (.int (2 : Int32)), .val (.int (0 : Int32)), .val (.int c0)] []))) (by rw [show ((0 : Int32) + (1 : Int32)) = (1 : Int32) by decide]) ?_
  refine own_iinc X117 hx hby d8_35 rfl (l' := #[.val (.ref a1), .val (.int (1 : Int32)), .val (.ref a3), .val (.int ((0 : Int32) + (1 : Int32))), .val (.int (2 : Int32)), .val (.int (0 : Int32)), .val (.int c0)]) rfl ?_
  refine own_eq (U' := (T117.setTop (mkF m 38 #[.val (.ref a1), .val (.int (1 : Int32)), .val (.ref a3), .val (.int (1 : Int32)), .val (.int (2 : Int32)), .val (.int (0 : Int32)), .val (.int c0)] []))) (by rw [show ((0 : Int32) + (1 : Int32)) = (1 : Int32) by decide]) ?_
  refine own_iinc X117 hx hby d8_38 rfl (l' := #[.val (.ref a1), .val (.int (1 : Int32)), .val (.ref a3), .val (.int (1 : Int32)), .val (.int (2 : Int32)), .val (.int ((0 : Int32) + (1 : Int32))), .val (.int c0)]) rfl ?_
  refine own_eq (U' := (T117.setTop (mkF m 41 #[.val (.ref a1), .val (.int (1 : Int32)), .val (.ref a3), .val (.int (1 : Int32)), .val (.int (2 : Int32)), .val (.int (1 : Int32)), .val (.int c0)] []))) (by rw [show ((0 : Int32) + (1 : Int32)) = (1 : Int32) by decide]) ?_
  refine own_goto X117 hx hby 41 3 d8_41 (by decide) (by decide) ?_
  refine own_iload X117 hx hby d8_3 rfl ?_
  refine own_iload X117 hx hby d8_5 rfl ?_
  have hc7_118 : (1 : Int32) < (2 : Int32) := by decide
  refine own_icmpNo X117 hx hby d8_7 (tlt hc7_118).2.1 ?_
  refine own_aloadN X117 hx hby d8_10 rfl rfl ?_
  refine own_iloadN X117 hx hby d8_11 rfl ?_
  obtain ⟨cl119, Ar119, qa119, Sa119, Na119, Ha119, Ga119⟩ := id Vc
  have hin119 : ¬ ((1 : Int32) < 0 ∨ cl119.slots.size ≤ ((1 : Int32)).toNatClampNeg) := inb_of Sa119 ⟨by decide, by decide⟩
  have hat119 : cl119.slots[((1 : Int32)).toNatClampNeg]? = some (.int c1) := Has.at Ha119 hin119 rfl
  refine own_of (U' := (T117.setTop (mkF m 13 #[.val (.ref a1), .val (.int (1 : Int32)), .val (.ref a3), .val (.int (1 : Int32)), .val (.int (2 : Int32)), .val (.int (1 : Int32)), .val (.int c0)] [(.int c1)]))) (X117.caload hx (j := (1 : Int32)) (v := (.int c1)) (by rw [e117]; exact Ar119.1) (State.isArrayOf_alike hZ.alike Ar119.2.1) Ar119.2.2 hin119 hat119 (g := (mkF m 12 #[.val (.ref a1), .val (.int (1 : Int32)), .val (.ref a3), .val (.int (1 : Int32)), .val (.int (2 : Int32)), .val (.int (1 : Int32)), .val (.int c0)] [(.int (1 : Int32)), (.ref a1)])) rfl rfl (hb hby d8_12)) ?_
  refine own_istore X117 hx hby d8_13 (l' := #[.val (.ref a1), .val (.int (1 : Int32)), .val (.ref a3), .val (.int (1 : Int32)), .val (.int (2 : Int32)), .val (.int (1 : Int32)), .val (.int c1)]) rfl ?_
  refine own_iload X117 hx hby d8_15 rfl ?_
  refine own_sipush X117 hx hby 255 d8_17 rfl ?_
  have hc20_120 : (255 : Int32) < c1 := hB
  refine own_icmpNo X117 hx hby d8_20 (tlt hc20_120).2.2.2 ?_
  refine own_iload X117 hx hby d8_23 rfl ?_
  exact own_retI X117 hx hlk Bd.returns (hb hby d8_25) (by decide) (by decide) (by rw [e117]; exact ⟨rfl, N117, KK, Vd⟩)
theorem ef_cl2_2 (m : MethodId) (x0 : Addr) (x2 : Addr) : entryFrame m #[(.ref x0), (.int (0 : Int32)), (.ref x2), (.int (0 : Int32)), (.int (2 : Int32))] 7 = mkF m 0 #[.val (.ref x0), .val (.int (0 : Int32)), .val (.ref x2), .val (.int (0 : Int32)), .val (.int (2 : Int32)), .unset, .unset] [] := by first | (simp [entryFrame, mkF, argsToLocals, Value.category]; done) | rfl
def Qcl2_2 (Z : State) (a3 : Addr) (kd : ClassId) (c0 c1 : Int32) (h0 : Heap) (n0 : Nat) (v : Option Value) (h : Heap) (L : List Loc) : Prop := v = some (.int (2 : Int32)) ∧ Fr n0 L ∧ Keep h0 h [a3] ∧ Arv Z h a3 kd .byte (2 : Int32) [(.int (own_b8 c0)), (.int (own_b8 c1))] (.int (0 : Int32))
set_option maxRecDepth 65536 in
set_option maxHeartbeats 40000000 in
theorem rmcl2_2 (l : Launch) (Z : State) (a0 : Array Value) (hw : ∀ d ∈ tables_1, d.before a0 Z = true) (ws : List Jvm.Cond) (a1 a3 : Addr) (kc kd : ClassId) (c0 c1 : Int32) (h0 : Heap) (n0 : Nat) (Z0 : n0 ≤ h0.size) (Vc : Arv Z h0 a1 kc .char (2 : Int32) [(.int c0), (.int c1)] (.int (0 : Int32))) (Vd : Arv Z h0 a3 kd .byte (2 : Int32) [(.int (0 : Int32)), (.int (0 : Int32))] (.int (0 : Int32))) (g_a3 : n0 ≤ a3) (nea : a1 ≠ a3) (hL0 : ¬ ((255 : Int32) < c0)) (hL1 : ¬ ((255 : Int32) < c1)) :
    MetFree l mN_15 (head1 (Jvm.Cond.code mN_15 jdk_52_method_21_code 7 (some .int) :: ws) ({ frames := 0, cells := 0, slots := 0, locals := 0 } : Room)) (fun a U => a = #[(.ref a1), (.int (0 : Int32)), (.ref a3), (.int (0 : Int32)), (.int (2 : Int32))] ∧ Z.Warmed39 U.vm ∧ U.heap = h0) (fun _ _ _ _ _ => True) (fun _ U o U' => ∃ v L, o = .returned v ∧ (Qcl2_2 Z a3 kd c0 c1 h0 n0) v U'.heap L ∧ FrameEnd U o U' L ({ frames := 0, cells := 0, slots := 0, locals := 0 } : Room).cells ({ frames := 0, cells := 0, slots := 0, locals := 0 } : Room).slots) := by
  refine MetFree.of_bodySF (plainFor_of_name pn_2) hisR ?_
  intro p e s m args below meth c s₁ Bd hml0 hP hK
  obtain ⟨rfl, hZ, hh⟩ := hP
  have hx := Bd.exec
  have hby := Bd.bytes
  have hml : c.maxLocals = 7 := hml0
  have hown : s.vm.findClass "java/lang/StringUTF16" = some m.cls := findClass_of_methodNamed Bd.named
  have hnm := (name_of_methodNamed Bd.named Bd.method).1
  have hlk := Bd.notSynchronized
  have X0 : Stand p l e ({ frames := 0, cells := 0, slots := 0, locals := 0 } : Room) s m #[(.ref a1), (.int (0 : Int32)), (.ref a3), (.int (0 : Int32)), (.int (2 : Int32))] below meth c s₁ [] 0 0 := Stand.of_body Bd
  have e0 : s₁.heap = h0 := by rw [← hh, Bd.state]; rfl
  have N0 := Fr.nil n0
  have KK := Keep.refl h0 [a3]
  show own_Ends p e below s FrameEnd (Qcl2_2 Z a3 kd c0 c1 h0 n0) 0 0 (s₁.setTop (entryFrame m #[(.ref a1), (.int (0 : Int32)), (.ref a3), (.int (0 : Int32)), (.int (2 : Int32))] 7))
  refine own_of (U' := (s₁.setTop (mkF m 0 #[.val (.ref a1), .val (.int (0 : Int32)), .val (.ref a3), .val (.int (0 : Int32)), .val (.int (2 : Int32)), .unset, .unset] []))) (fun _ k => castTop (ef_cl2_2 m a1 a3) k) ?_
  refine own_iconst X0 hx hby 0 d8_0 rfl ?_
  refine own_istore X0 hx hby d8_1 (l' := #[.val (.ref a1), .val (.int (0 : Int32)), .val (.ref a3), .val (.int (0 : Int32)), .val (.int (2 : Int32)), .val (.int (0 : Int32)), .unset]) rfl ?_
  refine own_iload X0 hx hby d8_3 rfl ?_
  refine own_iload X0 hx hby d8_5 rfl ?_
  have hc7_121 : (0 : Int32) < (2 : Int32) := by decide
  refine own_icmpNo X0 hx hby d8_7 (tlt hc7_121).2.1 ?_
  refine own_aloadN X0 hx hby d8_10 rfl rfl ?_
  refine own_iloadN X0 hx hby d8_11 rfl ?_
  obtain ⟨cl122, Ar122, qa122, Sa122, Na122, Ha122, Ga122⟩ := id Vc
  have hin122 : ¬ ((0 : Int32) < 0 ∨ cl122.slots.size ≤ ((0 : Int32)).toNatClampNeg) := inb_of Sa122 ⟨by decide, by decide⟩
  have hat122 : cl122.slots[((0 : Int32)).toNatClampNeg]? = some (.int c0) := Has.at Ha122 hin122 rfl
  refine own_of (U' := (s₁.setTop (mkF m 13 #[.val (.ref a1), .val (.int (0 : Int32)), .val (.ref a3), .val (.int (0 : Int32)), .val (.int (2 : Int32)), .val (.int (0 : Int32)), .unset] [(.int c0)]))) (X0.caload hx (j := (0 : Int32)) (v := (.int c0)) (by rw [e0]; exact Ar122.1) (State.isArrayOf_alike hZ.alike Ar122.2.1) Ar122.2.2 hin122 hat122 (g := (mkF m 12 #[.val (.ref a1), .val (.int (0 : Int32)), .val (.ref a3), .val (.int (0 : Int32)), .val (.int (2 : Int32)), .val (.int (0 : Int32)), .unset] [(.int (0 : Int32)), (.ref a1)])) rfl rfl (hb hby d8_12)) ?_
  refine own_istore X0 hx hby d8_13 (l' := #[.val (.ref a1), .val (.int (0 : Int32)), .val (.ref a3), .val (.int (0 : Int32)), .val (.int (2 : Int32)), .val (.int (0 : Int32)), .val (.int c0)]) rfl ?_
  refine own_iload X0 hx hby d8_15 rfl ?_
  refine own_sipush X0 hx hby 255 d8_17 rfl ?_
  have hc20_123 : ¬ ((255 : Int32) < c0) := hL0
  refine own_icmpYes X0 hx hby 20 26 d8_20 (flt hc20_123).2.2.2 (by decide) (by decide) ?_
  refine own_aloadN X0 hx hby d8_26 rfl rfl ?_
  refine own_iloadN X0 hx hby d8_27 rfl ?_
  refine own_iload X0 hx hby d8_28 rfl ?_
  refine own_i2b X0 hx hby d8_30 ?_
  obtain ⟨cl124, Ar124, qa124, Sa124, Na124, Ha124, Ga124⟩ := Vd
  have hin124 : ¬ ((0 : Int32) < 0 ∨ cl124.slots.size ≤ ((0 : Int32)).toNatClampNeg) := inb_of Sa124 ⟨by decide, by decide⟩
  obtain ⟨T124, h124, X124, e124, W124, st124⟩ := stB X0 hx hZ e0 Ar124 (j := (0 : Int32)) hin124 (g := (mkF m 31 #[.val (.ref a1), .val (.int (0 : Int32)), .val (.ref a3), .val (.int (0 : Int32)), .val (.int (2 : Int32)), .val (.int (0 : Int32)), .val (.int c0)] [(.int (c0.toInt8.toInt32)), (.int (0 : Int32)), (.ref a3)])) rfl rfl (hb hby d8_31)
  replace Vd : Arv Z h124 a3 kd .byte (2 : Int32) [(.int (nar .byte (c0.toInt8.toInt32))), (.int (0 : Int32))] (.int (0 : Int32)) := Arv.set Ar124 qa124 Sa124 Na124 Ha124 Ga124 (fits_nar_byte _) W124 0 rfl (Nat.le_of_ble_eq_true rfl)
  replace Z0 := Nat.le_trans Z0 (Keep.of_wr W124).1
  replace Vc := Vc.other W124 nea
  replace KK := KK.wr W124 (Or.inl (List.mem_of_getElem? (i := 0) rfl))
  have N124 := Fr.snoc X124 N0 g_a3
  refine own_of (U' := (T124.setTop (mkF m 32 #[.val (.ref a1), .val (.int (0 : Int32)), .val (.ref a3), .val (.int (0 : Int32)), .val (.int (2 : Int32)), .val (.int (0 : Int32)), .val (.int c0)] []))) (st124) ?_
  refine own_iinc X124 hx hby d8_32 rfl (l' := #[.val (.ref a1), .val (.int ((0 : Int32) + (1 : Int32))), .val (.ref a3), .val (.int (0 : Int32)), .val (.int (2 : Int32)), .val (.int (0 : Int32)), .val (.int c0)]) rfl ?_
  refine own_eq (U' := (T124.setTop (mkF m 35 #[.val (.ref a1), .val (.int (1 : Int32)), .val (.ref a3), .val (.int (0 : Int32)), .val (.int (2 : Int32)), .val (.int (0 : Int32)), .val (.int c0)] []))) (by rw [show ((0 : Int32) + (1 : Int32)) = (1 : Int32) by decide]) ?_
  refine own_iinc X124 hx hby d8_35 rfl (l' := #[.val (.ref a1), .val (.int (1 : Int32)), .val (.ref a3), .val (.int ((0 : Int32) + (1 : Int32))), .val (.int (2 : Int32)), .val (.int (0 : Int32)), .val (.int c0)]) rfl ?_
  refine own_eq (U' := (T124.setTop (mkF m 38 #[.val (.ref a1), .val (.int (1 : Int32)), .val (.ref a3), .val (.int (1 : Int32)), .val (.int (2 : Int32)), .val (.int (0 : Int32)), .val (.int c0)] []))) (by rw [show ((0 : Int32) + (1 : Int32)) = (1 : Int32) by decide]) ?_
  refine own_iinc X124 hx hby d8_38 rfl (l' := #[.val (.ref a1), .val (.int (1 : Int32)), .val (.ref a3), .val (.int (1 : Int32)), .val (.int (2 : Int32)), .val (.int ((0 : Int32) + (1 : Int32))), .val (.int c0)]) rfl ?_
  refine own_eq (U' := (T124.setTop (mkF m 41 #[.val (.ref a1), .val (.int (1 : Int32)), .val (.ref a3), .val (.int (1 : Int32)), .val (.int (2 : Int32)), .val (.int (1 : Int32)), .val (.int c0)] []))) (by rw [show ((0 : Int32) + (1 : Int32)) = (1 : Int32) by decide]) ?_
  refine own_goto X124 hx hby 41 3 d8_41 (by decide) (by decide) ?_
  refine own_iload X124 hx hby d8_3 rfl ?_
  refine own_iload X124 hx hby d8_5 rfl ?_
  have hc7_125 : (1 : Int32) < (2 : Int32) := by decide
  refine own_icmpNo X124 hx hby d8_7 (tlt hc7_125).2.1 ?_
  refine own_aloadN X124 hx hby d8_10 rfl rfl ?_
  refine own_iloadN X124 hx hby d8_11 rfl ?_
  obtain ⟨cl126, Ar126, qa126, Sa126, Na126, Ha126, Ga126⟩ := id Vc
  have hin126 : ¬ ((1 : Int32) < 0 ∨ cl126.slots.size ≤ ((1 : Int32)).toNatClampNeg) := inb_of Sa126 ⟨by decide, by decide⟩
  have hat126 : cl126.slots[((1 : Int32)).toNatClampNeg]? = some (.int c1) := Has.at Ha126 hin126 rfl
  refine own_of (U' := (T124.setTop (mkF m 13 #[.val (.ref a1), .val (.int (1 : Int32)), .val (.ref a3), .val (.int (1 : Int32)), .val (.int (2 : Int32)), .val (.int (1 : Int32)), .val (.int c0)] [(.int c1)]))) (X124.caload hx (j := (1 : Int32)) (v := (.int c1)) (by rw [e124]; exact Ar126.1) (State.isArrayOf_alike hZ.alike Ar126.2.1) Ar126.2.2 hin126 hat126 (g := (mkF m 12 #[.val (.ref a1), .val (.int (1 : Int32)), .val (.ref a3), .val (.int (1 : Int32)), .val (.int (2 : Int32)), .val (.int (1 : Int32)), .val (.int c0)] [(.int (1 : Int32)), (.ref a1)])) rfl rfl (hb hby d8_12)) ?_
  refine own_istore X124 hx hby d8_13 (l' := #[.val (.ref a1), .val (.int (1 : Int32)), .val (.ref a3), .val (.int (1 : Int32)), .val (.int (2 : Int32)), .val (.int (1 : Int32)), .val (.int c1)]) rfl ?_
  refine own_iload X124 hx hby d8_15 rfl ?_
  refine own_sipush X124 hx hby 255 d8_17 rfl ?_
  have hc20_127 : ¬ ((255 : Int32) < c1) := hL1
  refine own_icmpYes X124 hx hby 20 26 d8_20 (flt hc20_127).2.2.2 (by decide) (by decide) ?_
  refine own_aloadN X124 hx hby d8_26 rfl rfl ?_
  refine own_iloadN X124 hx hby d8_27 rfl ?_
  refine own_iload X124 hx hby d8_28 rfl ?_
  refine own_i2b X124 hx hby d8_30 ?_
  obtain ⟨cl128, Ar128, qa128, Sa128, Na128, Ha128, Ga128⟩ := Vd
  have hin128 : ¬ ((1 : Int32) < 0 ∨ cl128.slots.size ≤ ((1 : Int32)).toNatClampNeg) := inb_of Sa128 ⟨by decide, by decide⟩
  obtain ⟨T128, h128, X128, e128, W128, st128⟩ := stB X124 hx hZ e124 Ar128 (j := (1 : Int32)) hin128 (g := (mkF m 31 #[.val (.ref a1), .val (.int (1 : Int32)), .val (.ref a3), .val (.int (1 : Int32)), .val (.int (2 : Int32)), .val (.int (1 : Int32)), .val (.int c1)] [(.int (c1.toInt8.toInt32)), (.int (1 : Int32)), (.ref a3)])) rfl rfl (hb hby d8_31)
  replace Vd : Arv Z h128 a3 kd .byte (2 : Int32) [(.int (nar .byte (c0.toInt8.toInt32))), (.int (nar .byte (c1.toInt8.toInt32)))] (.int (0 : Int32)) := Arv.set Ar128 qa128 Sa128 Na128 Ha128 Ga128 (fits_nar_byte _) W128 1 rfl (Nat.le_of_ble_eq_true rfl)
  replace Z0 := Nat.le_trans Z0 (Keep.of_wr W128).1
  replace Vc := Vc.other W128 nea
  replace KK := KK.wr W128 (Or.inl (List.mem_of_getElem? (i := 0) rfl))
  have N128 := Fr.snoc X128 N124 g_a3
  refine own_of (U' := (T128.setTop (mkF m 32 #[.val (.ref a1), .val (.int (1 : Int32)), .val (.ref a3), .val (.int (1 : Int32)), .val (.int (2 : Int32)), .val (.int (1 : Int32)), .val (.int c1)] []))) (st128) ?_
  refine own_iinc X128 hx hby d8_32 rfl (l' := #[.val (.ref a1), .val (.int ((1 : Int32) + (1 : Int32))), .val (.ref a3), .val (.int (1 : Int32)), .val (.int (2 : Int32)), .val (.int (1 : Int32)), .val (.int c1)]) rfl ?_
  refine own_eq (U' := (T128.setTop (mkF m 35 #[.val (.ref a1), .val (.int (2 : Int32)), .val (.ref a3), .val (.int (1 : Int32)), .val (.int (2 : Int32)), .val (.int (1 : Int32)), .val (.int c1)] []))) (by rw [show ((1 : Int32) + (1 : Int32)) = (2 : Int32) by decide]) ?_
  refine own_iinc X128 hx hby d8_35 rfl (l' := #[.val (.ref a1), .val (.int (2 : Int32)), .val (.ref a3), .val (.int ((1 : Int32) + (1 : Int32))), .val (.int (2 : Int32)), .val (.int (1 : Int32)), .val (.int c1)]) rfl ?_
  refine own_eq (U' := (T128.setTop (mkF m 38 #[.val (.ref a1), .val (.int (2 : Int32)), .val (.ref a3), .val (.int (2 : Int32)), .val (.int (2 : Int32)), .val (.int (1 : Int32)), .val (.int c1)] []))) (by rw [show ((1 : Int32) + (1 : Int32)) = (2 : Int32) by decide]) ?_
  refine own_iinc X128 hx hby d8_38 rfl (l' := #[.val (.ref a1), .val (.int (2 : Int32)), .val (.ref a3), .val (.int (2 : Int32)), .val (.int (2 : Int32)), .val (.int ((1 : Int32) + (1 : Int32))), .val (.int c1)]) rfl ?_
  refine own_eq (U' := (T128.setTop (mkF m 41 #[.val (.ref a1), .val (.int (2 : Int32)), .val (.ref a3), .val (.int (2 : Int32)), .val (.int (2 : Int32)), .val (.int (2 : Int32)), .val (.int c1)] []))) (by rw [show ((1 : Int32) + (1 : Int32)) = (2 : Int32) by decide]) ?_
  refine own_goto X128 hx hby 41 3 d8_41 (by decide) (by decide) ?_
  refine own_iload X128 hx hby d8_3 rfl ?_
  refine own_iload X128 hx hby d8_5 rfl ?_
  have hc7_129 : ¬ ((2 : Int32) < (2 : Int32)) := by decide
  refine own_icmpYes X128 hx hby 7 44 d8_7 (flt hc7_129).2.1 (by decide) (by decide) ?_
  refine own_iload X128 hx hby d8_44 rfl ?_
  exact own_retI X128 hx hlk Bd.returns (hb hby d8_46) (by decide) (by decide) (by rw [e128]; exact ⟨rfl, N128, KK, Vd⟩)
def Qclb2 (a3 : Addr) (c0 c1 : Int32) (h0 : Heap) (n0 : Nat) (v : Option Value) (h : Heap) (L : List Loc) : Prop := ∃ r : Int32, v = some (.int r) ∧ Fr n0 L ∧ Keep h0 h [a3] ∧ ¬ (r = (2 : Int32)) ∧ (¬ ((r <<< ((1 : Int32) &&& 31)) < (0 : Int32))) ∧ ((r <<< ((1 : Int32) &&& 31)) < (4 : Int32)) ∧ (¬ (((r <<< ((1 : Int32) &&& 31)) + (1 : Int32)) < (0 : Int32))) ∧ (((r <<< ((1 : Int32) &&& 31)) + (1 : Int32)) < (4 : Int32)) ∧ (255 : Int32) < own_chu [(own_lo8 c0), (own_hi8 c0), (own_lo8 c1), (own_hi8 c1)] r
theorem rmclb2 (l : Launch) (Z : State) (a0 : Array Value) (hw : ∀ d ∈ tables_1, d.before a0 Z = true) (ws : List Jvm.Cond) (a1 a3 : Addr) (kc kd : ClassId) (c0 c1 : Int32) (h0 : Heap) (n0 : Nat) (Z0 : n0 ≤ h0.size) (Vc : Arv Z h0 a1 kc .char (2 : Int32) [(.int c0), (.int c1)] (.int (0 : Int32))) (Vd : Arv Z h0 a3 kd .byte (2 : Int32) [(.int (0 : Int32)), (.int (0 : Int32))] (.int (0 : Int32))) (g_a3 : n0 ≤ a3) (nea : a1 ≠ a3) (hb0 : 0 ≤ c0.toInt ∧ c0.toInt < 65536) (hb1 : 0 ≤ c1.toInt ∧ c1.toInt < 65536) (big : ((255 : Int32) < c0) ∨ ((255 : Int32) < c1)) :
    MetFree l mN_15 (head1 (Jvm.Cond.code mN_15 jdk_52_method_21_code 7 (some .int) :: ws) ({ frames := 0, cells := 0, slots := 0, locals := 0 } : Room)) (fun a U => a = #[(.ref a1), (.int (0 : Int32)), (.ref a3), (.int (0 : Int32)), (.int (2 : Int32))] ∧ Z.Warmed39 U.vm ∧ U.heap = h0) (fun _ _ _ _ _ => True) (fun _ U o U' => ∃ v L, o = .returned v ∧ (Qclb2 a3 c0 c1 h0 n0) v U'.heap L ∧ FrameEnd U o U' L ({ frames := 0, cells := 0, slots := 0, locals := 0 } : Room).cells ({ frames := 0, cells := 0, slots := 0, locals := 0 } : Room).slots) := by
  by_cases qB0 : (255 : Int32) < c0
  · exact own_mono (rmcl2_0 l Z a0 hw ws a1 a3 kc kd c0 c1 h0 n0 Z0 Vc Vd g_a3 nea  qB0) (fun _ _ _ _ ⟨v, L, h1, ⟨q1, q2, q3, _⟩, h3⟩ => ⟨v, L, h1, ⟨(0 : Int32), q1, q2, q3, by decide, by decide, by decide, by decide, by decide, by rw [show own_chu [(own_lo8 c0), (own_hi8 c0), (own_lo8 c1), (own_hi8 c1)] (0 : Int32) = c0 from own_gc_eq hb0]; exact qB0⟩, h3⟩)
  by_cases qB1 : (255 : Int32) < c1
  · exact own_mono (rmcl2_1 l Z a0 hw ws a1 a3 kc kd c0 c1 h0 n0 Z0 Vc Vd g_a3 nea qB0 qB1) (fun _ _ _ _ ⟨v, L, h1, ⟨q1, q2, q3, _⟩, h3⟩ => ⟨v, L, h1, ⟨(1 : Int32), q1, q2, q3, by decide, by decide, by decide, by decide, by decide, by rw [show own_chu [(own_lo8 c0), (own_hi8 c0), (own_lo8 c1), (own_hi8 c1)] (1 : Int32) = c1 from own_gc_eq hb1]; exact qB1⟩, h3⟩)
  exact absurd big (by simp [qB0, qB1])
theorem ef_cl2 (m : MethodId) (x0 : Addr) : entryFrame m #[(.ref x0), (.int (0 : Int32)), (.int (2 : Int32))] 6 = mkF m 0 #[.val (.ref x0), .val (.int (0 : Int32)), .val (.int (2 : Int32)), .unset, .unset, .unset] [] := by first | (simp [entryFrame, mkF, argsToLocals, Value.category]; done) | rfl
def Qcl2 (Z : State) (c0 c1 : Int32) (h0 : Heap) (n0 : Nat) (v : Option Value) (h : Heap) (L : List Loc) : Prop := ∃ (b : Addr) (kb : ClassId), v = some (.ref b) ∧ Fr n0 L ∧ Keep h0 h [] ∧ h0.size ≤ b ∧ Arv Z h b kb .byte (2 : Int32) [(.int (own_b8 c0)), (.int (own_b8 c1))] (.int (0 : Int32))
set_option maxRecDepth 65536 in
set_option maxHeartbeats 40000000 in
theorem rmcl2 (l : Launch) (Z : State) (a0 : Array Value) (hw : ∀ d ∈ tables_1, d.before a0 Z = true) (ws : List Jvm.Cond) (a1 : Addr) (kc : ClassId) (c0 c1 : Int32) (h0 : Heap) (n0 : Nat) (Z0 : n0 ≤ h0.size) (Vc : Arv Z h0 a1 kc .char (2 : Int32) [(.int c0), (.int c1)] (.int (0 : Int32))) (hb0 : 0 ≤ c0.toInt ∧ c0.toInt < 65536) (hb1 : 0 ≤ c1.toInt ∧ c1.toInt < 65536) (SA : Sta Z h0 "java/lang/StringUTF16" "$assertionsDisabled" "Z" (.int (1 : Int32))) (SHI : Sta Z h0 "java/lang/StringUTF16" "HI_BYTE_SHIFT" "I" (.int (0 : Int32))) (SLO : Sta Z h0 "java/lang/StringUTF16" "LO_BYTE_SHIFT" "I" (.int (8 : Int32))) (hL0 : ¬ ((255 : Int32) < c0)) (hL1 : ¬ ((255 : Int32) < c1)) :
    MetFree l mN_16 (head1 (Jvm.Cond.code mN_16 jdk_52_method_16_code 6 (some (.array .byte)) :: ws) ({ frames := 1, cells := 1, slots := 2, locals := 18 } : Room)) (fun a U => a = #[(.ref a1), (.int (0 : Int32)), (.int (2 : Int32))] ∧ Z.Warmed39 U.vm ∧ U.heap = h0) (fun _ _ _ _ _ => True) (fun _ U o U' => ∃ v L, o = .returned v ∧ (Qcl2 Z c0 c1 h0 n0) v U'.heap L ∧ FrameEnd U o U' L ({ frames := 1, cells := 1, slots := 2, locals := 18 } : Room).cells ({ frames := 1, cells := 1, slots := 2, locals := 18 } : Room).slots) := by
  refine MetFree.of_bodySF (plainFor_of_name pn_2) hisR ?_
  intro p e s m args below meth c s₁ Bd hml0 hP hK
  obtain ⟨rfl, hZ, hh⟩ := hP
  have hx := Bd.exec
  have hby := Bd.bytes
  have hml : c.maxLocals = 6 := hml0
  have hown : s.vm.findClass "java/lang/StringUTF16" = some m.cls := findClass_of_methodNamed Bd.named
  have hnm := (name_of_methodNamed Bd.named Bd.method).1
  have hlk := Bd.notSynchronized
  have X0 : Stand p l e ({ frames := 1, cells := 1, slots := 2, locals := 18 } : Room) s m #[(.ref a1), (.int (0 : Int32)), (.int (2 : Int32))] below meth c s₁ [] 0 0 := Stand.of_body Bd
  have e0 : s₁.heap = h0 := by rw [← hh, Bd.state]; rfl
  have N0 := Fr.nil n0
  have KK := Keep.refl h0 []
  show own_Ends p e below s FrameEnd (Qcl2 Z c0 c1 h0 n0) 1 2 (s₁.setTop (entryFrame m #[(.ref a1), (.int (0 : Int32)), (.int (2 : Int32))] 6))
  refine own_of (U' := (s₁.setTop (mkF m 0 #[.val (.ref a1), .val (.int (0 : Int32)), .val (.int (2 : Int32)), .unset, .unset, .unset] []))) (fun _ k => castTop (ef_cl2 m a1) k) ?_
  refine own_iloadN X0 hx hby d7_0 rfl ?_
  obtain ⟨T130, h130, k130, X130, e130, E130, A130, st130⟩ := newP X0 hx hZ (own_w hw 15 rfl) e0 (g := (mkF m 1 #[.val (.ref a1), .val (.int (0 : Int32)), .val (.int (2 : Int32)), .unset, .unset, .unset] [(.int (2 : Int32))])) rfl (hb hby d7_1) rfl (by decide) (cap := 2) (by decide) (by decide) (by decide) (by decide)
  obtain ⟨b130, gz130⟩ : ∃ z, z = h0.size := ⟨_, rfl⟩
  rw [← gz130] at A130 st130
  have g_b130 : n0 ≤ b130 := Nat.le_trans Z0 (Nat.le_of_eq gz130.symm)
  have sz_b130 : h0.size ≤ b130 := Nat.le_trans KK.1 (Nat.le_of_eq gz130.symm)
  have ne_a1_b130 : a1 ≠ b130 := Nat.ne_of_lt (Nat.lt_of_lt_of_le Vc.lt (Nat.le_of_eq gz130.symm))
  replace Z0 := Nat.le_trans Z0 E130.1
  replace Vc := Vc.ext E130
  replace SA := SA.ext E130
  replace SHI := SHI.ext E130
  replace SLO := SLO.ext E130
  replace KK := KK.ext E130
  have V130 : Arv Z h130 b130 k130 .byte (2 : Int32) [(.int (0 : Int32)), (.int (0 : Int32))] (.int (0 : Int32)) := (Arv.new A130 (by decide)).pad (pad_rep [] (.int (0 : Int32)) 2)
  refine own_of (U' := (T130.setTop (mkF m 3 #[.val (.ref a1), .val (.int (0 : Int32)), .val (.int (2 : Int32)), .unset, .unset, .unset] [(.ref b130)]))) (st130) ?_
  refine own_astoreN X130 hx hby d7_3 rfl (l' := #[.val (.ref a1), .val (.int (0 : Int32)), .val (.int (2 : Int32)), .val (.ref b130), .unset, .unset]) rfl ?_
  refine own_aloadN X130 hx hby d7_4 rfl rfl ?_
  refine own_iloadN X130 hx hby d7_5 rfl ?_
  refine own_aloadN X130 hx hby d7_6 rfl rfl ?_
  refine own_iconst X130 hx hby 0 d7_7 rfl ?_
  refine own_iloadN X130 hx hby d7_8 rfl ?_
  obtain ⟨_, _, ⟨T131, L131, k131, n131⟩, -, X131, ⟨Lc131, hQ131, l131, y131, z131⟩, st131⟩ := Jvm.LawKit.callS X130 hx (y := mN_15) hown (mvT hZ (own_w hw 41 rfl)) (mvT hZ (own_w hw 42 rfl)) (mvT hZ (own_w hw 39 rfl)) (mvT hZ (own_w hw 43 rfl)) (by decide) (backOf (W := 0) (rmcl2_2 l Z a0 hw [] a1 b130 kc k130 c0 c1 h130 n0 Z0 Vc V130 g_b130 ne_a1_b130 hL0 hL1) hZ (own_w hw 43 rfl) (own_w hw 39 rfl) (by decide) (by decide)) (g := (mkF m 9 #[.val (.ref a1), .val (.int (0 : Int32)), .val (.int (2 : Int32)), .val (.ref b130), .unset, .unset] [(.int (2 : Int32)), (.int (0 : Int32)), (.ref b130), (.int (0 : Int32)), (.ref a1)])) rfl (by rw [hml]; rfl) (argsL := [(.ref a1), (.int (0 : Int32)), (.ref b130), (.int (0 : Int32)), (.int (2 : Int32))]) (rest := []) (lenOf pd_10 rfl) rfl (by show 2 * 0 + _ ≤ _; exact Nat.le_of_eq rfl) (hb hby d7_9) (fun _ _ => ⟨rfl, e130, (by decide : 1 + 0 ≤ _), (by decide : 2 + 0 ≤ _)⟩)
  dsimp only [Pt.U, Pt.locs, Pt.cells, Pt.slots] at X131 l131 y131 z131 st131 hQ131
  subst l131 y131 z131
  obtain ⟨rfl, Nq131, Kp131, Vq131⟩ := hQ131
  have N131 := Fr.app N0 Nq131
  have nst_b130 := V130.nostat
  replace Z0 := Nat.le_trans Z0 Kp131.1
  replace Vc := Vc.keep Kp131 (ninS ne_a1_b130 nin0)
  replace SA := own_staKeep SA Kp131 (nsS nst_b130 ns0)
  replace SHI := own_staKeep SHI Kp131 (nsS nst_b130 ns0)
  replace SLO := own_staKeep SLO Kp131 (nsS nst_b130 ns0)
  replace KK := KK.trans Kp131 (allS (Or.inr sz_b130) all0)
  refine own_of (U' := (T131.setTop (mkF m 12 #[.val (.ref a1), .val (.int (0 : Int32)), .val (.int (2 : Int32)), .val (.ref b130), .unset, .unset] [(.int (2 : Int32))]))) (st131) ?_
  refine own_istore X131 hx hby d7_12 (l' := #[.val (.ref a1), .val (.int (0 : Int32)), .val (.int (2 : Int32)), .val (.ref b130), .val (.int (2 : Int32)), .unset]) rfl ?_
  refine own_iload X131 hx hby d7_14 rfl ?_
  refine own_iloadN X131 hx hby d7_16 rfl ?_
  have hc17_132 : (2 : Int32) = (2 : Int32) := by decide
  refine own_icmpYes X131 hx hby 17 57 d7_17 (teq hc17_132).1 (by decide) (by decide) ?_
  refine own_aloadN X131 hx hby d7_57 rfl rfl ?_
  exact own_retA X131 hx hlk Bd.returns rfl rfl (hb hby d7_58) (by decide) (by decide) (⟨b130, k130, rfl, N131, KK, sz_b130, Vq131⟩)
theorem ef_cb2 (m : MethodId) (x0 : Addr) : entryFrame m #[(.ref x0), (.int (0 : Int32)), (.int (2 : Int32))] 6 = mkF m 0 #[.val (.ref x0), .val (.int (0 : Int32)), .val (.int (2 : Int32)), .unset, .unset, .unset] [] := by first | (simp [entryFrame, mkF, argsToLocals, Value.category]; done) | rfl
def Qcb2 (Z : State) (c0 c1 : Int32) (h0 : Heap) (n0 : Nat) (v : Option Value) (h : Heap) (L : List Loc) : Prop := ∃ (b : Addr) (kb : ClassId), v = some (.ref b) ∧ Fr n0 L ∧ Keep h0 h [] ∧ h0.size ≤ b ∧ Arv Z h b kb .byte (4 : Int32) [(.int (own_lo8 c0)), (.int (own_hi8 c0)), (.int (own_lo8 c1)), (.int (own_hi8 c1))] (.int (0 : Int32))
set_option maxRecDepth 65536 in
set_option maxHeartbeats 40000000 in
theorem rmcb2 (l : Launch) (Z : State) (a0 : Array Value) (hw : ∀ d ∈ tables_1, d.before a0 Z = true) (ws : List Jvm.Cond) (a1 : Addr) (kc : ClassId) (c0 c1 : Int32) (h0 : Heap) (n0 : Nat) (Z0 : n0 ≤ h0.size) (Vc : Arv Z h0 a1 kc .char (2 : Int32) [(.int c0), (.int c1)] (.int (0 : Int32))) (hb0 : 0 ≤ c0.toInt ∧ c0.toInt < 65536) (hb1 : 0 ≤ c1.toInt ∧ c1.toInt < 65536) (SA : Sta Z h0 "java/lang/StringUTF16" "$assertionsDisabled" "Z" (.int (1 : Int32))) (SHI : Sta Z h0 "java/lang/StringUTF16" "HI_BYTE_SHIFT" "I" (.int (0 : Int32))) (SLO : Sta Z h0 "java/lang/StringUTF16" "LO_BYTE_SHIFT" "I" (.int (8 : Int32))) (big : ((255 : Int32) < c0) ∨ ((255 : Int32) < c1)) :
    MetFree l mN_16 (head1 (Jvm.Cond.code mN_16 jdk_52_method_16_code 6 (some (.array .byte)) :: ws) ({ frames := 3, cells := 2, slots := 6, locals := 40 } : Room)) (fun a U => a = #[(.ref a1), (.int (0 : Int32)), (.int (2 : Int32))] ∧ Z.Warmed39 U.vm ∧ U.heap = h0) (fun _ _ _ _ _ => True) (fun _ U o U' => ∃ v L, o = .returned v ∧ (Qcb2 Z c0 c1 h0 n0) v U'.heap L ∧ FrameEnd U o U' L ({ frames := 3, cells := 2, slots := 6, locals := 40 } : Room).cells ({ frames := 3, cells := 2, slots := 6, locals := 40 } : Room).slots) := by
  refine MetFree.of_bodySF (plainFor_of_name pn_2) hisR ?_
  intro p e s m args below meth c s₁ Bd hml0 hP hK
  obtain ⟨rfl, hZ, hh⟩ := hP
  have hx := Bd.exec
  have hby := Bd.bytes
  have hml : c.maxLocals = 6 := hml0
  have hown : s.vm.findClass "java/lang/StringUTF16" = some m.cls := findClass_of_methodNamed Bd.named
  have hnm := (name_of_methodNamed Bd.named Bd.method).1
  have hlk := Bd.notSynchronized
  have X0 : Stand p l e ({ frames := 3, cells := 2, slots := 6, locals := 40 } : Room) s m #[(.ref a1), (.int (0 : Int32)), (.int (2 : Int32))] below meth c s₁ [] 0 0 := Stand.of_body Bd
  have e0 : s₁.heap = h0 := by rw [← hh, Bd.state]; rfl
  have N0 := Fr.nil n0
  have KK := Keep.refl h0 []
  show own_Ends p e below s FrameEnd (Qcb2 Z c0 c1 h0 n0) 2 6 (s₁.setTop (entryFrame m #[(.ref a1), (.int (0 : Int32)), (.int (2 : Int32))] 6))
  refine own_of (U' := (s₁.setTop (mkF m 0 #[.val (.ref a1), .val (.int (0 : Int32)), .val (.int (2 : Int32)), .unset, .unset, .unset] []))) (fun _ k => castTop (ef_cb2 m a1) k) ?_
  refine own_iloadN X0 hx hby d7_0 rfl ?_
  obtain ⟨T133, h133, k133, X133, e133, E133, A133, st133⟩ := newP X0 hx hZ (own_w hw 15 rfl) e0 (g := (mkF m 1 #[.val (.ref a1), .val (.int (0 : Int32)), .val (.int (2 : Int32)), .unset, .unset, .unset] [(.int (2 : Int32))])) rfl (hb hby d7_1) rfl (by decide) (cap := 2) (by decide) (by decide) (by decide) (by decide)
  obtain ⟨b133, gz133⟩ : ∃ z, z = h0.size := ⟨_, rfl⟩
  rw [← gz133] at A133 st133
  have g_b133 : n0 ≤ b133 := Nat.le_trans Z0 (Nat.le_of_eq gz133.symm)
  have sz_b133 : h0.size ≤ b133 := Nat.le_trans KK.1 (Nat.le_of_eq gz133.symm)
  have ne_a1_b133 : a1 ≠ b133 := Nat.ne_of_lt (Nat.lt_of_lt_of_le Vc.lt (Nat.le_of_eq gz133.symm))
  replace Z0 := Nat.le_trans Z0 E133.1
  replace Vc := Vc.ext E133
  replace SA := SA.ext E133
  replace SHI := SHI.ext E133
  replace SLO := SLO.ext E133
  replace KK := KK.ext E133
  have V133 : Arv Z h133 b133 k133 .byte (2 : Int32) [(.int (0 : Int32)), (.int (0 : Int32))] (.int (0 : Int32)) := (Arv.new A133 (by decide)).pad (pad_rep [] (.int (0 : Int32)) 2)
  refine own_of (U' := (T133.setTop (mkF m 3 #[.val (.ref a1), .val (.int (0 : Int32)), .val (.int (2 : Int32)), .unset, .unset, .unset] [(.ref b133)]))) (st133) ?_
  refine own_astoreN X133 hx hby d7_3 rfl (l' := #[.val (.ref a1), .val (.int (0 : Int32)), .val (.int (2 : Int32)), .val (.ref b133), .unset, .unset]) rfl ?_
  refine own_aloadN X133 hx hby d7_4 rfl rfl ?_
  refine own_iloadN X133 hx hby d7_5 rfl ?_
  refine own_aloadN X133 hx hby d7_6 rfl rfl ?_
  refine own_iconst X133 hx hby 0 d7_7 rfl ?_
  refine own_iloadN X133 hx hby d7_8 rfl ?_
  obtain ⟨_, _, ⟨T134, L134, k134, n134⟩, -, X134, ⟨Lc134, hQ134, l134, y134, z134⟩, st134⟩ := Jvm.LawKit.callS X133 hx (y := mN_15) hown (mvT hZ (own_w hw 41 rfl)) (mvT hZ (own_w hw 42 rfl)) (mvT hZ (own_w hw 39 rfl)) (mvT hZ (own_w hw 43 rfl)) (by decide) (backOf (W := 0) (rmclb2 l Z a0 hw [] a1 b133 kc k133 c0 c1 h133 n0 Z0 Vc V133 g_b133 ne_a1_b133 hb0 hb1 big) hZ (own_w hw 43 rfl) (own_w hw 39 rfl) (by decide) (by decide)) (g := (mkF m 9 #[.val (.ref a1), .val (.int (0 : Int32)), .val (.int (2 : Int32)), .val (.ref b133), .unset, .unset] [(.int (2 : Int32)), (.int (0 : Int32)), (.ref b133), (.int (0 : Int32)), (.ref a1)])) rfl (by rw [hml]; rfl) (argsL := [(.ref a1), (.int (0 : Int32)), (.ref b133), (.int (0 : Int32)), (.int (2 : Int32))]) (rest := []) (lenOf pd_10 rfl) rfl (by show 2 * 0 + _ ≤ _; exact Nat.le_of_eq rfl) (hb hby d7_9) (fun _ _ => ⟨rfl, e133, (by decide : 1 + 0 ≤ _), (by decide : 2 + 0 ≤ _)⟩)
  dsimp only [Pt.U, Pt.locs, Pt.cells, Pt.slots] at X134 l134 y134 z134 st134 hQ134
  subst l134 y134 z134
  obtain ⟨r134, rfl, Nq134, Kp134, nr134, i1, i2, i3, i4, bg134⟩ := hQ134
  have N134 := Fr.app N0 Nq134
  have nst_b133 := V133.nostat
  replace Z0 := Nat.le_trans Z0 Kp134.1
  replace Vc := Vc.keep Kp134 (ninS ne_a1_b133 nin0)
  replace SA := own_staKeep SA Kp134 (nsS nst_b133 ns0)
  replace SHI := own_staKeep SHI Kp134 (nsS nst_b133 ns0)
  replace SLO := own_staKeep SLO Kp134 (nsS nst_b133 ns0)
  replace KK := KK.trans Kp134 (allS (Or.inr sz_b133) all0)
  refine own_of (U' := (T134.setTop (mkF m 12 #[.val (.ref a1), .val (.int (0 : Int32)), .val (.int (2 : Int32)), .val (.ref b133), .unset, .unset] [(.int r134)]))) (st134) ?_
  refine own_istore X134 hx hby d7_12 (l' := #[.val (.ref a1), .val (.int (0 : Int32)), .val (.int (2 : Int32)), .val (.ref b133), .val (.int r134), .unset]) rfl ?_
  refine own_iload X134 hx hby d7_14 rfl ?_
  refine own_iloadN X134 hx hby d7_16 rfl ?_
  have hc17_135 : ¬ (r134 = (2 : Int32)) := nr134
  refine own_icmpNo X134 hx hby d7_17 (feq hc17_135).1 ?_
  refine own_aloadN X134 hx hby d7_20 rfl rfl ?_
  refine own_iloadN X134 hx hby d7_21 rfl ?_
  refine own_iloadN X134 hx hby d7_22 rfl ?_
  obtain ⟨_, _, ⟨T136, L136, k136, n136⟩, -, X136, ⟨Lc136, hQ136, l136, y136, z136⟩, st136⟩ := Jvm.LawKit.callS X134 hx (y := mN_14) hown (mvT hZ (own_w hw 73 rfl)) (mvT hZ (own_w hw 74 rfl)) (mvT hZ (own_w hw 39 rfl)) (mvT hZ (own_w hw 75 rfl)) (by decide) (backOf (W := 0) (rmtb2 l Z a0 hw [] a1 kc c0 c1 T134.heap n0 Z0 Vc SA SHI SLO) hZ (own_w hw 75 rfl) (own_w hw 39 rfl) (by decide) (by decide)) (g := (mkF m 23 #[.val (.ref a1), .val (.int (0 : Int32)), .val (.int (2 : Int32)), .val (.ref b133), .val (.int r134), .unset] [(.int (2 : Int32)), (.int (0 : Int32)), (.ref a1)])) rfl (by rw [hml]; rfl) (argsL := [(.ref a1), (.int (0 : Int32)), (.int (2 : Int32))]) (rest := []) (lenOf pd_11 rfl) rfl (by show 2 * 0 + _ ≤ _; exact Nat.le_of_eq rfl) (hb hby d7_23) (fun _ _ => ⟨rfl, rfl, (by decide : 1 + 1 ≤ _), (by decide : 2 + 4 ≤ _)⟩)
  dsimp only [Pt.U, Pt.locs, Pt.cells, Pt.slots] at X136 l136 y136 z136 st136 hQ136
  subst l136 y136 z136
  obtain ⟨u136, ku136, rfl, Nq136, Kp136, gq136, Vq136⟩ := hQ136
  have g_u136 : n0 ≤ u136 := Nat.le_trans Z0 gq136
  have sz_u136 : h0.size ≤ u136 := Nat.le_trans KK.1 gq136
  have ne_a1_u136 : a1 ≠ u136 := Nat.ne_of_lt (Nat.lt_of_lt_of_le Vc.lt gq136)
  have N136 := Fr.app N134 Nq136
  replace Z0 := Nat.le_trans Z0 Kp136.1
  replace Vc := Vc.keep Kp136 nin0
  replace SA := own_staKeep SA Kp136 ns0
  replace SHI := own_staKeep SHI Kp136 ns0
  replace SLO := own_staKeep SLO Kp136 ns0
  replace KK := KK.trans Kp136 all0
  refine own_of (U' := (T136.setTop (mkF m 26 #[.val (.ref a1), .val (.int (0 : Int32)), .val (.int (2 : Int32)), .val (.ref b133), .val (.int r134), .unset] [(.ref u136)]))) (st136) ?_
  refine own_astore X136 hx hby d7_26 rfl (l' := #[.val (.ref a1), .val (.int (0 : Int32)), .val (.int (2 : Int32)), .val (.ref b133), .val (.int r134), .val (.ref u136)]) rfl ?_
  refine own_aload X136 hx hby d7_28 rfl rfl ?_
  refine own_iload X136 hx hby d7_30 rfl ?_
  obtain ⟨_, _, ⟨T137, L137, k137, n137⟩, -, X137, ⟨Lc137, hQ137, l137, y137, z137⟩, st137⟩ := Jvm.LawKit.callS X136 hx (y := mN_4) hown (mvT hZ (own_w hw 89 rfl)) (mvT hZ (own_w hw 90 rfl)) (mvT hZ (own_w hw 39 rfl)) (mvT hZ (own_w hw 91 rfl)) (by decide) (backOf (W := 0) (rmug l Z a0 hw [] u136 r134 ku136 (4 : Int32) [(own_lo8 c0), (own_hi8 c0), (own_lo8 c1), (own_hi8 c1)] T136.heap n0 Z0 Vq136 i1 i2 i3 i4 SA SHI SLO) hZ (own_w hw 91 rfl) (own_w hw 39 rfl) (by decide) (by decide)) (g := (mkF m 32 #[.val (.ref a1), .val (.int (0 : Int32)), .val (.int (2 : Int32)), .val (.ref b133), .val (.int r134), .val (.ref u136)] [(.int r134), (.ref u136)])) rfl (by rw [hml]; rfl) (argsL := [(.ref u136), (.int r134)]) (rest := []) (lenOf pd_4 rfl) rfl (by show 2 * 0 + _ ≤ _; exact Nat.le_of_eq rfl) (hb hby d7_32) (fun _ _ => ⟨rfl, rfl, (by decide : 2 + 0 ≤ _), (by decide : 6 + 0 ≤ _)⟩)
  dsimp only [Pt.U, Pt.locs, Pt.cells, Pt.slots] at X137 l137 y137 z137 st137 hQ137
  subst l137 y137 z137
  obtain ⟨rfl, Nq137, e137⟩ := hQ137
  have N137 := Fr.app N136 Nq137
  refine own_of (U' := (T137.setTop (mkF m 35 #[.val (.ref a1), .val (.int (0 : Int32)), .val (.int (2 : Int32)), .val (.ref b133), .val (.int r134), .val (.ref u136)] [(.int (own_chu [(own_lo8 c0), (own_hi8 c0), (own_lo8 c1), (own_hi8 c1)] r134))]))) (st137) ?_
  refine own_sipush X137 hx hby 255 d7_35 rfl ?_
  have hc38_138 : (255 : Int32) < (own_chu [(own_lo8 c0), (own_hi8 c0), (own_lo8 c1), (own_hi8 c1)] r134) := bg134
  refine own_icmpYes X137 hx hby 38 54 d7_38 (tlt hc38_138).2.2.1 (by decide) (by decide) ?_
  refine own_aload X137 hx hby d7_54 rfl rfl ?_
  exact own_retA X137 hx hlk Bd.returns rfl rfl (hb hby d7_56) (by decide) (by decide) (by rw [e137]; exact ⟨u136, ku136, rfl, N137, KK, sz_u136, Vq136⟩)
theorem ef_cf2_2 (m : MethodId) (x0 : Addr) : entryFrame m #[(.ref x0), (.int (2 : Int32))] 2 = mkF m 0 #[.val (.ref x0), .val (.int (2 : Int32))] [] := by first | (simp [entryFrame, mkF, argsToLocals, Value.category]; done) | rfl
set_option maxRecDepth 65536 in
set_option maxHeartbeats 40000000 in
theorem rmcf2_2 (l : Launch) (Z : State) (a0 : Array Value) (hw : ∀ d ∈ tables_1, d.before a0 Z = true) (ws : List Jvm.Cond) (b : Addr) (kb : ClassId) (cs : List Int32) (h0 : Heap) (n0 : Nat) (Z0 : n0 ≤ h0.size) (Vb : Arv Z h0 b kb .byte (2 : Int32) (cs.map Value.int) (.int (0 : Int32))) :
    MetFree l mN_17 (head1 (Jvm.Cond.code mN_17 jdk_52_method_15_code 2 (some .byte) :: ws) ({ frames := 0, cells := 0, slots := 0, locals := 0 } : Room)) (fun a U => a = #[(.ref b), (.int (2 : Int32))] ∧ Z.Warmed39 U.vm ∧ U.heap = h0) (fun _ _ _ _ _ => True) (fun _ U o U' => ∃ v L, o = .returned v ∧ (Qv 0 h0 n0) v U'.heap L ∧ FrameEnd U o U' L ({ frames := 0, cells := 0, slots := 0, locals := 0 } : Room).cells ({ frames := 0, cells := 0, slots := 0, locals := 0 } : Room).slots) := by
  refine MetFree.of_bodySF (plainFor_of_name pn_2) hisR ?_
  intro p e s m args below meth c s₁ Bd hml0 hP hK
  obtain ⟨rfl, hZ, hh⟩ := hP
  have hx := Bd.exec
  have hby := Bd.bytes
  have hml : c.maxLocals = 2 := hml0
  have hown : s.vm.findClass "java/lang/StringUTF16" = some m.cls := findClass_of_methodNamed Bd.named
  have hnm := (name_of_methodNamed Bd.named Bd.method).1
  have hlk := Bd.notSynchronized
  have X0 : Stand p l e ({ frames := 0, cells := 0, slots := 0, locals := 0 } : Room) s m #[(.ref b), (.int (2 : Int32))] below meth c s₁ [] 0 0 := Stand.of_body Bd
  have e0 : s₁.heap = h0 := by rw [← hh, Bd.state]; rfl
  have N0 := Fr.nil n0
  show own_Ends p e below s FrameEnd (Qv 0 h0 n0) 0 0 (s₁.setTop (entryFrame m #[(.ref b), (.int (2 : Int32))] 2))
  refine own_of (U' := (s₁.setTop (mkF m 0 #[.val (.ref b), .val (.int (2 : Int32))] []))) (fun _ k => castTop (ef_cf2_2 m b) k) ?_
  refine own_iloadN X0 hx hby d9_0 rfl ?_
  refine own_aloadN X0 hx hby d9_1 rfl rfl ?_
  obtain ⟨cl139, Ar139, qa139, Sa139, Na139, -, -⟩ := id Vb
  have al139 := X0.arraylength hx (by rw [e0]; exact Ar139.1) (State.isArrayOf_alike hZ.alike Ar139.2.1) (g := (mkF m 2 #[.val (.ref b), .val (.int (2 : Int32))] [(.ref b), (.int (2 : Int32))])) rfl rfl (hb hby d9_2)
  rw [len_of Sa139 Na139] at al139
  refine own_of (U' := (s₁.setTop (mkF m 3 #[.val (.ref b), .val (.int (2 : Int32))] [(.int (2 : Int32)), (.int (2 : Int32))]))) (al139) ?_
  refine own_isub X0 hx hby d9_3 ?_
  refine own_eq (U' := (s₁.setTop (mkF m 4 #[.val (.ref b), .val (.int (2 : Int32))] [(.int (0 : Int32))]))) (by rw [show ((2 : Int32) - (2 : Int32)) = (0 : Int32) by decide]) ?_
  refine own_bipush X0 hx hby 31 d9_4 rfl ?_
  refine own_iushr X0 hx hby d9_6 ?_
  refine own_eq (U' := (s₁.setTop (mkF m 7 #[.val (.ref b), .val (.int (2 : Int32))] [(.int (0 : Int32))]))) (by rw [show (XT.ushr (0 : Int32) (31 : Int32)) = (0 : Int32) by decide]) ?_
  refine own_i2b X0 hx hby d9_7 ?_
  refine own_eq (U' := (s₁.setTop (mkF m 8 #[.val (.ref b), .val (.int (2 : Int32))] [(.int (0 : Int32))]))) (by rw [show ((0 : Int32).toInt8.toInt32) = (0 : Int32) by decide]) ?_
  exact own_retN X0 hx hlk (t := .byte) Bd.returns (by simp) (hb hby d9_8) (by decide) (by decide) (⟨rfl, N0, e0⟩)
theorem ef_cf2_4 (m : MethodId) (x0 : Addr) : entryFrame m #[(.ref x0), (.int (2 : Int32))] 2 = mkF m 0 #[.val (.ref x0), .val (.int (2 : Int32))] [] := by first | (simp [entryFrame, mkF, argsToLocals, Value.category]; done) | rfl
set_option maxRecDepth 65536 in
set_option maxHeartbeats 40000000 in
theorem rmcf2_4 (l : Launch) (Z : State) (a0 : Array Value) (hw : ∀ d ∈ tables_1, d.before a0 Z = true) (ws : List Jvm.Cond) (b : Addr) (kb : ClassId) (cs : List Int32) (h0 : Heap) (n0 : Nat) (Z0 : n0 ≤ h0.size) (Vb : Arv Z h0 b kb .byte (4 : Int32) (cs.map Value.int) (.int (0 : Int32))) :
    MetFree l mN_17 (head1 (Jvm.Cond.code mN_17 jdk_52_method_15_code 2 (some .byte) :: ws) ({ frames := 0, cells := 0, slots := 0, locals := 0 } : Room)) (fun a U => a = #[(.ref b), (.int (2 : Int32))] ∧ Z.Warmed39 U.vm ∧ U.heap = h0) (fun _ _ _ _ _ => True) (fun _ U o U' => ∃ v L, o = .returned v ∧ (Qv 1 h0 n0) v U'.heap L ∧ FrameEnd U o U' L ({ frames := 0, cells := 0, slots := 0, locals := 0 } : Room).cells ({ frames := 0, cells := 0, slots := 0, locals := 0 } : Room).slots) := by
  refine MetFree.of_bodySF (plainFor_of_name pn_2) hisR ?_
  intro p e s m args below meth c s₁ Bd hml0 hP hK
  obtain ⟨rfl, hZ, hh⟩ := hP
  have hx := Bd.exec
  have hby := Bd.bytes
  have hml : c.maxLocals = 2 := hml0
  have hown : s.vm.findClass "java/lang/StringUTF16" = some m.cls := findClass_of_methodNamed Bd.named
  have hnm := (name_of_methodNamed Bd.named Bd.method).1
  have hlk := Bd.notSynchronized
  have X0 : Stand p l e ({ frames := 0, cells := 0, slots := 0, locals := 0 } : Room) s m #[(.ref b), (.int (2 : Int32))] below meth c s₁ [] 0 0 := Stand.of_body Bd
  have e0 : s₁.heap = h0 := by rw [← hh, Bd.state]; rfl
  have N0 := Fr.nil n0
  show own_Ends p e below s FrameEnd (Qv 1 h0 n0) 0 0 (s₁.setTop (entryFrame m #[(.ref b), (.int (2 : Int32))] 2))
  refine own_of (U' := (s₁.setTop (mkF m 0 #[.val (.ref b), .val (.int (2 : Int32))] []))) (fun _ k => castTop (ef_cf2_4 m b) k) ?_
  refine own_iloadN X0 hx hby d9_0 rfl ?_
  refine own_aloadN X0 hx hby d9_1 rfl rfl ?_
  obtain ⟨cl140, Ar140, qa140, Sa140, Na140, -, -⟩ := id Vb
  have al140 := X0.arraylength hx (by rw [e0]; exact Ar140.1) (State.isArrayOf_alike hZ.alike Ar140.2.1) (g := (mkF m 2 #[.val (.ref b), .val (.int (2 : Int32))] [(.ref b), (.int (2 : Int32))])) rfl rfl (hb hby d9_2)
  rw [len_of Sa140 Na140] at al140
  refine own_of (U' := (s₁.setTop (mkF m 3 #[.val (.ref b), .val (.int (2 : Int32))] [(.int (4 : Int32)), (.int (2 : Int32))]))) (al140) ?_
  refine own_isub X0 hx hby d9_3 ?_
  refine own_eq (U' := (s₁.setTop (mkF m 4 #[.val (.ref b), .val (.int (2 : Int32))] [(.int (-2 : Int32))]))) (by rw [show ((2 : Int32) - (4 : Int32)) = (-2 : Int32) by decide]) ?_
  refine own_bipush X0 hx hby 31 d9_4 rfl ?_
  refine own_iushr X0 hx hby d9_6 ?_
  refine own_eq (U' := (s₁.setTop (mkF m 7 #[.val (.ref b), .val (.int (2 : Int32))] [(.int (1 : Int32))]))) (by rw [show (XT.ushr (-2 : Int32) (31 : Int32)) = (1 : Int32) by decide]) ?_
  refine own_i2b X0 hx hby d9_7 ?_
  refine own_eq (U' := (s₁.setTop (mkF m 8 #[.val (.ref b), .val (.int (2 : Int32))] [(.int (1 : Int32))]))) (by rw [show ((1 : Int32).toInt8.toInt32) = (1 : Int32) by decide]) ?_
  exact own_retN X0 hx hlk (t := .byte) Bd.returns (by simp) (hb hby d9_8) (by decide) (by decide) (⟨rfl, N0, e0⟩)
theorem ef_sv2 (m : MethodId) (x0 : Addr) (x1 : Addr) : entryFrame m #[(.ref x0), (.ref x1), (.int (0 : Int32)), (.int (2 : Int32)), .null] 6 = mkF m 0 #[.val (.ref x0), .val (.ref x1), .val (.int (0 : Int32)), .val (.int (2 : Int32)), .val .null, .unset] [] := by first | (simp [entryFrame, mkF, argsToLocals, Value.category]; done) | rfl
def Qsv2 (Z : State) (a1 : Addr) (c0 c1 : Int32) (h0 : Heap) (n0 : Nat) (v : Option Value) (h : Heap) (L : List Loc) : Prop := v = none ∧ Fr n0 L ∧ Keep h0 h [a1] ∧ own_Str Z h a1 (2 : Int32) (4 : Int32) [c0, c1]
set_option maxRecDepth 65536 in
set_option maxHeartbeats 40000000 in
theorem rmsv2 (l : Launch) (Z : State) (a0 : Array Value) (hw : ∀ d ∈ tables_1, d.before a0 Z = true) (ws : List Jvm.Cond) (a1 a2 : Addr) (kc : ClassId) (c0 c1 : Int32) (g1 : Int32) (h0 : Heap) (n0 : Nat) (Z0 : n0 ≤ h0.size) (E1 : Exa Z h0 a1 "java/lang/String") (Fc : Fld Z h0 a1 "java/lang/String" "coder" "B" (.int (0 : Int32))) (Fv : Fld Z h0 a1 "java/lang/String" "value" "[B" .null) (Vc : Arv Z h0 a2 kc .char (2 : Int32) [(.int c0), (.int c1)] (.int (0 : Int32))) (g_a1 : n0 ≤ a1) (hb0 : 0 ≤ c0.toInt ∧ c0.toInt < 65536) (hb1 : 0 ≤ c1.toInt ∧ c1.toInt < 65536) (SC : Sta Z h0 "java/lang/String" "COMPACT_STRINGS" "Z" (.int g1)) (hg1 : ¬ (g1 = (0 : Int32))) (SA : Sta Z h0 "java/lang/StringUTF16" "$assertionsDisabled" "Z" (.int (1 : Int32))) (SHI : Sta Z h0 "java/lang/StringUTF16" "HI_BYTE_SHIFT" "I" (.int (0 : Int32))) (SLO : Sta Z h0 "java/lang/StringUTF16" "LO_BYTE_SHIFT" "I" (.int (8 : Int32))) :
    MetFree l mN_18 (head1 (Jvm.Cond.code mN_18 jdk_42_method_149_code 6 none :: ws) ({ frames := 4, cells := 2, slots := 6, locals := 57 } : Room)) (fun a U => a = #[(.ref a1), (.ref a2), (.int (0 : Int32)), (.int (2 : Int32)), .null] ∧ Z.Warmed39 U.vm ∧ U.heap = h0) (fun _ _ _ _ _ => True) (fun _ U o U' => ∃ v L, o = .returned v ∧ (Qsv2 Z a1 c0 c1 h0 n0) v U'.heap L ∧ FrameEnd U o U' L ({ frames := 4, cells := 2, slots := 6, locals := 57 } : Room).cells ({ frames := 4, cells := 2, slots := 6, locals := 57 } : Room).slots) := by
  refine MetFree.of_bodySF (plainFor_of_name pn_1) hisR ?_
  intro p e s m args below meth c s₁ Bd hml0 hP hK
  obtain ⟨rfl, hZ, hh⟩ := hP
  have hx := Bd.exec
  have hby := Bd.bytes
  have hml : c.maxLocals = 6 := hml0
  have hown : s.vm.findClass "java/lang/String" = some m.cls := findClass_of_methodNamed Bd.named
  have hnm := (name_of_methodNamed Bd.named Bd.method).1
  have hlk := Bd.notSynchronized
  have X0 : Stand p l e ({ frames := 4, cells := 2, slots := 6, locals := 57 } : Room) s m #[(.ref a1), (.ref a2), (.int (0 : Int32)), (.int (2 : Int32)), .null] below meth c s₁ [] 0 0 := Stand.of_body Bd
  have e0 : s₁.heap = h0 := by rw [← hh, Bd.state]; rfl
  have N0 := Fr.nil n0
  have KK := Keep.refl h0 [a1]
  show own_Ends p e below s FrameEnd (Qsv2 Z a1 c0 c1 h0 n0) 2 6 (s₁.setTop (entryFrame m #[(.ref a1), (.ref a2), (.int (0 : Int32)), (.int (2 : Int32)), .null] 6))
  refine own_of (U' := (s₁.setTop (mkF m 0 #[.val (.ref a1), .val (.ref a2), .val (.int (0 : Int32)), .val (.int (2 : Int32)), .val .null, .unset] []))) (fun _ k => castTop (ef_sv2 m a1 a2) k) ?_
  refine own_aloadN X0 hx hby d2_0 rfl rfl ?_
  obtain ⟨T141, X141, e141, st141⟩ := initO X0 hx hZ hown (own_w hw 11 rfl) (own_w hw 12 rfl) (own_w hw 13 rfl) e0 (g := (mkF m 1 #[.val (.ref a1), .val (.ref a2), .val (.int (0 : Int32)), .val (.int (2 : Int32)), .val .null, .unset] [(.ref a1)])) rfl (by rw [hml]; rfl) rfl (hb hby d2_1) (by decide) (W := 0) (by show 2 * 0 + _ ≤ _; exact Nat.le_of_eq rfl) (by decide)
  refine own_of (U' := (T141.setTop (mkF m 4 #[.val (.ref a1), .val (.ref a2), .val (.int (0 : Int32)), .val (.int (2 : Int32)), .val .null, .unset] []))) (st141) ?_
  refine own_iloadN X141 hx hby d2_4 rfl ?_
  have hc5_142 : ¬ ((2 : Int32) = (0 : Int32)) := by decide
  refine own_ifYes X141 hx hby 5 27 d2_5 ((if0 _ _).trans (feq hc5_142).2) (by decide) (by decide) ?_
  obtain ⟨T143, X143, e143, st143⟩ := getS2 X141 hx hZ hown (host := "") (Or.inl (own_w hw 36 rfl)) Via.refl e141 SC (g := (mkF m 27 #[.val (.ref a1), .val (.ref a2), .val (.int (0 : Int32)), .val (.int (2 : Int32)), .val .null, .unset] [])) rfl (hb hby d2_27)
  refine own_of (U' := (T143.setTop (mkF m 30 #[.val (.ref a1), .val (.ref a2), .val (.int (0 : Int32)), .val (.int (2 : Int32)), .val .null, .unset] [(.int g1)]))) (st143) ?_
  have hc30_144 : ¬ (g1 = (0 : Int32)) := hg1
  refine own_ifNo X143 hx hby d2_30 ((if0 _ _).trans (feq hc30_144).1) ?_
  by_cases qB : ((255 : Int32) < c0) ∨ ((255 : Int32) < c1)
  · skip
    refine own_aloadN X143 hx hby d2_33 rfl rfl ?_
    refine own_iloadN X143 hx hby d2_34 rfl ?_
    refine own_iloadN X143 hx hby d2_35 rfl ?_
    obtain ⟨_, _, ⟨T145, L145, k145, n145⟩, -, X145, ⟨Lc145, hQ145, l145, y145, z145⟩, st145⟩ := Jvm.LawKit.callS X143 hx (y := mN_16) hown (mvT hZ (own_w hw 37 rfl)) (mvT hZ (own_w hw 38 rfl)) (mvT hZ (own_w hw 39 rfl)) (mvT hZ (own_w hw 40 rfl)) (by decide) (backOf (W := 0) (rmcb2 l Z a0 hw [] a2 kc c0 c1 h0 n0 Z0 Vc hb0 hb1 SA SHI SLO qB) hZ (own_w hw 40 rfl) (own_w hw 39 rfl) (by decide) (by decide)) (g := (mkF m 36 #[.val (.ref a1), .val (.ref a2), .val (.int (0 : Int32)), .val (.int (2 : Int32)), .val .null, .unset] [(.int (2 : Int32)), (.int (0 : Int32)), (.ref a2)])) rfl (by rw [hml]; rfl) (argsL := [(.ref a2), (.int (0 : Int32)), (.int (2 : Int32))]) (rest := []) (lenOf pd_11 rfl) rfl (by show 2 * 0 + _ ≤ _; exact Nat.le_of_eq rfl) (hb hby d2_36) (fun _ _ => ⟨rfl, e143, (by decide : 0 + 2 ≤ _), (by decide : 0 + 6 ≤ _)⟩)
    dsimp only [Pt.U, Pt.locs, Pt.cells, Pt.slots] at X145 l145 y145 z145 st145 hQ145
    subst l145 y145 z145
    obtain ⟨u145, ku145, rfl, Nq145, Kp145, gq145, Vq145⟩ := hQ145
    have g_u145 : n0 ≤ u145 := Nat.le_trans Z0 gq145
    have sz_u145 : h0.size ≤ u145 := Nat.le_trans KK.1 gq145
    have ne_a1_u145 : a1 ≠ u145 := Nat.ne_of_lt (Nat.lt_of_lt_of_le E1.lt gq145)
    have ne_a2_u145 : a2 ≠ u145 := Nat.ne_of_lt (Nat.lt_of_lt_of_le Vc.lt gq145)
    have N145 := Fr.app N0 Nq145
    replace Z0 := Nat.le_trans Z0 Kp145.1
    replace E1 := E1.keep Kp145
    replace Fc := Fc.keep Kp145 nin0
    replace Fv := Fv.keep Kp145 nin0
    replace Vc := Vc.keep Kp145 nin0
    replace SC := own_staKeep SC Kp145 ns0
    replace SA := own_staKeep SA Kp145 ns0
    replace SHI := own_staKeep SHI Kp145 ns0
    replace SLO := own_staKeep SLO Kp145 ns0
    replace KK := KK.trans Kp145 all0
    refine own_of (U' := (T145.setTop (mkF m 39 #[.val (.ref a1), .val (.ref a2), .val (.int (0 : Int32)), .val (.int (2 : Int32)), .val .null, .unset] [(.ref u145)]))) (st145) ?_
    refine own_astore X145 hx hby d2_39 rfl (l' := #[.val (.ref a1), .val (.ref a2), .val (.int (0 : Int32)), .val (.int (2 : Int32)), .val .null, .val (.ref u145)]) rfl ?_
    refine own_aloadN X145 hx hby d2_41 rfl rfl ?_
    refine own_aload X145 hx hby d2_42 rfl rfl ?_
    refine own_iloadN X145 hx hby d2_44 rfl ?_
    obtain ⟨_, _, ⟨T146, L146, k146, n146⟩, -, X146, ⟨Lc146, hQ146, l146, y146, z146⟩, st146⟩ := Jvm.LawKit.callS X145 hx (y := mN_17) hown (mvT hZ (own_w hw 44 rfl)) (mvT hZ (own_w hw 45 rfl)) (mvT hZ (own_w hw 39 rfl)) (mvT hZ (own_w hw 46 rfl)) (by decide) (backOf (W := 1) (rmcf2_4 l Z a0 hw [] u145 ku145 [(own_lo8 c0), (own_hi8 c0), (own_lo8 c1), (own_hi8 c1)] T145.heap n0 Z0 Vq145) hZ (own_w hw 46 rfl) (own_w hw 39 rfl) (by decide) (by decide)) (g := (mkF m 45 #[.val (.ref a1), .val (.ref a2), .val (.int (0 : Int32)), .val (.int (2 : Int32)), .val .null, .val (.ref u145)] [(.int (2 : Int32)), (.ref u145), (.ref a1)])) rfl (by rw [hml]; rfl) (argsL := [(.ref u145), (.int (2 : Int32))]) (rest := [(.ref a1)]) (lenOf pd_12 rfl) rfl (by show 2 * 0 + _ ≤ _; exact Nat.le_of_eq rfl) (hb hby d2_45) (fun _ _ => ⟨rfl, rfl, (by decide : 2 + 0 ≤ _), (by decide : 6 + 0 ≤ _)⟩)
    dsimp only [Pt.U, Pt.locs, Pt.cells, Pt.slots] at X146 l146 y146 z146 st146 hQ146
    subst l146 y146 z146
    obtain ⟨rfl, Nq146, e146⟩ := hQ146
    have N146 := Fr.app N145 Nq146
    refine own_of (U' := (T146.setTop (mkF m 48 #[.val (.ref a1), .val (.ref a2), .val (.int (0 : Int32)), .val (.int (2 : Int32)), .val .null, .val (.ref u145)] [(.int (1 : Int32)), (.ref a1)]))) (st146) ?_
    obtain ⟨T147, h147, X147, e147, W147, st147⟩ := putFN X146 hx hZ hown (own_w hw 21 rfl) Via.refl e146 Fc E1 (Or.inr ⟨(own_w hw 17 rfl), rfl, hnm⟩) (own_w hw 1 rfl) (ty := .byte) (v' := (.int (1 : Int32))) (by decide) rfl (by decide) (g := (mkF m 48 #[.val (.ref a1), .val (.ref a2), .val (.int (0 : Int32)), .val (.int (2 : Int32)), .val .null, .val (.ref u145)] [(.int (1 : Int32)), (.ref a1)])) rfl rfl (hb hby d2_48)
    replace Z0 := Nat.le_trans Z0 (Keep.of_wr W147).1
    replace E1 := E1.wr W147
    replace Fc := Fc.same W147
    replace Fv := Fv.other W147 (Or.inr (slot_ne (Or.inr (own_w hw 16 rfl)) (Or.inr (own_w hw 17 rfl)) (by decide) (t := (.array .byte)) (t' := .byte) (by decide) (by decide)))
    replace SC := SC.wr W147
    replace SA := SA.wr W147
    replace SHI := SHI.wr W147
    replace SLO := SLO.wr W147
    replace KK := KK.wr W147 (Or.inl (List.mem_of_getElem? (i := 0) rfl))
    replace Vq145 := Vq145.other W147 (Ne.symm ne_a1_u145)
    have N147 := Fr.snoc X147 N146 g_a1
    refine own_of (U' := (T147.setTop (mkF m 51 #[.val (.ref a1), .val (.ref a2), .val (.int (0 : Int32)), .val (.int (2 : Int32)), .val .null, .val (.ref u145)] []))) (st147) ?_
    refine own_aloadN X147 hx hby d2_51 rfl rfl ?_
    refine own_aload X147 hx hby d2_52 rfl rfl ?_
    obtain ⟨T148, h148, X148, e148, W148, st148⟩ := putF X147 hx hZ hown (host := "") (Or.inl (own_w hw 20 rfl)) Via.refl e147 Fv E1 (Or.inr ⟨(own_w hw 16 rfl), rfl, hnm⟩) (own_w hw 1 rfl) (ty := (.array .byte)) (by decide) rfl rfl (g := (mkF m 54 #[.val (.ref a1), .val (.ref a2), .val (.int (0 : Int32)), .val (.int (2 : Int32)), .val .null, .val (.ref u145)] [(.ref u145), (.ref a1)])) rfl rfl (hb hby d2_54)
    replace Z0 := Nat.le_trans Z0 (Keep.of_wr W148).1
    replace E1 := E1.wr W148
    replace Fc := Fc.other W148 (Or.inr (slot_ne (Or.inr (own_w hw 17 rfl)) (Or.inr (own_w hw 16 rfl)) (by decide) (t := .byte) (t' := (.array .byte)) (by decide) (by decide)))
    replace Fv := Fv.same W148
    replace SC := SC.wr W148
    replace SA := SA.wr W148
    replace SHI := SHI.wr W148
    replace SLO := SLO.wr W148
    replace KK := KK.wr W148 (Or.inl (List.mem_of_getElem? (i := 0) rfl))
    replace Vq145 := Vq145.other W148 (Ne.symm ne_a1_u145)
    have N148 := Fr.snoc X148 N147 g_a1
    refine own_of (U' := (T148.setTop (mkF m 57 #[.val (.ref a1), .val (.ref a2), .val (.int (0 : Int32)), .val (.int (2 : Int32)), .val .null, .val (.ref u145)] []))) (st148) ?_
    exact own_ret0 X148 hx hlk Bd.returns (hb hby d2_57) (by decide) (by decide) (by rw [e148]; exact ⟨rfl, N148, KK, ⟨E1, u145, ku145, Fv, Or.inr ⟨Fc, Vq145⟩⟩⟩)
  · skip
    have qB0 : ¬ ((255 : Int32) < c0) := fun z => qB (Or.inl z)
    have qB1 : ¬ ((255 : Int32) < c1) := fun z => qB (Or.inr z)
    refine own_aloadN X143 hx hby d2_33 rfl rfl ?_
    refine own_iloadN X143 hx hby d2_34 rfl ?_
    refine own_iloadN X143 hx hby d2_35 rfl ?_
    obtain ⟨_, _, ⟨T149, L149, k149, n149⟩, -, X149, ⟨Lc149, hQ149, l149, y149, z149⟩, st149⟩ := Jvm.LawKit.callS X143 hx (y := mN_16) hown (mvT hZ (own_w hw 37 rfl)) (mvT hZ (own_w hw 38 rfl)) (mvT hZ (own_w hw 39 rfl)) (mvT hZ (own_w hw 40 rfl)) (by decide) (backOf (W := 0) (rmcl2 l Z a0 hw [] a2 kc c0 c1 h0 n0 Z0 Vc hb0 hb1 SA SHI SLO qB0 qB1) hZ (own_w hw 40 rfl) (own_w hw 39 rfl) (by decide) (by decide)) (g := (mkF m 36 #[.val (.ref a1), .val (.ref a2), .val (.int (0 : Int32)), .val (.int (2 : Int32)), .val .null, .unset] [(.int (2 : Int32)), (.int (0 : Int32)), (.ref a2)])) rfl (by rw [hml]; rfl) (argsL := [(.ref a2), (.int (0 : Int32)), (.int (2 : Int32))]) (rest := []) (lenOf pd_11 rfl) rfl (by show 2 * 0 + _ ≤ _; exact Nat.le_of_eq rfl) (hb hby d2_36) (fun _ _ => ⟨rfl, e143, (by decide : 0 + 1 ≤ _), (by decide : 0 + 2 ≤ _)⟩)
    dsimp only [Pt.U, Pt.locs, Pt.cells, Pt.slots] at X149 l149 y149 z149 st149 hQ149
    subst l149 y149 z149
    obtain ⟨u149, ku149, rfl, Nq149, Kp149, gq149, Vq149⟩ := hQ149
    have g_u149 : n0 ≤ u149 := Nat.le_trans Z0 gq149
    have sz_u149 : h0.size ≤ u149 := Nat.le_trans KK.1 gq149
    have ne_a1_u149 : a1 ≠ u149 := Nat.ne_of_lt (Nat.lt_of_lt_of_le E1.lt gq149)
    have ne_a2_u149 : a2 ≠ u149 := Nat.ne_of_lt (Nat.lt_of_lt_of_le Vc.lt gq149)
    have N149 := Fr.app N0 Nq149
    replace Z0 := Nat.le_trans Z0 Kp149.1
    replace E1 := E1.keep Kp149
    replace Fc := Fc.keep Kp149 nin0
    replace Fv := Fv.keep Kp149 nin0
    replace Vc := Vc.keep Kp149 nin0
    replace SC := own_staKeep SC Kp149 ns0
    replace SA := own_staKeep SA Kp149 ns0
    replace SHI := own_staKeep SHI Kp149 ns0
    replace SLO := own_staKeep SLO Kp149 ns0
    replace KK := KK.trans Kp149 all0
    refine own_of (U' := (T149.setTop (mkF m 39 #[.val (.ref a1), .val (.ref a2), .val (.int (0 : Int32)), .val (.int (2 : Int32)), .val .null, .unset] [(.ref u149)]))) (st149) ?_
    refine own_astore X149 hx hby d2_39 rfl (l' := #[.val (.ref a1), .val (.ref a2), .val (.int (0 : Int32)), .val (.int (2 : Int32)), .val .null, .val (.ref u149)]) rfl ?_
    refine own_aloadN X149 hx hby d2_41 rfl rfl ?_
    refine own_aload X149 hx hby d2_42 rfl rfl ?_
    refine own_iloadN X149 hx hby d2_44 rfl ?_
    obtain ⟨_, _, ⟨T150, L150, k150, n150⟩, -, X150, ⟨Lc150, hQ150, l150, y150, z150⟩, st150⟩ := Jvm.LawKit.callS X149 hx (y := mN_17) hown (mvT hZ (own_w hw 44 rfl)) (mvT hZ (own_w hw 45 rfl)) (mvT hZ (own_w hw 39 rfl)) (mvT hZ (own_w hw 46 rfl)) (by decide) (backOf (W := 1) (rmcf2_2 l Z a0 hw [] u149 ku149 [(own_b8 c0), (own_b8 c1)] T149.heap n0 Z0 Vq149) hZ (own_w hw 46 rfl) (own_w hw 39 rfl) (by decide) (by decide)) (g := (mkF m 45 #[.val (.ref a1), .val (.ref a2), .val (.int (0 : Int32)), .val (.int (2 : Int32)), .val .null, .val (.ref u149)] [(.int (2 : Int32)), (.ref u149), (.ref a1)])) rfl (by rw [hml]; rfl) (argsL := [(.ref u149), (.int (2 : Int32))]) (rest := [(.ref a1)]) (lenOf pd_12 rfl) rfl (by show 2 * 0 + _ ≤ _; exact Nat.le_of_eq rfl) (hb hby d2_45) (fun _ _ => ⟨rfl, rfl, (by decide : 1 + 0 ≤ _), (by decide : 2 + 0 ≤ _)⟩)
    dsimp only [Pt.U, Pt.locs, Pt.cells, Pt.slots] at X150 l150 y150 z150 st150 hQ150
    subst l150 y150 z150
    obtain ⟨rfl, Nq150, e150⟩ := hQ150
    have N150 := Fr.app N149 Nq150
    refine own_of (U' := (T150.setTop (mkF m 48 #[.val (.ref a1), .val (.ref a2), .val (.int (0 : Int32)), .val (.int (2 : Int32)), .val .null, .val (.ref u149)] [(.int (0 : Int32)), (.ref a1)]))) (st150) ?_
    obtain ⟨T151, h151, X151, e151, W151, st151⟩ := putFN X150 hx hZ hown (own_w hw 21 rfl) Via.refl e150 Fc E1 (Or.inr ⟨(own_w hw 17 rfl), rfl, hnm⟩) (own_w hw 1 rfl) (ty := .byte) (v' := (.int (0 : Int32))) (by decide) rfl (by decide) (g := (mkF m 48 #[.val (.ref a1), .val (.ref a2), .val (.int (0 : Int32)), .val (.int (2 : Int32)), .val .null, .val (.ref u149)] [(.int (0 : Int32)), (.ref a1)])) rfl rfl (hb hby d2_48)
    replace Z0 := Nat.le_trans Z0 (Keep.of_wr W151).1
    replace E1 := E1.wr W151
    replace Fc := Fc.same W151
    replace Fv := Fv.other W151 (Or.inr (slot_ne (Or.inr (own_w hw 16 rfl)) (Or.inr (own_w hw 17 rfl)) (by decide) (t := (.array .byte)) (t' := .byte) (by decide) (by decide)))
    replace SC := SC.wr W151
    replace SA := SA.wr W151
    replace SHI := SHI.wr W151
    replace SLO := SLO.wr W151
    replace KK := KK.wr W151 (Or.inl (List.mem_of_getElem? (i := 0) rfl))
    replace Vq149 := Vq149.other W151 (Ne.symm ne_a1_u149)
    have N151 := Fr.snoc X151 N150 g_a1
    refine own_of (U' := (T151.setTop (mkF m 51 #[.val (.ref a1), .val (.ref a2), .val (.int (0 : Int32)), .val (.int (2 : Int32)), .val .null, .val (.ref u149)] []))) (st151) ?_
    refine own_aloadN X151 hx hby d2_51 rfl rfl ?_
    refine own_aload X151 hx hby d2_52 rfl rfl ?_
    obtain ⟨T152, h152, X152, e152, W152, st152⟩ := putF X151 hx hZ hown (host := "") (Or.inl (own_w hw 20 rfl)) Via.refl e151 Fv E1 (Or.inr ⟨(own_w hw 16 rfl), rfl, hnm⟩) (own_w hw 1 rfl) (ty := (.array .byte)) (by decide) rfl rfl (g := (mkF m 54 #[.val (.ref a1), .val (.ref a2), .val (.int (0 : Int32)), .val (.int (2 : Int32)), .val .null, .val (.ref u149)] [(.ref u149), (.ref a1)])) rfl rfl (hb hby d2_54)
    replace Z0 := Nat.le_trans Z0 (Keep.of_wr W152).1
    replace E1 := E1.wr W152
    replace Fc := Fc.other W152 (Or.inr (slot_ne (Or.inr (own_w hw 17 rfl)) (Or.inr (own_w hw 16 rfl)) (by decide) (t := .byte) (t' := (.array .byte)) (by decide) (by decide)))
    replace Fv := Fv.same W152
    replace SC := SC.wr W152
    replace SA := SA.wr W152
    replace SHI := SHI.wr W152
    replace SLO := SLO.wr W152
    replace KK := KK.wr W152 (Or.inl (List.mem_of_getElem? (i := 0) rfl))
    replace Vq149 := Vq149.other W152 (Ne.symm ne_a1_u149)
    have N152 := Fr.snoc X152 N151 g_a1
    refine own_of (U' := (T152.setTop (mkF m 57 #[.val (.ref a1), .val (.ref a2), .val (.int (0 : Int32)), .val (.int (2 : Int32)), .val .null, .val (.ref u149)] []))) (st152) ?_
    exact own_ret0 X152 hx hlk Bd.returns (hb hby d2_57) (by decide) (by decide) (by rw [e152]; exact ⟨rfl, N152, KK, ⟨E1, u149, ku149, Fv, Or.inl ⟨Fc, Vq149, (List.forall_mem_cons.mpr ⟨qB0, (List.forall_mem_cons.mpr ⟨qB1, (fun _ h => nomatch h)⟩)⟩)⟩⟩⟩)
theorem ef_si2 (m : MethodId) (x0 : Addr) (x1 : Addr) : entryFrame m #[(.ref x0), (.ref x1)] 2 = mkF m 0 #[.val (.ref x0), .val (.ref x1)] [] := by first | (simp [entryFrame, mkF, argsToLocals, Value.category]; done) | rfl
set_option maxRecDepth 65536 in
set_option maxHeartbeats 40000000 in
theorem rmsi2 (l : Launch) (Z : State) (a0 : Array Value) (hw : ∀ d ∈ tables_1, d.before a0 Z = true) (ws : List Jvm.Cond) (a1 a2 : Addr) (kc : ClassId) (c0 c1 : Int32) (g1 : Int32) (h0 : Heap) (n0 : Nat) (Z0 : n0 ≤ h0.size) (E1 : Exa Z h0 a1 "java/lang/String") (Fc : Fld Z h0 a1 "java/lang/String" "coder" "B" (.int (0 : Int32))) (Fv : Fld Z h0 a1 "java/lang/String" "value" "[B" .null) (Vc : Arv Z h0 a2 kc .char (2 : Int32) [(.int c0), (.int c1)] (.int (0 : Int32))) (g_a1 : n0 ≤ a1) (hb0 : 0 ≤ c0.toInt ∧ c0.toInt < 65536) (hb1 : 0 ≤ c1.toInt ∧ c1.toInt < 65536) (SC : Sta Z h0 "java/lang/String" "COMPACT_STRINGS" "Z" (.int g1)) (hg1 : ¬ (g1 = (0 : Int32))) (SA : Sta Z h0 "java/lang/StringUTF16" "$assertionsDisabled" "Z" (.int (1 : Int32))) (SHI : Sta Z h0 "java/lang/StringUTF16" "HI_BYTE_SHIFT" "I" (.int (0 : Int32))) (SLO : Sta Z h0 "java/lang/StringUTF16" "LO_BYTE_SHIFT" "I" (.int (8 : Int32))) :
    MetFree l mN_19 (head1 (Jvm.Cond.code mN_19 jdk_42_method_3_code 2 none :: ws) ({ frames := 5, cells := 2, slots := 6, locals := 74 } : Room)) (fun a U => a = #[(.ref a1), (.ref a2)] ∧ Z.Warmed39 U.vm ∧ U.heap = h0) (fun _ _ _ _ _ => True) (fun _ U o U' => ∃ v L, o = .returned v ∧ (Qsv2 Z a1 c0 c1 h0 n0) v U'.heap L ∧ FrameEnd U o U' L ({ frames := 5, cells := 2, slots := 6, locals := 74 } : Room).cells ({ frames := 5, cells := 2, slots := 6, locals := 74 } : Room).slots) := by
  refine MetFree.of_bodySF (plainFor_of_name pn_1) hisR ?_
  intro p e s m args below meth c s₁ Bd hml0 hP hK
  obtain ⟨rfl, hZ, hh⟩ := hP
  have hx := Bd.exec
  have hby := Bd.bytes
  have hml : c.maxLocals = 2 := hml0
  have hown : s.vm.findClass "java/lang/String" = some m.cls := findClass_of_methodNamed Bd.named
  have hnm := (name_of_methodNamed Bd.named Bd.method).1
  have hlk := Bd.notSynchronized
  have X0 : Stand p l e ({ frames := 5, cells := 2, slots := 6, locals := 74 } : Room) s m #[(.ref a1), (.ref a2)] below meth c s₁ [] 0 0 := Stand.of_body Bd
  have e0 : s₁.heap = h0 := by rw [← hh, Bd.state]; rfl
  have N0 := Fr.nil n0
  have KK := Keep.refl h0 [a1]
  show own_Ends p e below s FrameEnd (Qsv2 Z a1 c0 c1 h0 n0) 2 6 (s₁.setTop (entryFrame m #[(.ref a1), (.ref a2)] 2))
  refine own_of (U' := (s₁.setTop (mkF m 0 #[.val (.ref a1), .val (.ref a2)] []))) (fun _ k => castTop (ef_si2 m a1 a2) k) ?_
  refine own_aloadN X0 hx hby d1_0 rfl rfl ?_
  refine own_aloadN X0 hx hby d1_1 rfl rfl ?_
  refine own_iconst X0 hx hby 0 d1_2 rfl ?_
  refine own_aloadN X0 hx hby d1_3 rfl rfl ?_
  obtain ⟨cl153, Ar153, qa153, Sa153, Na153, -, -⟩ := id Vc
  have al153 := X0.arraylength hx (by rw [e0]; exact Ar153.1) (State.isArrayOf_alike hZ.alike Ar153.2.1) (g := (mkF m 4 #[.val (.ref a1), .val (.ref a2)] [(.ref a2), (.int (0 : Int32)), (.ref a2), (.ref a1)])) rfl rfl (hb hby d1_4)
  rw [len_of Sa153 Na153] at al153
  refine own_of (U' := (s₁.setTop (mkF m 5 #[.val (.ref a1), .val (.ref a2)] [(.int (2 : Int32)), (.int (0 : Int32)), (.ref a2), (.ref a1)]))) (al153) ?_
  refine own_aconstNull X0 hx hby d1_5 ?_
  obtain ⟨_, _, ⟨T154, L154, k154, n154⟩, -, X154, ⟨Lc154, hQ154, l154, y154, z154⟩, st154⟩ := X0.specialBack hx (y := mN_18) rfl hown (mvT hZ (own_w hw 7 rfl)) (mvT hZ (own_w hw 8 rfl)) (mvT hZ (own_w hw 10 rfl)) (by decide) (backOf (W := 0) (rmsv2 l Z a0 hw [] a1 a2 kc c0 c1 g1 h0 n0 Z0 E1 Fc Fv Vc g_a1 hb0 hb1 SC hg1 SA SHI SLO) hZ (own_w hw 10 rfl) (own_w hw 2 rfl) (by decide) (by decide)) (g := (mkF m 6 #[.val (.ref a1), .val (.ref a2)] [.null, (.int (2 : Int32)), (.int (0 : Int32)), (.ref a2), (.ref a1)])) rfl (by rw [hml]; rfl) (Steps.refl _) (a := a1) (argsL := [(.ref a2), (.int (0 : Int32)), (.int (2 : Int32)), .null]) (rest := []) (lenOf pd_13 rfl) rfl (by show 2 * 0 + _ ≤ _; exact Nat.le_of_eq rfl) (hb hby d1_6) (fun _ _ => ⟨rfl, e0, (by decide : 0 + 2 ≤ _), (by decide : 0 + 6 ≤ _)⟩)
  dsimp only [Pt.U, Pt.locs, Pt.cells, Pt.slots] at X154 l154 y154 z154 st154 hQ154
  subst l154 y154 z154
  obtain ⟨rfl, Nq154, Kp154, Tq154⟩ := hQ154
  have N154 := Fr.app N0 Nq154
  have nst_a1 := E1.nostat
  replace Z0 := Nat.le_trans Z0 Kp154.1
  replace E1 := E1.keep Kp154
  replace SC := own_staKeep SC Kp154 (nsS nst_a1 ns0)
  replace SA := own_staKeep SA Kp154 (nsS nst_a1 ns0)
  replace SHI := own_staKeep SHI Kp154 (nsS nst_a1 ns0)
  replace SLO := own_staKeep SLO Kp154 (nsS nst_a1 ns0)
  replace KK := KK.trans Kp154 (allS (Or.inl (List.mem_of_getElem? (i := 0) rfl)) all0)
  refine own_of (U' := (T154.setTop (mkF m 9 #[.val (.ref a1), .val (.ref a2)] []))) (fun _ k => st154.trans k) ?_
  exact own_ret0 X154 hx hlk Bd.returns (hb hby d1_9) (by decide) (by decide) (⟨rfl, N154, KK, Tq154⟩)
theorem ef_nl3 (m : MethodId)  : entryFrame m #[(.int (3 : Int32))] 1 = mkF m 0 #[.val (.int (3 : Int32))] [] := by first | (simp [entryFrame, mkF, argsToLocals, Value.category]; done) | rfl
set_option maxRecDepth 65536 in
set_option maxHeartbeats 40000000 in
theorem rmnl3 (l : Launch) (Z : State) (a0 : Array Value) (hw : ∀ d ∈ tables_1, d.before a0 Z = true) (ws : List Jvm.Cond)  (h0 : Heap) (n0 : Nat) (Z0 : n0 ≤ h0.size)  :
    MetFree l mN_12 (head1 (Jvm.Cond.code mN_12 jdk_52_method_3_code 1 (some .int) :: ws) ({ frames := 0, cells := 0, slots := 0, locals := 0 } : Room)) (fun a U => a = #[(.int (3 : Int32))] ∧ Z.Warmed39 U.vm ∧ U.heap = h0) (fun _ _ _ _ _ => True) (fun _ U o U' => ∃ v L, o = .returned v ∧ (Qv 6 h0 n0) v U'.heap L ∧ FrameEnd U o U' L ({ frames := 0, cells := 0, slots := 0, locals := 0 } : Room).cells ({ frames := 0, cells := 0, slots := 0, locals := 0 } : Room).slots) := by
  refine MetFree.of_bodySF (plainFor_of_name pn_2) hisR ?_
  intro p e s m args below meth c s₁ Bd hml0 hP hK
  obtain ⟨rfl, hZ, hh⟩ := hP
  have hx := Bd.exec
  have hby := Bd.bytes
  have hml : c.maxLocals = 1 := hml0
  have hown : s.vm.findClass "java/lang/StringUTF16" = some m.cls := findClass_of_methodNamed Bd.named
  have hnm := (name_of_methodNamed Bd.named Bd.method).1
  have hlk := Bd.notSynchronized
  have X0 : Stand p l e ({ frames := 0, cells := 0, slots := 0, locals := 0 } : Room) s m #[(.int (3 : Int32))] below meth c s₁ [] 0 0 := Stand.of_body Bd
  have e0 : s₁.heap = h0 := by rw [← hh, Bd.state]; rfl
  have N0 := Fr.nil n0
  show own_Ends p e below s FrameEnd (Qv 6 h0 n0) 0 0 (s₁.setTop (entryFrame m #[(.int (3 : Int32))] 1))
  refine own_of (U' := (s₁.setTop (mkF m 0 #[.val (.int (3 : Int32))] []))) (fun _ k => castTop (ef_nl3 m) k) ?_
  refine own_iloadN X0 hx hby d18_0 rfl ?_
  have hc1_155 : ¬ ((3 : Int32) < (0 : Int32)) := by decide
  refine own_ifYes X0 hx hby 1 12 d18_1 ((if0 _ _).trans (flt hc1_155).2.1) (by decide) (by decide) ?_
  refine own_iloadN X0 hx hby d18_12 rfl ?_
  refine own_of (U' := (s₁.setTop (mkF m 15 #[.val (.int (3 : Int32))] [(.int (1073741823 : Int32)), (.int (3 : Int32))]))) (X0.ldcInt hx hown (mvT hZ (own_w hw 82 rfl)) (g := (mkF m 13 #[.val (.int (3 : Int32))] [(.int (3 : Int32))])) rfl (hb hby d18_13)) ?_
  have hc15_156 : (3 : Int32) < (1073741823 : Int32) := by decide
  refine own_icmpYes X0 hx hby 15 55 d18_15 (tlt hc15_156).1 (by decide) (by decide) ?_
  refine own_iloadN X0 hx hby d18_55 rfl ?_
  refine own_iconst X0 hx hby 1 d18_56 rfl ?_
  refine own_ishl X0 hx hby d18_57 ?_
  refine own_eq (U' := (s₁.setTop (mkF m 58 #[.val (.int (3 : Int32))] [(.int (6 : Int32))]))) (by rw [show ((3 : Int32) <<< ((1 : Int32) &&& 31)) = (6 : Int32) by decide]) ?_
  exact own_retI X0 hx hlk Bd.returns (hb hby d18_58) (by decide) (by decide) (⟨rfl, N0, e0⟩)
theorem ef_nb3 (m : MethodId)  : entryFrame m #[(.int (3 : Int32))] 1 = mkF m 0 #[.val (.int (3 : Int32))] [] := by first | (simp [entryFrame, mkF, argsToLocals, Value.category]; done) | rfl
def Qnb3 (Z : State) (h0 : Heap) (n0 : Nat) (v : Option Value) (h : Heap) (L : List Loc) : Prop := ∃ (b : Addr) (kb : ClassId), v = some (.ref b) ∧ Fr n0 L ∧ Keep h0 h [] ∧ h0.size ≤ b ∧ Arv Z h b kb .byte (6 : Int32) [(.int (0 : Int32)), (.int (0 : Int32)), (.int (0 : Int32)), (.int (0 : Int32)), (.int (0 : Int32)), (.int (0 : Int32))] (.int (0 : Int32))
set_option maxRecDepth 65536 in
set_option maxHeartbeats 40000000 in
theorem rmnb3 (l : Launch) (Z : State) (a0 : Array Value) (hw : ∀ d ∈ tables_1, d.before a0 Z = true) (ws : List Jvm.Cond)  (h0 : Heap) (n0 : Nat) (Z0 : n0 ≤ h0.size)  :
    MetFree l mN_13 (head1 (Jvm.Cond.code mN_13 jdk_52_method_2_code 1 (some (.array .byte)) :: ws) ({ frames := 1, cells := 1, slots := 6, locals := 12 } : Room)) (fun a U => a = #[(.int (3 : Int32))] ∧ Z.Warmed39 U.vm ∧ U.heap = h0) (fun _ _ _ _ _ => True) (fun _ U o U' => ∃ v L, o = .returned v ∧ (Qnb3 Z h0 n0) v U'.heap L ∧ FrameEnd U o U' L ({ frames := 1, cells := 1, slots := 6, locals := 12 } : Room).cells ({ frames := 1, cells := 1, slots := 6, locals := 12 } : Room).slots) := by
  refine MetFree.of_bodySF (plainFor_of_name pn_2) hisR ?_
  intro p e s m args below meth c s₁ Bd hml0 hP hK
  obtain ⟨rfl, hZ, hh⟩ := hP
  have hx := Bd.exec
  have hby := Bd.bytes
  have hml : c.maxLocals = 1 := hml0
  have hown : s.vm.findClass "java/lang/StringUTF16" = some m.cls := findClass_of_methodNamed Bd.named
  have hnm := (name_of_methodNamed Bd.named Bd.method).1
  have hlk := Bd.notSynchronized
  have X0 : Stand p l e ({ frames := 1, cells := 1, slots := 6, locals := 12 } : Room) s m #[(.int (3 : Int32))] below meth c s₁ [] 0 0 := Stand.of_body Bd
  have e0 : s₁.heap = h0 := by rw [← hh, Bd.state]; rfl
  have N0 := Fr.nil n0
  have KK := Keep.refl h0 []
  show own_Ends p e below s FrameEnd (Qnb3 Z h0 n0) 1 6 (s₁.setTop (entryFrame m #[(.int (3 : Int32))] 1))
  refine own_of (U' := (s₁.setTop (mkF m 0 #[.val (.int (3 : Int32))] []))) (fun _ k => castTop (ef_nb3 m) k) ?_
  refine own_iloadN X0 hx hby d17_0 rfl ?_
  obtain ⟨_, _, ⟨T157, L157, k157, n157⟩, -, X157, ⟨Lc157, hQ157, l157, y157, z157⟩, st157⟩ := Jvm.LawKit.callS X0 hx (y := mN_12) hown (mvT hZ (own_w hw 79 rfl)) (mvT hZ (own_w hw 80 rfl)) (mvT hZ (own_w hw 39 rfl)) (mvT hZ (own_w hw 81 rfl)) (by decide) (backOf (W := 0) (rmnl3 l Z a0 hw []  h0 n0 Z0 ) hZ (own_w hw 81 rfl) (own_w hw 39 rfl) (by decide) (by decide)) (g := (mkF m 1 #[.val (.int (3 : Int32))] [(.int (3 : Int32))])) rfl (by rw [hml]; rfl) (argsL := [(.int (3 : Int32))]) (rest := []) (lenOf pd_7 rfl) rfl (by show 2 * 0 + _ ≤ _; exact Nat.le_of_eq rfl) (hb hby d17_1) (fun _ _ => ⟨rfl, e0, (by decide : 0 + 0 ≤ _), (by decide : 0 + 0 ≤ _)⟩)
  dsimp only [Pt.U, Pt.locs, Pt.cells, Pt.slots] at X157 l157 y157 z157 st157 hQ157
  subst l157 y157 z157
  obtain ⟨rfl, Nq157, e157⟩ := hQ157
  have N157 := Fr.app N0 Nq157
  refine own_of (U' := (T157.setTop (mkF m 4 #[.val (.int (3 : Int32))] [(.int (6 : Int32))]))) (st157) ?_
  obtain ⟨T158, h158, k158, X158, e158, E158, A158, st158⟩ := newP X157 hx hZ (own_w hw 15 rfl) e157 (g := (mkF m 4 #[.val (.int (3 : Int32))] [(.int (6 : Int32))])) rfl (hb hby d17_4) rfl (by decide) (cap := 6) (by decide) (by decide) (by decide) (by decide)
  obtain ⟨b158, gz158⟩ : ∃ z, z = h0.size := ⟨_, rfl⟩
  rw [← gz158] at A158 st158
  have g_b158 : n0 ≤ b158 := Nat.le_trans Z0 (Nat.le_of_eq gz158.symm)
  have sz_b158 : h0.size ≤ b158 := Nat.le_trans KK.1 (Nat.le_of_eq gz158.symm)
  replace Z0 := Nat.le_trans Z0 E158.1
  replace KK := KK.ext E158
  have V158 : Arv Z h158 b158 k158 .byte (6 : Int32) [(.int (0 : Int32)), (.int (0 : Int32)), (.int (0 : Int32)), (.int (0 : Int32)), (.int (0 : Int32)), (.int (0 : Int32))] (.int (0 : Int32)) := (Arv.new A158 (by decide)).pad (pad_rep [] (.int (0 : Int32)) 6)
  refine own_of (U' := (T158.setTop (mkF m 6 #[.val (.int (3 : Int32))] [(.ref b158)]))) (st158) ?_
  exact own_retA X158 hx hlk Bd.returns rfl rfl (hb hby d17_6) (by decide) (by decide) (by rw [e158]; exact ⟨b158, k158, rfl, N157, KK, sz_b158, V158⟩)
theorem ef_tb3 (m : MethodId) (x0 : Addr) : entryFrame m #[(.ref x0), (.int (0 : Int32)), (.int (3 : Int32))] 5 = mkF m 0 #[.val (.ref x0), .val (.int (0 : Int32)), .val (.int (3 : Int32)), .unset, .unset] [] := by first | (simp [entryFrame, mkF, argsToLocals, Value.category]; done) | rfl
def Qtb3 (Z : State) (c0 c1 c2 : Int32) (h0 : Heap) (n0 : Nat) (v : Option Value) (h : Heap) (L : List Loc) : Prop := ∃ (b : Addr) (kb : ClassId), v = some (.ref b) ∧ Fr n0 L ∧ Keep h0 h [] ∧ h0.size ≤ b ∧ Arv Z h b kb .byte (6 : Int32) [(.int (own_lo8 c0)), (.int (own_hi8 c0)), (.int (own_lo8 c1)), (.int (own_hi8 c1)), (.int (own_lo8 c2)), (.int (own_hi8 c2))] (.int (0 : Int32))
set_option maxRecDepth 65536 in
set_option maxHeartbeats 40000000 in
theorem rmtb3 (l : Launch) (Z : State) (a0 : Array Value) (hw : ∀ d ∈ tables_1, d.before a0 Z = true) (ws : List Jvm.Cond) (a1 : Addr) (kc : ClassId) (c0 c1 c2 : Int32) (h0 : Heap) (n0 : Nat) (Z0 : n0 ≤ h0.size) (Vc : Arv Z h0 a1 kc .char (3 : Int32) [(.int c0), (.int c1), (.int c2)] (.int (0 : Int32))) (SA : Sta Z h0 "java/lang/StringUTF16" "$assertionsDisabled" "Z" (.int (1 : Int32))) (SHI : Sta Z h0 "java/lang/StringUTF16" "HI_BYTE_SHIFT" "I" (.int (0 : Int32))) (SLO : Sta Z h0 "java/lang/StringUTF16" "LO_BYTE_SHIFT" "I" (.int (8 : Int32))) :
    MetFree l mN_14 (head1 (Jvm.Cond.code mN_14 jdk_52_method_14_code 5 (some (.array .byte)) :: ws) ({ frames := 2, cells := 1, slots := 6, locals := 24 } : Room)) (fun a U => a = #[(.ref a1), (.int (0 : Int32)), (.int (3 : Int32))] ∧ Z.Warmed39 U.vm ∧ U.heap = h0) (fun _ _ _ _ _ => True) (fun _ U o U' => ∃ v L, o = .returned v ∧ (Qtb3 Z c0 c1 c2 h0 n0) v U'.heap L ∧ FrameEnd U o U' L ({ frames := 2, cells := 1, slots := 6, locals := 24 } : Room).cells ({ frames := 2, cells := 1, slots := 6, locals := 24 } : Room).slots) := by
  refine MetFree.of_bodySF (plainFor_of_name pn_2) hisR ?_
  intro p e s m args below meth c s₁ Bd hml0 hP hK
  obtain ⟨rfl, hZ, hh⟩ := hP
  have hx := Bd.exec
  have hby := Bd.bytes
  have hml : c.maxLocals = 5 := hml0
  have hown : s.vm.findClass "java/lang/StringUTF16" = some m.cls := findClass_of_methodNamed Bd.named
  have hnm := (name_of_methodNamed Bd.named Bd.method).1
  have hlk := Bd.notSynchronized
  have X0 : Stand p l e ({ frames := 2, cells := 1, slots := 6, locals := 24 } : Room) s m #[(.ref a1), (.int (0 : Int32)), (.int (3 : Int32))] below meth c s₁ [] 0 0 := Stand.of_body Bd
  have e0 : s₁.heap = h0 := by rw [← hh, Bd.state]; rfl
  have N0 := Fr.nil n0
  have KK := Keep.refl h0 []
  show own_Ends p e below s FrameEnd (Qtb3 Z c0 c1 c2 h0 n0) 1 6 (s₁.setTop (entryFrame m #[(.ref a1), (.int (0 : Int32)), (.int (3 : Int32))] 5))
  refine own_of (U' := (s₁.setTop (mkF m 0 #[.val (.ref a1), .val (.int (0 : Int32)), .val (.int (3 : Int32)), .unset, .unset] []))) (fun _ k => castTop (ef_tb3 m a1) k) ?_
  refine own_iloadN X0 hx hby d16_0 rfl ?_
  obtain ⟨_, _, ⟨T159, L159, k159, n159⟩, -, X159, ⟨Lc159, hQ159, l159, y159, z159⟩, st159⟩ := Jvm.LawKit.callS X0 hx (y := mN_13) hown (mvT hZ (own_w hw 76 rfl)) (mvT hZ (own_w hw 77 rfl)) (mvT hZ (own_w hw 39 rfl)) (mvT hZ (own_w hw 78 rfl)) (by decide) (backOf (W := 0) (rmnb3 l Z a0 hw []  h0 n0 Z0 ) hZ (own_w hw 78 rfl) (own_w hw 39 rfl) (by decide) (by decide)) (g := (mkF m 1 #[.val (.ref a1), .val (.int (0 : Int32)), .val (.int (3 : Int32)), .unset, .unset] [(.int (3 : Int32))])) rfl (by rw [hml]; rfl) (argsL := [(.int (3 : Int32))]) (rest := []) (lenOf pd_8 rfl) rfl (by show 2 * 0 + _ ≤ _; exact Nat.le_of_eq rfl) (hb hby d16_1) (fun _ _ => ⟨rfl, e0, (by decide : 0 + 1 ≤ _), (by decide : 0 + 6 ≤ _)⟩)
  dsimp only [Pt.U, Pt.locs, Pt.cells, Pt.slots] at X159 l159 y159 z159 st159 hQ159
  subst l159 y159 z159
  obtain ⟨u159, ku159, rfl, Nq159, Kp159, gq159, Vq159⟩ := hQ159
  have g_u159 : n0 ≤ u159 := Nat.le_trans Z0 gq159
  have sz_u159 : h0.size ≤ u159 := Nat.le_trans KK.1 gq159
  have ne_a1_u159 : a1 ≠ u159 := Nat.ne_of_lt (Nat.lt_of_lt_of_le Vc.lt gq159)
  have N159 := Fr.app N0 Nq159
  replace Z0 := Nat.le_trans Z0 Kp159.1
  replace Vc := Vc.keep Kp159 nin0
  replace SA := own_staKeep SA Kp159 ns0
  replace SHI := own_staKeep SHI Kp159 ns0
  replace SLO := own_staKeep SLO Kp159 ns0
  replace KK := KK.trans Kp159 all0
  refine own_of (U' := (T159.setTop (mkF m 4 #[.val (.ref a1), .val (.int (0 : Int32)), .val (.int (3 : Int32)), .unset, .unset] [(.ref u159)]))) (st159) ?_
  refine own_astoreN X159 hx hby d16_4 rfl (l' := #[.val (.ref a1), .val (.int (0 : Int32)), .val (.int (3 : Int32)), .val (.ref u159), .unset]) rfl ?_
  refine own_iconst X159 hx hby 0 d16_5 rfl ?_
  refine own_istore X159 hx hby d16_6 (l' := #[.val (.ref a1), .val (.int (0 : Int32)), .val (.int (3 : Int32)), .val (.ref u159), .val (.int (0 : Int32))]) rfl ?_
  refine own_iload X159 hx hby d16_8 rfl ?_
  refine own_iloadN X159 hx hby d16_10 rfl ?_
  have hc11_160 : (0 : Int32) < (3 : Int32) := by decide
  refine own_icmpNo X159 hx hby d16_11 (tlt hc11_160).2.1 ?_
  refine own_aloadN X159 hx hby d16_14 rfl rfl ?_
  refine own_iload X159 hx hby d16_15 rfl ?_
  refine own_aloadN X159 hx hby d16_17 rfl rfl ?_
  refine own_iloadN X159 hx hby d16_18 rfl ?_
  obtain ⟨cl161, Ar161, qa161, Sa161, Na161, Ha161, Ga161⟩ := id Vc
  have hin161 : ¬ ((0 : Int32) < 0 ∨ cl161.slots.size ≤ ((0 : Int32)).toNatClampNeg) := inb_of Sa161 ⟨by decide, by decide⟩
  have hat161 : cl161.slots[((0 : Int32)).toNatClampNeg]? = some (.int c0) := Has.at Ha161 hin161 rfl
  refine own_of (U' := (T159.setTop (mkF m 20 #[.val (.ref a1), .val (.int (0 : Int32)), .val (.int (3 : Int32)), .val (.ref u159), .val (.int (0 : Int32))] [(.int c0), (.int (0 : Int32)), (.ref u159)]))) (X159.caload hx (j := (0 : Int32)) (v := (.int c0)) Ar161.1 (State.isArrayOf_alike hZ.alike Ar161.2.1) Ar161.2.2 hin161 hat161 (g := (mkF m 19 #[.val (.ref a1), .val (.int (0 : Int32)), .val (.int (3 : Int32)), .val (.ref u159), .val (.int (0 : Int32))] [(.int (0 : Int32)), (.ref a1), (.int (0 : Int32)), (.ref u159)])) rfl rfl (hb hby d16_19)) ?_
  obtain ⟨_, _, ⟨T162, L162, k162, n162⟩, -, X162, ⟨Lc162, hQ162, l162, y162, z162⟩, st162⟩ := Jvm.LawKit.callS X159 hx (y := mN_11) hown (mvT hZ (own_w hw 83 rfl)) (mvT hZ (own_w hw 84 rfl)) (mvT hZ (own_w hw 39 rfl)) (mvT hZ (own_w hw 85 rfl)) (by decide) (backOf (W := 0) (rmpc l Z a0 hw [] u159 (0 : Int32) c0 ku159 (6 : Int32) [(0 : Int32), (0 : Int32), (0 : Int32), (0 : Int32), (0 : Int32), (0 : Int32)] 0 T159.heap n0 Z0 Vq159 (by decide) (by decide) (by decide) (by decide) (by decide) (by decide) (Nat.le_of_ble_eq_true rfl) (Nat.le_of_ble_eq_true rfl) SA SHI SLO g_u159) hZ (own_w hw 85 rfl) (own_w hw 39 rfl) (by decide) (by decide)) (g := (mkF m 20 #[.val (.ref a1), .val (.int (0 : Int32)), .val (.int (3 : Int32)), .val (.ref u159), .val (.int (0 : Int32))] [(.int c0), (.int (0 : Int32)), (.ref u159)])) rfl (by rw [hml]; rfl) (argsL := [(.ref u159), (.int (0 : Int32)), (.int c0)]) (rest := []) (lenOf pd_9 rfl) rfl (by show 2 * 0 + _ ≤ _; exact Nat.le_of_eq rfl) (hb hby d16_20) (fun _ _ => ⟨rfl, rfl, (by decide : 1 + 0 ≤ _), (by decide : 6 + 0 ≤ _)⟩)
  dsimp only [Pt.U, Pt.locs, Pt.cells, Pt.slots] at X162 l162 y162 z162 st162 hQ162
  subst l162 y162 z162
  obtain ⟨rfl, Nq162, Kp162, Vq162⟩ := hQ162
  have N162 := Fr.app N159 Nq162
  have nst_u159 := Vq159.nostat
  replace Z0 := Nat.le_trans Z0 Kp162.1
  replace Vc := Vc.keep Kp162 (ninS ne_a1_u159 nin0)
  replace SA := own_staKeep SA Kp162 (nsS nst_u159 ns0)
  replace SHI := own_staKeep SHI Kp162 (nsS nst_u159 ns0)
  replace SLO := own_staKeep SLO Kp162 (nsS nst_u159 ns0)
  replace KK := KK.trans Kp162 (allS (Or.inr sz_u159) all0)
  have V162 : Arv Z T162.heap u159 ku159 .byte (6 : Int32) [(.int (own_lo8 c0)), (.int (own_hi8 c0)), (.int (0 : Int32)), (.int (0 : Int32)), (.int (0 : Int32)), (.int (0 : Int32))] (.int (0 : Int32)) := Vq162
  refine own_of (U' := (T162.setTop (mkF m 23 #[.val (.ref a1), .val (.int (0 : Int32)), .val (.int (3 : Int32)), .val (.ref u159), .val (.int (0 : Int32))] []))) (st162) ?_
  refine own_iinc X162 hx hby d16_23 rfl (l' := #[.val (.ref a1), .val (.int ((0 : Int32) + (1 : Int32))), .val (.int (3 : Int32)), .val (.ref u159), .val (.int (0 : Int32))]) rfl ?_
  refine own_eq (U' := (T162.setTop (mkF m 26 #[.val (.ref a1), .val (.int (1 : Int32)), .val (.int (3 : Int32)), .val (.ref u159), .val (.int (0 : Int32))] []))) (by rw [show ((0 : Int32) + (1 : Int32)) = (1 : Int32) by decide]) ?_
  refine own_iinc X162 hx hby d16_26 rfl (l' := #[.val (.ref a1), .val (.int (1 : Int32)), .val (.int (3 : Int32)), .val (.ref u159), .val (.int ((0 : Int32) + (1 : Int32)))]) rfl ?_
  refine own_eq (U' := (T162.setTop (mkF m 29 #[.val (.ref a1), .val (.int (1 : Int32)), .val (.int (3 : Int32)), .val (.ref u159), .val (.int (1 : Int32))] []))) (by rw [show ((0 : Int32) + (1 : Int32)) = (1 : Int32) by decide]) ?_
  refine own_goto X162 hx hby 29 8 d16_29 (by decide) (by decide) ?_
  refine own_iload X162 hx hby d16_8 rfl ?_
  refine own_iloadN X162 hx hby d16_10 rfl ?_
  have hc11_163 : (1 : Int32) < (3 : Int32) := by decide
  refine own_icmpNo X162 hx hby d16_11 (tlt hc11_163).2.1 ?_
  refine own_aloadN X162 hx hby d16_14 rfl rfl ?_
  refine own_iload X162 hx hby d16_15 rfl ?_
  refine own_aloadN X162 hx hby d16_17 rfl rfl ?_
  refine own_iloadN X162 hx hby d16_18 rfl ?_
  obtain ⟨cl164, Ar164, qa164, Sa164, Na164, Ha164, Ga164⟩ := id Vc
  have hin164 : ¬ ((1 : Int32) < 0 ∨ cl164.slots.size ≤ ((1 : Int32)).toNatClampNeg) := inb_of Sa164 ⟨by decide, by decide⟩
  have hat164 : cl164.slots[((1 : Int32)).toNatClampNeg]? = some (.int c1) := Has.at Ha164 hin164 rfl
  refine own_of (U' := (T162.setTop (mkF m 20 #[.val (.ref a1), .val (.int (1 : Int32)), .val (.int (3 : Int32)), .val (.ref u159), .val (.int (1 : Int32))] [(.int c1), (.int (1 : Int32)), (.ref u159)]))) (X162.caload hx (j := (1 : Int32)) (v := (.int c1)) Ar164.1 (State.isArrayOf_alike hZ.alike Ar164.2.1) Ar164.2.2 hin164 hat164 (g := (mkF m 19 #[.val (.ref a1), .val (.int (1 : Int32)), .val (.int (3 : Int32)), .val (.ref u159), .val (.int (1 : Int32))] [(.int (1 : Int32)), (.ref a1), (.int (1 : Int32)), (.ref u159)])) rfl rfl (hb hby d16_19)) ?_
  obtain ⟨_, _, ⟨T165, L165, k165, n165⟩, -, X165, ⟨Lc165, hQ165, l165, y165, z165⟩, st165⟩ := Jvm.LawKit.callS X162 hx (y := mN_11) hown (mvT hZ (own_w hw 83 rfl)) (mvT hZ (own_w hw 84 rfl)) (mvT hZ (own_w hw 39 rfl)) (mvT hZ (own_w hw 85 rfl)) (by decide) (backOf (W := 0) (rmpc l Z a0 hw [] u159 (1 : Int32) c1 ku159 (6 : Int32) [(own_lo8 c0), (own_hi8 c0), (0 : Int32), (0 : Int32), (0 : Int32), (0 : Int32)] 2 T162.heap n0 Z0 V162 (by decide) (by decide) (by decide) (by decide) (by decide) (by decide) (Nat.le_of_ble_eq_true rfl) (Nat.le_of_ble_eq_true rfl) SA SHI SLO g_u159) hZ (own_w hw 85 rfl) (own_w hw 39 rfl) (by decide) (by decide)) (g := (mkF m 20 #[.val (.ref a1), .val (.int (1 : Int32)), .val (.int (3 : Int32)), .val (.ref u159), .val (.int (1 : Int32))] [(.int c1), (.int (1 : Int32)), (.ref u159)])) rfl (by rw [hml]; rfl) (argsL := [(.ref u159), (.int (1 : Int32)), (.int c1)]) (rest := []) (lenOf pd_9 rfl) rfl (by show 2 * 0 + _ ≤ _; exact Nat.le_of_eq rfl) (hb hby d16_20) (fun _ _ => ⟨rfl, rfl, (by decide : 1 + 0 ≤ _), (by decide : 6 + 0 ≤ _)⟩)
  dsimp only [Pt.U, Pt.locs, Pt.cells, Pt.slots] at X165 l165 y165 z165 st165 hQ165
  subst l165 y165 z165
  obtain ⟨rfl, Nq165, Kp165, Vq165⟩ := hQ165
  have N165 := Fr.app N162 Nq165
  have nst_u159 := V162.nostat
  replace Z0 := Nat.le_trans Z0 Kp165.1
  replace Vc := Vc.keep Kp165 (ninS ne_a1_u159 nin0)
  replace SA := own_staKeep SA Kp165 (nsS nst_u159 ns0)
  replace SHI := own_staKeep SHI Kp165 (nsS nst_u159 ns0)
  replace SLO := own_staKeep SLO Kp165 (nsS nst_u159 ns0)
  replace KK := KK.trans Kp165 (allS (Or.inr sz_u159) all0)
  have V165 : Arv Z T165.heap u159 ku159 .byte (6 : Int32) [(.int (own_lo8 c0)), (.int (own_hi8 c0)), (.int (own_lo8 c1)), (.int (own_hi8 c1)), (.int (0 : Int32)), (.int (0 : Int32))] (.int (0 : Int32)) := Vq165
  refine own_of (U' := (T165.setTop (mkF m 23 #[.val (.ref a1), .val (.int (1 : Int32)), .val (.int (3 : Int32)), .val (.ref u159), .val (.int (1 : Int32))] []))) (st165) ?_
  refine own_iinc X165 hx hby d16_23 rfl (l' := #[.val (.ref a1), .val (.int ((1 : Int32) + (1 : Int32))), .val (.int (3 : Int32)), .val (.ref u159), .val (.int (1 : Int32))]) rfl ?_
  refine own_eq (U' := (T165.setTop (mkF m 26 #[.val (.ref a1), .val (.int (2 : Int32)), .val (.int (3 : Int32)), .val (.ref u159), .val (.int (1 : Int32))] []))) (by rw [show ((1 : Int32) + (1 : Int32)) = (2 : Int32) by decide]) ?_
  refine own_iinc X165 hx hby d16_26 rfl (l' := #[.val (.ref a1), .val (.int (2 : Int32)), .val (.int (3 : Int32)), .val (.ref u159), .val (.int ((1 : Int32) + (1 : Int32)))]) rfl ?_
  refine own_eq (U' := (T165.setTop (mkF m 29 #[.val (.ref a1), .val (.int (2 : Int32)), .val (.int (3 : Int32)), .val (.ref u159), .val (.int (2 : Int32))] []))) (by rw [show ((1 : Int32) + (1 : Int32)) = (2 : Int32) by decide]) ?_
  refine own_goto X165 hx hby 29 8 d16_29 (by decide) (by decide) ?_
  refine own_iload X165 hx hby d16_8 rfl ?_
  refine own_iloadN X165 hx hby d16_10 rfl ?_
  have hc11_166 : (2 : Int32) < (3 : Int32) := by decide
  refine own_icmpNo X165 hx hby d16_11 (tlt hc11_166).2.1 ?_
  refine own_aloadN X165 hx hby d16_14 rfl rfl ?_
  refine own_iload X165 hx hby d16_15 rfl ?_
  refine own_aloadN X165 hx hby d16_17 rfl rfl ?_
  refine own_iloadN X165 hx hby d16_18 rfl ?_
  obtain ⟨cl167, Ar167, qa167, Sa167, Na167, Ha167, Ga167⟩ := id Vc
  have hin167 : ¬ ((2 : Int32) < 0 ∨ cl167.slots.size ≤ ((2 : Int32)).toNatClampNeg) := inb_of Sa167 ⟨by decide, by decide⟩
  have hat167 : cl167.slots[((2 : Int32)).toNatClampNeg]? = some (.int c2) := Has.at Ha167 hin167 rfl
  refine own_of (U' := (T165.setTop (mkF m 20 #[.val (.ref a1), .val (.int (2 : Int32)), .val (.int (3 : Int32)), .val (.ref u159), .val (.int (2 : Int32))] [(.int c2), (.int (2 : Int32)), (.ref u159)]))) (X165.caload hx (j := (2 : Int32)) (v := (.int c2)) Ar167.1 (State.isArrayOf_alike hZ.alike Ar167.2.1) Ar167.2.2 hin167 hat167 (g := (mkF m 19 #[.val (.ref a1), .val (.int (2 : Int32)), .val (.int (3 : Int32)), .val (.ref u159), .val (.int (2 : Int32))] [(.int (2 : Int32)), (.ref a1), (.int (2 : Int32)), (.ref u159)])) rfl rfl (hb hby d16_19)) ?_
  obtain ⟨_, _, ⟨T168, L168, k168, n168⟩, -, X168, ⟨Lc168, hQ168, l168, y168, z168⟩, st168⟩ := Jvm.LawKit.callS X165 hx (y := mN_11) hown (mvT hZ (own_w hw 83 rfl)) (mvT hZ (own_w hw 84 rfl)) (mvT hZ (own_w hw 39 rfl)) (mvT hZ (own_w hw 85 rfl)) (by decide) (backOf (W := 0) (rmpc l Z a0 hw [] u159 (2 : Int32) c2 ku159 (6 : Int32) [(own_lo8 c0), (own_hi8 c0), (own_lo8 c1), (own_hi8 c1), (0 : Int32), (0 : Int32)] 4 T165.heap n0 Z0 V165 (by decide) (by decide) (by decide) (by decide) (by decide) (by decide) (Nat.le_of_ble_eq_true rfl) (Nat.le_of_ble_eq_true rfl) SA SHI SLO g_u159) hZ (own_w hw 85 rfl) (own_w hw 39 rfl) (by decide) (by decide)) (g := (mkF m 20 #[.val (.ref a1), .val (.int (2 : Int32)), .val (.int (3 : Int32)), .val (.ref u159), .val (.int (2 : Int32))] [(.int c2), (.int (2 : Int32)), (.ref u159)])) rfl (by rw [hml]; rfl) (argsL := [(.ref u159), (.int (2 : Int32)), (.int c2)]) (rest := []) (lenOf pd_9 rfl) rfl (by show 2 * 0 + _ ≤ _; exact Nat.le_of_eq rfl) (hb hby d16_20) (fun _ _ => ⟨rfl, rfl, (by decide : 1 + 0 ≤ _), (by decide : 6 + 0 ≤ _)⟩)
  dsimp only [Pt.U, Pt.locs, Pt.cells, Pt.slots] at X168 l168 y168 z168 st168 hQ168
  subst l168 y168 z168
  obtain ⟨rfl, Nq168, Kp168, Vq168⟩ := hQ168
  have N168 := Fr.app N165 Nq168
  have nst_u159 := V165.nostat
  replace Z0 := Nat.le_trans Z0 Kp168.1
  replace Vc := Vc.keep Kp168 (ninS ne_a1_u159 nin0)
  replace SA := own_staKeep SA Kp168 (nsS nst_u159 ns0)
  replace SHI := own_staKeep SHI Kp168 (nsS nst_u159 ns0)
  replace SLO := own_staKeep SLO Kp168 (nsS nst_u159 ns0)
  replace KK := KK.trans Kp168 (allS (Or.inr sz_u159) all0)
  have V168 : Arv Z T168.heap u159 ku159 .byte (6 : Int32) [(.int (own_lo8 c0)), (.int (own_hi8 c0)), (.int (own_lo8 c1)), (.int (own_hi8 c1)), (.int (own_lo8 c2)), (.int (own_hi8 c2))] (.int (0 : Int32)) := Vq168
  refine own_of (U' := (T168.setTop (mkF m 23 #[.val (.ref a1), .val (.int (2 : Int32)), .val (.int (3 : Int32)), .val (.ref u159), .val (.int (2 : Int32))] []))) (st168) ?_
  refine own_iinc X168 hx hby d16_23 rfl (l' := #[.val (.ref a1), .val (.int ((2 : Int32) + (1 : Int32))), .val (.int (3 : Int32)), .val (.ref u159), .val (.int (2 : Int32))]) rfl ?_
  refine own_eq (U' := (T168.setTop (mkF m 26 #[.val (.ref a1), .val (.int (3 : Int32)), .val (.int (3 : Int32)), .val (.ref u159), .val (.int (2 : Int32))] []))) (by rw [show ((2 : Int32) + (1 : Int32)) = (3 : Int32) by decide]) ?_
  refine own_iinc X168 hx hby d16_26 rfl (l' := #[.val (.ref a1), .val (.int (3 : Int32)), .val (.int (3 : Int32)), .val (.ref u159), .val (.int ((2 : Int32) + (1 : Int32)))]) rfl ?_
  refine own_eq (U' := (T168.setTop (mkF m 29 #[.val (.ref a1), .val (.int (3 : Int32)), .val (.int (3 : Int32)), .val (.ref u159), .val (.int (3 : Int32))] []))) (by rw [show ((2 : Int32) + (1 : Int32)) = (3 : Int32) by decide]) ?_
  refine own_goto X168 hx hby 29 8 d16_29 (by decide) (by decide) ?_
  refine own_iload X168 hx hby d16_8 rfl ?_
  refine own_iloadN X168 hx hby d16_10 rfl ?_
  have hc11_169 : ¬ ((3 : Int32) < (3 : Int32)) := by decide
  refine own_icmpYes X168 hx hby 11 32 d16_11 (flt hc11_169).2.1 (by decide) (by decide) ?_
  refine own_aloadN X168 hx hby d16_32 rfl rfl ?_
  exact own_retA X168 hx hlk Bd.returns rfl rfl (hb hby d16_33) (by decide) (by decide) (⟨u159, ku159, rfl, N168, KK, sz_u159, V168⟩)
theorem ef_cl3_0 (m : MethodId) (x0 : Addr) (x2 : Addr) : entryFrame m #[(.ref x0), (.int (0 : Int32)), (.ref x2), (.int (0 : Int32)), (.int (3 : Int32))] 7 = mkF m 0 #[.val (.ref x0), .val (.int (0 : Int32)), .val (.ref x2), .val (.int (0 : Int32)), .val (.int (3 : Int32)), .unset, .unset] [] := by first | (simp [entryFrame, mkF, argsToLocals, Value.category]; done) | rfl
def Qcl3_0 (Z : State) (a3 : Addr) (kd : ClassId) (c0 c1 c2 : Int32) (h0 : Heap) (n0 : Nat) (v : Option Value) (h : Heap) (L : List Loc) : Prop := v = some (.int (0 : Int32)) ∧ Fr n0 L ∧ Keep h0 h [a3] ∧ Arv Z h a3 kd .byte (3 : Int32) [(.int (0 : Int32)), (.int (0 : Int32)), (.int (0 : Int32))] (.int (0 : Int32))
set_option maxRecDepth 65536 in
set_option maxHeartbeats 40000000 in
theorem rmcl3_0 (l : Launch) (Z : State) (a0 : Array Value) (hw : ∀ d ∈ tables_1, d.before a0 Z = true) (ws : List Jvm.Cond) (a1 a3 : Addr) (kc kd : ClassId) (c0 c1 c2 : Int32) (h0 : Heap) (n0 : Nat) (Z0 : n0 ≤ h0.size) (Vc : Arv Z h0 a1 kc .char (3 : Int32) [(.int c0), (.int c1), (.int c2)] (.int (0 : Int32))) (Vd : Arv Z h0 a3 kd .byte (3 : Int32) [(.int (0 : Int32)), (.int (0 : Int32)), (.int (0 : Int32))] (.int (0 : Int32))) (g_a3 : n0 ≤ a3) (nea : a1 ≠ a3)  (hB : (255 : Int32) < c0) :
    MetFree l mN_15 (head1 (Jvm.Cond.code mN_15 jdk_52_method_21_code 7 (some .int) :: ws) ({ frames := 0, cells := 0, slots := 0, locals := 0 } : Room)) (fun a U => a = #[(.ref a1), (.int (0 : Int32)), (.ref a3), (.int (0 : Int32)), (.int (3 : Int32))] ∧ Z.Warmed39 U.vm ∧ U.heap = h0) (fun _ _ _ _ _ => True) (fun _ U o U' => ∃ v L, o = .returned v ∧ (Qcl3_0 Z a3 kd c0 c1 c2 h0 n0) v U'.heap L ∧ FrameEnd U o U' L ({ frames := 0, cells := 0, slots := 0, locals := 0 } : Room).cells ({ frames := 0, cells := 0, slots := 0, locals := 0 } : Room).slots) := by
  refine MetFree.of_bodySF (plainFor_of_name pn_2) hisR ?_
  intro p e s m args below meth c s₁ Bd hml0 hP hK
  obtain ⟨rfl, hZ, hh⟩ := hP
  have hx := Bd.exec
  have hby := Bd.bytes
  have hml : c.maxLocals = 7 := hml0
  have hown : s.vm.findClass "java/lang/StringUTF16" = some m.cls := findClass_of_methodNamed Bd.named
  have hnm := (name_of_methodNamed Bd.named Bd.method).1
  have hlk := Bd.notSynchronized
  have X0 : Stand p l e ({ frames := 0, cells := 0, slots := 0, locals := 0 } : Room) s m #[(.ref a1), (.int (0 : Int32)), (.ref a3), (.int (0 : Int32)), (.int (3 : Int32))] below meth c s₁ [] 0 0 := Stand.of_body Bd
  have e0 : s₁.heap = h0 := by rw [← hh, Bd.state]; rfl
  have N0 := Fr.nil n0
  have KK := Keep.refl h0 [a3]
  show own_Ends p e below s FrameEnd (Qcl3_0 Z a3 kd c0 c1 c2 h0 n0) 0 0 (s₁.setTop (entryFrame m #[(.ref a1), (.int (0 : Int32)), (.ref a3), (.int (0 : Int32)), (.int (3 : Int32))] 7))
  refine own_of (U' := (s₁.setTop (mkF m 0 #[.val (.ref a1), .val (.int (0 : Int32)), .val (.ref a3), .val (.int (0 : Int32)), .val (.int (3 : Int32)), .unset, .unset] []))) (fun _ k => castTop (ef_cl3_0 m a1 a3) k) ?_
  refine own_iconst X0 hx hby 0 d8_0 rfl ?_
  refine own_istore X0 hx hby d8_1 (l' := #[.val (.ref a1), .val (.int (0 : Int32)), .val (.ref a3), .val (.int (0 : Int32)), .val (.int (3 : Int32)), .val (.int (0 : Int32)), .unset]) rfl ?_
  refine own_iload X0 hx hby d8_3 rfl ?_
  refine own_iload X0 hx hby d8_5 rfl ?_
  have hc7_170 : (0 : Int32) < (3 : Int32) := by decide
  refine own_icmpNo X0 hx hby d8_7 (tlt hc7_170).2.1 ?_
  refine own_aloadN X0 hx hby d8_10 rfl rfl ?_
  refine own_iloadN X0 hx hby d8_11 rfl ?_
  obtain ⟨cl171, Ar171, qa171, Sa171, Na171, Ha171, Ga171⟩ := id Vc
  have hin171 : ¬ ((0 : Int32) < 0 ∨ cl171.slots.size ≤ ((0 : Int32)).toNatClampNeg) := inb_of Sa171 ⟨by decide, by decide⟩
  have hat171 : cl171.slots[((0 : Int32)).toNatClampNeg]? = some (.int c0) := Has.at Ha171 hin171 rfl
  refine own_of (U' := (s₁.setTop (mkF m 13 #[.val (.ref a1), .val (.int (0 : Int32)), .val (.ref a3), .val (.int (0 : Int32)), .val (.int (3 : Int32)), .val (.int (0 : Int32)), .unset] [(.int c0)]))) (X0.caload hx (j := (0 : Int32)) (v := (.int c0)) (by rw [e0]; exact Ar171.1) (State.isArrayOf_alike hZ.alike Ar171.2.1) Ar171.2.2 hin171 hat171 (g := (mkF m 12 #[.val (.ref a1), .val (.int (0 : Int32)), .val (.ref a3), .val (.int (0 : Int32)), .val (.int (3 : Int32)), .val (.int (0 : Int32)), .unset] [(.int (0 : Int32)), (.ref a1)])) rfl rfl (hb hby d8_12)) ?_
  refine own_istore X0 hx hby d8_13 (l' := #[.val (.ref a1), .val (.int (0 : Int32)), .val (.ref a3), .val (.int (0 : Int32)), .val (.int (3 : Int32)), .val (.int (0 : Int32)), .val (.int c0)]) rfl ?_
  refine own_iload X0 hx hby d8_15 rfl ?_
  refine own_sipush X0 hx hby 255 d8_17 rfl ?_
  have hc20_172 : (255 : Int32) < c0 := hB
  refine own_icmpNo X0 hx hby d8_20 (tlt hc20_172).2.2.2 ?_
  refine own_iload X0 hx hby d8_23 rfl ?_
  exact own_retI X0 hx hlk Bd.returns (hb hby d8_25) (by decide) (by decide) (by rw [e0]; exact ⟨rfl, N0, KK, Vd⟩)
theorem ef_cl3_1 (m : MethodId) (x0 : Addr) (x2 : Addr) : entryFrame m #[(.ref x0), (.int (0 : Int32)), (.ref x2), (.int (0 : Int32)), (.int (3 : Int32))] 7 = mkF m 0 #[.val (.ref x0), .val (.int (0 : Int32)), .val (.ref x2), .val (.int (0 : Int32)), .val (.int (3 : Int32)), .unset, .unset] [] := by first | (simp [entryFrame, mkF, argsToLocals, Value.category]; done) | rfl
def Qcl3_1 (Z : State) (a3 : Addr) (kd : ClassId) (c0 c1 c2 : Int32) (h0 : Heap) (n0 : Nat) (v : Option Value) (h : Heap) (L : List Loc) : Prop := v = some (.int (1 : Int32)) ∧ Fr n0 L ∧ Keep h0 h [a3] ∧ Arv Z h a3 kd .byte (3 : Int32) [(.int (own_b8 c0)), (.int (0 : Int32)), (.int (0 : Int32))] (.int (0 : Int32))
set_option maxRecDepth 65536 in
set_option maxHeartbeats 40000000 in
theorem rmcl3_1 (l : Launch) (Z : State) (a0 : Array Value) (hw : ∀ d ∈ tables_1, d.before a0 Z = true) (ws : List Jvm.Cond) (a1 a3 : Addr) (kc kd : ClassId) (c0 c1 c2 : Int32) (h0 : Heap) (n0 : Nat) (Z0 : n0 ≤ h0.size) (Vc : Arv Z h0 a1 kc .char (3 : Int32) [(.int c0), (.int c1), (.int c2)] (.int (0 : Int32))) (Vd : Arv Z h0 a3 kd .byte (3 : Int32) [(.int (0 : Int32)), (.int (0 : Int32)), (.int (0 : Int32))] (.int (0 : Int32))) (g_a3 : n0 ≤ a3) (nea : a1 ≠ a3) (hL0 : ¬ ((255 : Int32) < c0)) (hB : (255 : Int32) < c1) :
    MetFree l mN_15 (head1 (Jvm.Cond.code mN_15 jdk_52_method_21_code 7 (some .int) :: ws) ({ frames := 0, cells := 0, slots := 0, locals := 0 } : Room)) (fun a U => a = #[(.ref a1), (.int (0 : Int32)), (.ref a3), (.int (0 : Int32)), (.int (3 : Int32))] ∧ Z.Warmed39 U.vm ∧ U.heap = h0) (fun _ _ _ _ _ => True) (fun _ U o U' => ∃ v L, o = .returned v ∧ (Qcl3_1 Z a3 kd c0 c1 c2 h0 n0) v U'.heap L ∧ FrameEnd U o U' L ({ frames := 0, cells := 0, slots := 0, locals := 0 } : Room).cells ({ frames := 0, cells := 0, slots := 0, locals := 0 } : Room).slots) := by
  refine MetFree.of_bodySF (plainFor_of_name pn_2) hisR ?_
  intro p e s m args below meth c s₁ Bd hml0 hP hK
  obtain ⟨rfl, hZ, hh⟩ := hP
  have hx := Bd.exec
  have hby := Bd.bytes
  have hml : c.maxLocals = 7 := hml0
  have hown : s.vm.findClass "java/lang/StringUTF16" = some m.cls := findClass_of_methodNamed Bd.named
  have hnm := (name_of_methodNamed Bd.named Bd.method).1
  have hlk := Bd.notSynchronized
  have X0 : Stand p l e ({ frames := 0, cells := 0, slots := 0, locals := 0 } : Room) s m #[(.ref a1), (.int (0 : Int32)), (.ref a3), (.int (0 : Int32)), (.int (3 : Int32))] below meth c s₁ [] 0 0 := Stand.of_body Bd
  have e0 : s₁.heap = h0 := by rw [← hh, Bd.state]; rfl
  have N0 := Fr.nil n0
  have KK := Keep.refl h0 [a3]
  show own_Ends p e below s FrameEnd (Qcl3_1 Z a3 kd c0 c1 c2 h0 n0) 0 0 (s₁.setTop (entryFrame m #[(.ref a1), (.int (0 : Int32)), (.ref a3), (.int (0 : Int32)), (.int (3 : Int32))] 7))
  refine own_of (U' := (s₁.setTop (mkF m 0 #[.val (.ref a1), .val (.int (0 : Int32)), .val (.ref a3), .val (.int (0 : Int32)), .val (.int (3 : Int32)), .unset, .unset] []))) (fun _ k => castTop (ef_cl3_1 m a1 a3) k) ?_
  refine own_iconst X0 hx hby 0 d8_0 rfl ?_
  refine own_istore X0 hx hby d8_1 (l' := #[.val (.ref a1), .val (.int (0 : Int32)), .val (.ref a3), .val (.int (0 : Int32)), .val (.int (3 : Int32)), .val (.int (0 : Int32)), .unset]) rfl ?_
  refine own_iload X0 hx hby d8_3 rfl ?_
  refine own_iload X0 hx hby d8_5 rfl ?_
  have hc7_173 : (0 : Int32) < (3 : Int32) := by decide
  refine own_icmpNo X0 hx hby d8_7 (tlt hc7_173).2.1 ?_
  refine own_aloadN X0 hx hby d8_10 rfl rfl ?_
  refine own_iloadN X0 hx hby d8_11 rfl ?_
  obtain ⟨cl174, Ar174, qa174, Sa174, Na174, Ha174, Ga174⟩ := id Vc
  have hin174 : ¬ ((0 : Int32) < 0 ∨ cl174.slots.size ≤ ((0 : Int32)).toNatClampNeg) := inb_of Sa174 ⟨by decide, by decide⟩
  have hat174 : cl174.slots[((0 : Int32)).toNatClampNeg]? = some (.int c0) := Has.at Ha174 hin174 rfl
  refine own_of (U' := (s₁.setTop (mkF m 13 #[.val (.ref a1), .val (.int (0 : Int32)), .val (.ref a3), .val (.int (0 : Int32)), .val (.int (3 : Int32)), .val (.int (0 : Int32)), .unset] [(.int c0)]))) (X0.caload hx (j := (0 : Int32)) (v := (.int c0)) (by rw [e0]; exact Ar174.1) (State.isArrayOf_alike hZ.alike Ar174.2.1) Ar174.2.2 hin174 hat174 (g := (mkF m 12 #[.val (.ref a1), .val (.int (0 : Int32)), .val (.ref a3), .val (.int (0 : Int32)), .val (.int (3 : Int32)), .val (.int (0 : Int32)), .unset] [(.int (0 : Int32)), (.ref a1)])) rfl rfl (hb hby d8_12)) ?_
  refine own_istore X0 hx hby d8_13 (l' := #[.val (.ref a1), .val (.int (0 : Int32)), .val (.ref a3), .val (.int (0 : Int32)), .val (.int (3 : Int32)), .val (.int (0 : Int32)), .val (.int c0)]) rfl ?_
  refine own_iload X0 hx hby d8_15 rfl ?_
  refine own_sipush X0 hx hby 255 d8_17 rfl ?_
  have hc20_175 : ¬ ((255 : Int32) < c0) := hL0
  refine own_icmpYes X0 hx hby 20 26 d8_20 (flt hc20_175).2.2.2 (by decide) (by decide) ?_
  refine own_aloadN X0 hx hby d8_26 rfl rfl ?_
  refine own_iloadN X0 hx hby d8_27 rfl ?_
  refine own_iload X0 hx hby d8_28 rfl ?_
  refine own_i2b X0 hx hby d8_30 ?_
  obtain ⟨cl176, Ar176, qa176, Sa176, Na176, Ha176, Ga176⟩ := Vd
  have hin176 : ¬ ((0 : Int32) < 0 ∨ cl176.slots.size ≤ ((0 : Int32)).toNatClampNeg) := inb_of Sa176 ⟨by decide, by decide⟩
  obtain ⟨T176, h176, X176, e176, W176, st176⟩ := stB X0 hx hZ e0 Ar176 (j := (0 : Int32)) hin176 (g := (mkF m 31 #[.val (.ref a1), .val (.int (0 : Int32)), .val (.ref a3), .val (.int (0 : Int32)), .val (.int (3 : Int32)), .val (.int (0 : Int32)), .val (.int c0)] [(.int (c0.toInt8.toInt32)), (.int (0 : Int32)), (.ref a3)])) rfl rfl (hb hby d8_31)
  replace Vd : Arv Z h176 a3 kd .byte (3 : Int32) [(.int (nar .byte (c0.toInt8.toInt32))), (.int (0 : Int32)), (.int (0 : Int32))] (.int (0 : Int32)) := Arv.set Ar176 qa176 Sa176 Na176 Ha176 Ga176 (fits_nar_byte _) W176 0 rfl (Nat.le_of_ble_eq_true rfl)
  replace Z0 := Nat.le_trans Z0 (Keep.of_wr W176).1
  replace Vc := Vc.other W176 nea
  replace KK := KK.wr W176 (Or.inl (List.mem_of_getElem? (i := 0) rfl))
  have N176 := Fr.snoc X176 N0 g_a3
  refine own_of (U' := (T176.setTop (mkF m 32 #[.val (.ref a1), .val (.int (0 : Int32)), .val (.ref a3), .val (.int (0 : Int32)), .val (.int (3 : Int32)), .val (.int (0 : Int32)), .val (.int c0)] []))) (st176) ?_
  refine own_iinc X176 hx hby d8_32 rfl (l' := #[.val (.ref a1), .val (.int ((0 : Int32) + (1 : Int32))), .val (.ref a3), .val (.int (0 : Int32)), .val (.int (3 : Int32)), .val (.int (0 : Int32)), .val (.int c0)]) rfl ?_
  refine own_eq (U' := (T176.setTop (mkF m 35 #[.val (.ref a1), .val (.int (1 : Int32)), .val (.ref a3), .val (.int (0 : Int32)), .val (.int (3 : Int32)), .val (.int (0 : Int32)), .val (.int c0)] []))) (by rw [show ((0 : Int32) + (1 : Int32)) = (1 : Int32) by decide]) ?_
  refine own_iinc X176 hx hby d8_35 rfl (l' := #[.val (.ref a1), .val (.int (1 : Int32)), .val (.ref a3), .val (.int ((0 : Int32) + (1 : Int32))), .val (.int (3 : Int32)), .val (.int (0 : Int32)), .val (.int c0)]) rfl ?_
  refine own_eq (U' := (T176.setTop (mkF m 38 #[.val (.ref a1), .val (.int (1 : Int32)), .val (.ref a3), .val (.int (1 : Int32)), .val (.int (3 : Int32)), .val (.int (0 : Int32)), .val (.int c0)] []))) (by rw [show ((0 : Int32) + (1 : Int32)) = (1 : Int32) by decide]) ?_
  refine own_iinc X176 hx hby d8_38 rfl (l' := #[.val (.ref a1), .val (.int (1 : Int32)), .val (.ref a3), .val (.int (1 : Int32)), .val (.int (3 : Int32)), .val (.int ((0 : Int32) + (1 : Int32))), .val (.int c0)]) rfl ?_
  refine own_eq (U' := (T176.setTop (mkF m 41 #[.val (.ref a1), .val (.int (1 : Int32)), .val (.ref a3), .val (.int (1 : Int32)), .val (.int (3 : Int32)), .val (.int (1 : Int32)), .val (.int c0)] []))) (by rw [show ((0 : Int32) + (1 : Int32)) = (1 : Int32) by decide]) ?_
  refine own_goto X176 hx hby 41 3 d8_41 (by decide) (by decide) ?_
  refine own_iload X176 hx hby d8_3 rfl ?_
  refine own_iload X176 hx hby d8_5 rfl ?_
  have hc7_177 : (1 : Int32) < (3 : Int32) := by decide
  refine own_icmpNo X176 hx hby d8_7 (tlt hc7_177).2.1 ?_
  refine own_aloadN X176 hx hby d8_10 rfl rfl ?_
  refine own_iloadN X176 hx hby d8_11 rfl ?_
  obtain ⟨cl178, Ar178, qa178, Sa178, Na178, Ha178, Ga178⟩ := id Vc
  have hin178 : ¬ ((1 : Int32) < 0 ∨ cl178.slots.size ≤ ((1 : Int32)).toNatClampNeg) := inb_of Sa178 ⟨by decide, by decide⟩
  have hat178 : cl178.slots[((1 : Int32)).toNatClampNeg]? = some (.int c1) := Has.at Ha178 hin178 rfl
  refine own_of (U' := (T176.setTop (mkF m 13 #[.val (.ref a1), .val (.int (1 : Int32)), .val (.ref a3), .val (.int (1 : Int32)), .val (.int (3 : Int32)), .val (.int (1 : Int32)), .val (.int c0)] [(.int c1)]))) (X176.caload hx (j := (1 : Int32)) (v := (.int c1)) (by rw [e176]; exact Ar178.1) (State.isArrayOf_alike hZ.alike Ar178.2.1) Ar178.2.2 hin178 hat178 (g := (mkF m 12 #[.val (.ref a1), .val (.int (1 : Int32)), .val (.ref a3), .val (.int (1 : Int32)), .val (.int (3 : Int32)), .val (.int (1 : Int32)), .val (.int c0)] [(.int (1 : Int32)), (.ref a1)])) rfl rfl (hb hby d8_12)) ?_
  refine own_istore X176 hx hby d8_13 (l' := #[.val (.ref a1), .val (.int (1 : Int32)), .val (.ref a3), .val (.int (1 : Int32)), .val (.int (3 : Int32)), .val (.int (1 : Int32)), .val (.int c1)]) rfl ?_
  refine own_iload X176 hx hby d8_15 rfl ?_
  refine own_sipush X176 hx hby 255 d8_17 rfl ?_
  have hc20_179 : (255 : Int32) < c1 := hB
  refine own_icmpNo X176 hx hby d8_20 (tlt hc20_179).2.2.2 ?_
  refine own_iload X176 hx hby d8_23 rfl ?_
  exact own_retI X176 hx hlk Bd.returns (hb hby d8_25) (by decide) (by decide) (by rw [e176]; exact ⟨rfl, N176, KK, Vd⟩)
theorem ef_cl3_2 (m : MethodId) (x0 : Addr) (x2 : Addr) : entryFrame m #[(.ref x0), (.int (0 : Int32)), (.ref x2), (.int (0 : Int32)), (.int (3 : Int32))] 7 = mkF m 0 #[.val (.ref x0), .val (.int (0 : Int32)), .val (.ref x2), .val (.int (0 : Int32)), .val (.int (3 : Int32)), .unset, .unset] [] := by first | (simp [entryFrame, mkF, argsToLocals, Value.category]; done) | rfl
def Qcl3_2 (Z : State) (a3 : Addr) (kd : ClassId) (c0 c1 c2 : Int32) (h0 : Heap) (n0 : Nat) (v : Option Value) (h : Heap) (L : List Loc) : Prop := v = some (.int (2 : Int32)) ∧ Fr n0 L ∧ Keep h0 h [a3] ∧ Arv Z h a3 kd .byte (3 : Int32) [(.int (own_b8 c0)), (.int (own_b8 c1)), (.int (0 : Int32))] (.int (0 : Int32))
set_option maxRecDepth 65536 in
set_option maxHeartbeats 40000000 in
theorem rmcl3_2 (l : Launch) (Z : State) (a0 : Array Value) (hw : ∀ d ∈ tables_1, d.before a0 Z = true) (ws : List Jvm.Cond) (a1 a3 : Addr) (kc kd : ClassId) (c0 c1 c2 : Int32) (h0 : Heap) (n0 : Nat) (Z0 : n0 ≤ h0.size) (Vc : Arv Z h0 a1 kc .char (3 : Int32) [(.int c0), (.int c1), (.int c2)] (.int (0 : Int32))) (Vd : Arv Z h0 a3 kd .byte (3 : Int32) [(.int (0 : Int32)), (.int (0 : Int32)), (.int (0 : Int32))] (.int (0 : Int32))) (g_a3 : n0 ≤ a3) (nea : a1 ≠ a3) (hL0 : ¬ ((255 : Int32) < c0)) (hL1 : ¬ ((255 : Int32) < c1)) (hB : (255 : Int32) < c2) :
    MetFree l mN_15 (head1 (Jvm.Cond.code mN_15 jdk_52_method_21_code 7 (some .int) :: ws) ({ frames := 0, cells := 0, slots := 0, locals := 0 } : Room)) (fun a U => a = #[(.ref a1), (.int (0 : Int32)), (.ref a3), (.int (0 : Int32)), (.int (3 : Int32))] ∧ Z.Warmed39 U.vm ∧ U.heap = h0) (fun _ _ _ _ _ => True) (fun _ U o U' => ∃ v L, o = .returned v ∧ (Qcl3_2 Z a3 kd c0 c1 c2 h0 n0) v U'.heap L ∧ FrameEnd U o U' L ({ frames := 0, cells := 0, slots := 0, locals := 0 } : Room).cells ({ frames := 0, cells := 0, slots := 0, locals := 0 } : Room).slots) := by
  refine MetFree.of_bodySF (plainFor_of_name pn_2) hisR ?_
  intro p e s m args below meth c s₁ Bd hml0 hP hK
  obtain ⟨rfl, hZ, hh⟩ := hP
  have hx := Bd.exec
  have hby := Bd.bytes
  have hml : c.maxLocals = 7 := hml0
  have hown : s.vm.findClass "java/lang/StringUTF16" = some m.cls := findClass_of_methodNamed Bd.named
  have hnm := (name_of_methodNamed Bd.named Bd.method).1
  have hlk := Bd.notSynchronized
  have X0 : Stand p l e ({ frames := 0, cells := 0, slots := 0, locals := 0 } : Room) s m #[(.ref a1), (.int (0 : Int32)), (.ref a3), (.int (0 : Int32)), (.int (3 : Int32))] below meth c s₁ [] 0 0 := Stand.of_body Bd
  have e0 : s₁.heap = h0 := by rw [← hh, Bd.state]; rfl
  have N0 := Fr.nil n0
  have KK := Keep.refl h0 [a3]
  show own_Ends p e below s FrameEnd (Qcl3_2 Z a3 kd c0 c1 c2 h0 n0) 0 0 (s₁.setTop (entryFrame m #[(.ref a1), (.int (0 : Int32)), (.ref a3), (.int (0 : Int32)), (.int (3 : Int32))] 7))
  refine own_of (U' := (s₁.setTop (mkF m 0 #[.val (.ref a1), .val (.int (0 : Int32)), .val (.ref a3), .val (.int (0 : Int32)), .val (.int (3 : Int32)), .unset, .unset] []))) (fun _ k => castTop (ef_cl3_2 m a1 a3) k) ?_
  refine own_iconst X0 hx hby 0 d8_0 rfl ?_
  refine own_istore X0 hx hby d8_1 (l' := #[.val (.ref a1), .val (.int (0 : Int32)), .val (.ref a3), .val (.int (0 : Int32)), .val (.int (3 : Int32)), .val (.int (0 : Int32)), .unset]) rfl ?_
  refine own_iload X0 hx hby d8_3 rfl ?_
  refine own_iload X0 hx hby d8_5 rfl ?_
  have hc7_180 : (0 : Int32) < (3 : Int32) := by decide
  refine own_icmpNo X0 hx hby d8_7 (tlt hc7_180).2.1 ?_
  refine own_aloadN X0 hx hby d8_10 rfl rfl ?_
  refine own_iloadN X0 hx hby d8_11 rfl ?_
  obtain ⟨cl181, Ar181, qa181, Sa181, Na181, Ha181, Ga181⟩ := id Vc
  have hin181 : ¬ ((0 : Int32) < 0 ∨ cl181.slots.size ≤ ((0 : Int32)).toNatClampNeg) := inb_of Sa181 ⟨by decide, by decide⟩
  have hat181 : cl181.slots[((0 : Int32)).toNatClampNeg]? = some (.int c0) := Has.at Ha181 hin181 rfl
  refine own_of (U' := (s₁.setTop (mkF m 13 #[.val (.ref a1), .val (.int (0 : Int32)), .val (.ref a3), .val (.int (0 : Int32)), .val (.int (3 : Int32)), .val (.int (0 : Int32)), .unset] [(.int c0)]))) (X0.caload hx (j := (0 : Int32)) (v := (.int c0)) (by rw [e0]; exact Ar181.1) (State.isArrayOf_alike hZ.alike Ar181.2.1) Ar181.2.2 hin181 hat181 (g := (mkF m 12 #[.val (.ref a1), .val (.int (0 : Int32)), .val (.ref a3), .val (.int (0 : Int32)), .val (.int (3 : Int32)), .val (.int (0 : Int32)), .unset] [(.int (0 : Int32)), (.ref a1)])) rfl rfl (hb hby d8_12)) ?_
  refine own_istore X0 hx hby d8_13 (l' := #[.val (.ref a1), .val (.int (0 : Int32)), .val (.ref a3), .val (.int (0 : Int32)), .val (.int (3 : Int32)), .val (.int (0 : Int32)), .val (.int c0)]) rfl ?_
  refine own_iload X0 hx hby d8_15 rfl ?_
  refine own_sipush X0 hx hby 255 d8_17 rfl ?_
  have hc20_182 : ¬ ((255 : Int32) < c0) := hL0
  refine own_icmpYes X0 hx hby 20 26 d8_20 (flt hc20_182).2.2.2 (by decide) (by decide) ?_
  refine own_aloadN X0 hx hby d8_26 rfl rfl ?_
  refine own_iloadN X0 hx hby d8_27 rfl ?_
  refine own_iload X0 hx hby d8_28 rfl ?_
  refine own_i2b X0 hx hby d8_30 ?_
  obtain ⟨cl183, Ar183, qa183, Sa183, Na183, Ha183, Ga183⟩ := Vd
  have hin183 : ¬ ((0 : Int32) < 0 ∨ cl183.slots.size ≤ ((0 : Int32)).toNatClampNeg) := inb_of Sa183 ⟨by decide, by decide⟩
  obtain ⟨T183, h183, X183, e183, W183, st183⟩ := stB X0 hx hZ e0 Ar183 (j := (0 : Int32)) hin183 (g := (mkF m 31 #[.val (.ref a1), .val (.int (0 : Int32)), .val (.ref a3), .val (.int (0 : Int32)), .val (.int (3 : Int32)), .val (.int (0 : Int32)), .val (.int c0)] [(.int (c0.toInt8.toInt32)), (.int (0 : Int32)), (.ref a3)])) rfl rfl (hb hby d8_31)
  replace Vd : Arv Z h183 a3 kd .byte (3 : Int32) [(.int (nar .byte (c0.toInt8.toInt32))), (.int (0 : Int32)), (.int (0 : Int32))] (.int (0 : Int32)) := Arv.set Ar183 qa183 Sa183 Na183 Ha183 Ga183 (fits_nar_byte _) W183 0 rfl (Nat.le_of_ble_eq_true rfl)
  replace Z0 := Nat.le_trans Z0 (Keep.of_wr W183).1
  replace Vc := Vc.other W183 nea
  replace KK := KK.wr W183 (Or.inl (List.mem_of_getElem? (i := 0) rfl))
  have N183 := Fr.snoc X183 N0 g_a3
  refine own_of (U' := (T183.setTop (mkF m 32 #[.val (.ref a1), .val (.int (0 : Int32)), .val (.ref a3), .val (.int (0 : Int32)), .val (.int (3 : Int32)), .val (.int (0 : Int32)), .val (.int c0)] []))) (st183) ?_
  refine own_iinc X183 hx hby d8_32 rfl (l' := #[.val (.ref a1), .val (.int ((0 : Int32) + (1 : Int32))), .val (.ref a3), .val (.int (0 : Int32)), .val (.int (3 : Int32)), .val (.int (0 : Int32)), .val (.int c0)]) rfl ?_
  refine own_eq (U' := (T183.setTop (mkF m 35 #[.val (.ref a1), .val (.int (1 : Int32)), .val (.ref a3), .val (.int (0 : Int32)), .val (.int (3 : Int32)), .val (.int (0 : Int32)), .val (.int c0)] []))) (by rw [show ((0 : Int32) + (1 : Int32)) = (1 : Int32) by decide]) ?_
  refine own_iinc X183 hx hby d8_35 rfl (l' := #[.val (.ref a1), .val (.int (1 : Int32)), .val (.ref a3), .val (.int ((0 : Int32) + (1 : Int32))), .val (.int (3 : Int32)), .val (.int (0 : Int32)), .val (.int c0)]) rfl ?_
  refine own_eq (U' := (T183.setTop (mkF m 38 #[.val (.ref a1), .val (.int (1 : Int32)), .val (.ref a3), .val (.int (1 : Int32)), .val (.int (3 : Int32)), .val (.int (0 : Int32)), .val (.int c0)] []))) (by rw [show ((0 : Int32) + (1 : Int32)) = (1 : Int32) by decide]) ?_
  refine own_iinc X183 hx hby d8_38 rfl (l' := #[.val (.ref a1), .val (.int (1 : Int32)), .val (.ref a3), .val (.int (1 : Int32)), .val (.int (3 : Int32)), .val (.int ((0 : Int32) + (1 : Int32))), .val (.int c0)]) rfl ?_
  refine own_eq (U' := (T183.setTop (mkF m 41 #[.val (.ref a1), .val (.int (1 : Int32)), .val (.ref a3), .val (.int (1 : Int32)), .val (.int (3 : Int32)), .val (.int (1 : Int32)), .val (.int c0)] []))) (by rw [show ((0 : Int32) + (1 : Int32)) = (1 : Int32) by decide]) ?_
  refine own_goto X183 hx hby 41 3 d8_41 (by decide) (by decide) ?_
  refine own_iload X183 hx hby d8_3 rfl ?_
  refine own_iload X183 hx hby d8_5 rfl ?_
  have hc7_184 : (1 : Int32) < (3 : Int32) := by decide
  refine own_icmpNo X183 hx hby d8_7 (tlt hc7_184).2.1 ?_
  refine own_aloadN X183 hx hby d8_10 rfl rfl ?_
  refine own_iloadN X183 hx hby d8_11 rfl ?_
  obtain ⟨cl185, Ar185, qa185, Sa185, Na185, Ha185, Ga185⟩ := id Vc
  have hin185 : ¬ ((1 : Int32) < 0 ∨ cl185.slots.size ≤ ((1 : Int32)).toNatClampNeg) := inb_of Sa185 ⟨by decide, by decide⟩
  have hat185 : cl185.slots[((1 : Int32)).toNatClampNeg]? = some (.int c1) := Has.at Ha185 hin185 rfl
  refine own_of (U' := (T183.setTop (mkF m 13 #[.val (.ref a1), .val (.int (1 : Int32)), .val (.ref a3), .val (.int (1 : Int32)), .val (.int (3 : Int32)), .val (.int (1 : Int32)), .val (.int c0)] [(.int c1)]))) (X183.caload hx (j := (1 : Int32)) (v := (.int c1)) (by rw [e183]; exact Ar185.1) (State.isArrayOf_alike hZ.alike Ar185.2.1) Ar185.2.2 hin185 hat185 (g := (mkF m 12 #[.val (.ref a1), .val (.int (1 : Int32)), .val (.ref a3), .val (.int (1 : Int32)), .val (.int (3 : Int32)), .val (.int (1 : Int32)), .val (.int c0)] [(.int (1 : Int32)), (.ref a1)])) rfl rfl (hb hby d8_12)) ?_
  refine own_istore X183 hx hby d8_13 (l' := #[.val (.ref a1), .val (.int (1 : Int32)), .val (.ref a3), .val (.int (1 : Int32)), .val (.int (3 : Int32)), .val (.int (1 : Int32)), .val (.int c1)]) rfl ?_
  refine own_iload X183 hx hby d8_15 rfl ?_
  refine own_sipush X183 hx hby 255 d8_17 rfl ?_
  have hc20_186 : ¬ ((255 : Int32) < c1) := hL1
  refine own_icmpYes X183 hx hby 20 26 d8_20 (flt hc20_186).2.2.2 (by decide) (by decide) ?_
  refine own_aloadN X183 hx hby d8_26 rfl rfl ?_
  refine own_iloadN X183 hx hby d8_27 rfl ?_
  refine own_iload X183 hx hby d8_28 rfl ?_
  refine own_i2b X183 hx hby d8_30 ?_
  obtain ⟨cl187, Ar187, qa187, Sa187, Na187, Ha187, Ga187⟩ := Vd
  have hin187 : ¬ ((1 : Int32) < 0 ∨ cl187.slots.size ≤ ((1 : Int32)).toNatClampNeg) := inb_of Sa187 ⟨by decide, by decide⟩
  obtain ⟨T187, h187, X187, e187, W187, st187⟩ := stB X183 hx hZ e183 Ar187 (j := (1 : Int32)) hin187 (g := (mkF m 31 #[.val (.ref a1), .val (.int (1 : Int32)), .val (.ref a3), .val (.int (1 : Int32)), .val (.int (3 : Int32)), .val (.int (1 : Int32)), .val (.int c1)] [(.int (c1.toInt8.toInt32)), (.int (1 : Int32)), (.ref a3)])) rfl rfl (hb hby d8_31)
  replace Vd : Arv Z h187 a3 kd .byte (3 : Int32) [(.int (nar .byte (c0.toInt8.toInt32))), (.int (nar .byte (c1.toInt8.toInt32))), (.int (0 : Int32))] (.int (0 : Int32)) := Arv.set Ar187 qa187 Sa187 Na187 Ha187 Ga187 (fits_nar_byte _) W187 1 rfl (Nat.le_of_ble_eq_true rfl)
  replace Z0 := Nat.le_trans Z0 (Keep.of_wr W187).1
  replace Vc := Vc.other W187 nea
  replace KK := KK.wr W187 (Or.inl (List.mem_of_getElem? (i := 0) rfl))
  have N187 := Fr.snoc X187 N183 g_a3
  refine own_of (U' := (T187.setTop (mkF m 32 #[.val (.ref a1), .val (.int (1 : Int32)), .val (.ref a3), .val (.int (1 : Int32)), .val (.int (3 : Int32)), .val (.int (1 : Int32)), .val (.int c1)] []))) (st187) ?_
  refine own_iinc X187 hx hby d8_32 rfl (l' := #[.val (.ref a1), .val (.int ((1 : Int32) + (1 : Int32))), .val (.ref a3), .val (.int (1 : Int32)), .val (.int (3 : Int32)), .val (.int (1 : Int32)), .val (.int c1)]) rfl ?_
  refine own_eq (U' := (T187.setTop (mkF m 35 #[.val (.ref a1), .val (.int (2 : Int32)), .val (.ref a3), .val (.int (1 : Int32)), .val (.int (3 : Int32)), .val (.int (1 : Int32)), .val (.int c1)] []))) (by rw [show ((1 : Int32) + (1 : Int32)) = (2 : Int32) by decide]) ?_
  refine own_iinc X187 hx hby d8_35 rfl (l' := #[.val (.ref a1), .val (.int (2 : Int32)), .val (.ref a3), .val (.int ((1 : Int32) + (1 : Int32))), .val (.int (3 : Int32)), .val (.int (1 : Int32)), .val (.int c1)]) rfl ?_
  refine own_eq (U' := (T187.setTop (mkF m 38 #[.val (.ref a1), .val (.int (2 : Int32)), .val (.ref a3), .val (.int (2 : Int32)), .val (.int (3 : Int32)), .val (.int (1 : Int32)), .val (.int c1)] []))) (by rw [show ((1 : Int32) + (1 : Int32)) = (2 : Int32) by decide]) ?_
  refine own_iinc X187 hx hby d8_38 rfl (l' := #[.val (.ref a1), .val (.int (2 : Int32)), .val (.ref a3), .val (.int (2 : Int32)), .val (.int (3 : Int32)), .val (.int ((1 : Int32) + (1 : Int32))), .val (.int c1)]) rfl ?_
  refine own_eq (U' := (T187.setTop (mkF m 41 #[.val (.ref a1), .val (.int (2 : Int32)), .val (.ref a3), .val (.int (2 : Int32)), .val (.int (3 : Int32)), .val (.int (2 : Int32)), .val (.int c1)] []))) (by rw [show ((1 : Int32) + (1 : Int32)) = (2 : Int32) by decide]) ?_
  refine own_goto X187 hx hby 41 3 d8_41 (by decide) (by decide) ?_
  refine own_iload X187 hx hby d8_3 rfl ?_
  refine own_iload X187 hx hby d8_5 rfl ?_
  have hc7_188 : (2 : Int32) < (3 : Int32) := by decide
  refine own_icmpNo X187 hx hby d8_7 (tlt hc7_188).2.1 ?_
  refine own_aloadN X187 hx hby d8_10 rfl rfl ?_
  refine own_iloadN X187 hx hby d8_11 rfl ?_
  obtain ⟨cl189, Ar189, qa189, Sa189, Na189, Ha189, Ga189⟩ := id Vc
  have hin189 : ¬ ((2 : Int32) < 0 ∨ cl189.slots.size ≤ ((2 : Int32)).toNatClampNeg) := inb_of Sa189 ⟨by decide, by decide⟩
  have hat189 : cl189.slots[((2 : Int32)).toNatClampNeg]? = some (.int c2) := Has.at Ha189 hin189 rfl
  refine own_of (U' := (T187.setTop (mkF m 13 #[.val (.ref a1), .val (.int (2 : Int32)), .val (.ref a3), .val (.int (2 : Int32)), .val (.int (3 : Int32)), .val (.int (2 : Int32)), .val (.int c1)] [(.int c2)]))) (X187.caload hx (j := (2 : Int32)) (v := (.int c2)) (by rw [e187]; exact Ar189.1) (State.isArrayOf_alike hZ.alike Ar189.2.1) Ar189.2.2 hin189 hat189 (g := (mkF m 12 #[.val (.ref a1), .val (.int (2 : Int32)), .val (.ref a3), .val (.int (2 : Int32)), .val (.int (3 : Int32)), .val (.int (2 : Int32)), .val (.int c1)] [(.int (2 : Int32)), (.ref a1)])) rfl rfl (hb hby d8_12)) ?_
  refine own_istore X187 hx hby d8_13 (l' := #[.val (.ref a1), .val (.int (2 : Int32)), .val (.ref a3), .val (.int (2 : Int32)), .val (.int (3 : Int32)), .val (.int (2 : Int32)), .val (.int c2)]) rfl ?_
  refine own_iload X187 hx hby d8_15 rfl ?_
  refine own_sipush X187 hx hby 255 d8_17 rfl ?_
  have hc20_190 : (255 : Int32) < c2 := hB
  refine own_icmpNo X187 hx hby d8_20 (tlt hc20_190).2.2.2 ?_
  refine own_iload X187 hx hby d8_23 rfl ?_
  exact own_retI X187 hx hlk Bd.returns (hb hby d8_25) (by decide) (by decide) (by rw [e187]; exact ⟨rfl, N187, KK, Vd⟩)
theorem ef_cl3_3 (m : MethodId) (x0 : Addr) (x2 : Addr) : entryFrame m #[(.ref x0), (.int (0 : Int32)), (.ref x2), (.int (0 : Int32)), (.int (3 : Int32))] 7 = mkF m 0 #[.val (.ref x0), .val (.int (0 : Int32)), .val (.ref x2), .val (.int (0 : Int32)), .val (.int (3 : Int32)), .unset, .unset] [] := by first | (simp [entryFrame, mkF, argsToLocals, Value.category]; done) | rfl
def Qcl3_3 (Z : State) (a3 : Addr) (kd : ClassId) (c0 c1 c2 : Int32) (h0 : Heap) (n0 : Nat) (v : Option Value) (h : Heap) (L : List Loc) : Prop := v = some (.int (3 : Int32)) ∧ Fr n0 L ∧ Keep h0 h [a3] ∧ Arv Z h a3 kd .byte (3 : Int32) [(.int (own_b8 c0)), (.int (own_b8 c1)), (.int (own_b8 c2))] (.int (0 : Int32))
set_option maxRecDepth 65536 in
set_option maxHeartbeats 40000000 in
theorem rmcl3_3 (l : Launch) (Z : State) (a0 : Array Value) (hw : ∀ d ∈ tables_1, d.before a0 Z = true) (ws : List Jvm.Cond) (a1 a3 : Addr) (kc kd : ClassId) (c0 c1 c2 : Int32) (h0 : Heap) (n0 : Nat) (Z0 : n0 ≤ h0.size) (Vc : Arv Z h0 a1 kc .char (3 : Int32) [(.int c0), (.int c1), (.int c2)] (.int (0 : Int32))) (Vd : Arv Z h0 a3 kd .byte (3 : Int32) [(.int (0 : Int32)), (.int (0 : Int32)), (.int (0 : Int32))] (.int (0 : Int32))) (g_a3 : n0 ≤ a3) (nea : a1 ≠ a3) (hL0 : ¬ ((255 : Int32) < c0)) (hL1 : ¬ ((255 : Int32) < c1)) (hL2 : ¬ ((255 : Int32) < c2)) :
    MetFree l mN_15 (head1 (Jvm.Cond.code mN_15 jdk_52_method_21_code 7 (some .int) :: ws) ({ frames := 0, cells := 0, slots := 0, locals := 0 } : Room)) (fun a U => a = #[(.ref a1), (.int (0 : Int32)), (.ref a3), (.int (0 : Int32)), (.int (3 : Int32))] ∧ Z.Warmed39 U.vm ∧ U.heap = h0) (fun _ _ _ _ _ => True) (fun _ U o U' => ∃ v L, o = .returned v ∧ (Qcl3_3 Z a3 kd c0 c1 c2 h0 n0) v U'.heap L ∧ FrameEnd U o U' L ({ frames := 0, cells := 0, slots := 0, locals := 0 } : Room).cells ({ frames := 0, cells := 0, slots := 0, locals := 0 } : Room).slots) := by
  refine MetFree.of_bodySF (plainFor_of_name pn_2) hisR ?_
  intro p e s m args below meth c s₁ Bd hml0 hP hK
  obtain ⟨rfl, hZ, hh⟩ := hP
  have hx := Bd.exec
  have hby := Bd.bytes
  have hml : c.maxLocals = 7 := hml0
  have hown : s.vm.findClass "java/lang/StringUTF16" = some m.cls := findClass_of_methodNamed Bd.named
  have hnm := (name_of_methodNamed Bd.named Bd.method).1
  have hlk := Bd.notSynchronized
  have X0 : Stand p l e ({ frames := 0, cells := 0, slots := 0, locals := 0 } : Room) s m #[(.ref a1), (.int (0 : Int32)), (.ref a3), (.int (0 : Int32)), (.int (3 : Int32))] below meth c s₁ [] 0 0 := Stand.of_body Bd
  have e0 : s₁.heap = h0 := by rw [← hh, Bd.state]; rfl
  have N0 := Fr.nil n0
  have KK := Keep.refl h0 [a3]
  show own_Ends p e below s FrameEnd (Qcl3_3 Z a3 kd c0 c1 c2 h0 n0) 0 0 (s₁.setTop (entryFrame m #[(.ref a1), (.int (0 : Int32)), (.ref a3), (.int (0 : Int32)), (.int (3 : Int32))] 7))
  refine own_of (U' := (s₁.setTop (mkF m 0 #[.val (.ref a1), .val (.int (0 : Int32)), .val (.ref a3), .val (.int (0 : Int32)), .val (.int (3 : Int32)), .unset, .unset] []))) (fun _ k => castTop (ef_cl3_3 m a1 a3) k) ?_
  refine own_iconst X0 hx hby 0 d8_0 rfl ?_
  refine own_istore X0 hx hby d8_1 (l' := #[.val (.ref a1), .val (.int (0 : Int32)), .val (.ref a3), .val (.int (0 : Int32)), .val (.int (3 : Int32)), .val (.int (0 : Int32)), .unset]) rfl ?_
  refine own_iload X0 hx hby d8_3 rfl ?_
  refine own_iload X0 hx hby d8_5 rfl ?_
  have hc7_191 : (0 : Int32) < (3 : Int32) := by decide
  refine own_icmpNo X0 hx hby d8_7 (tlt hc7_191).2.1 ?_
  refine own_aloadN X0 hx hby d8_10 rfl rfl ?_
  refine own_iloadN X0 hx hby d8_11 rfl ?_
  obtain ⟨cl192, Ar192, qa192, Sa192, Na192, Ha192, Ga192⟩ := id Vc
  have hin192 : ¬ ((0 : Int32) < 0 ∨ cl192.slots.size ≤ ((0 : Int32)).toNatClampNeg) := inb_of Sa192 ⟨by decide, by decide⟩
  have hat192 : cl192.slots[((0 : Int32)).toNatClampNeg]? = some (.int c0) := Has.at Ha192 hin192 rfl
  refine own_of (U' := (s₁.setTop (mkF m 13 #[.val (.ref a1), .val (.int (0 : Int32)), .val (.ref a3), .val (.int (0 : Int32)), .val (.int (3 : Int32)), .val (.int (0 : Int32)), .unset] [(.int c0)]))) (X0.caload hx (j := (0 : Int32)) (v := (.int c0)) (by rw [e0]; exact Ar192.1) (State.isArrayOf_alike hZ.alike Ar192.2.1) Ar192.2.2 hin192 hat192 (g := (mkF m 12 #[.val (.ref a1), .val (.int (0 : Int32)), .val (.ref a3), .val (.int (0 : Int32)), .val (.int (3 : Int32)), .val (.int (0 : Int32)), .unset] [(.int (0 : Int32)), (.ref a1)])) rfl rfl (hb hby d8_12)) ?_
  refine own_istore X0 hx hby d8_13 (l' := #[.val (.ref a1), .val (.int (0 : Int32)), .val (.ref a3), .val (.int (0 : Int32)), .val (.int (3 : Int32)), .val (.int (0 : Int32)), .val (.int c0)]) rfl ?_
  refine own_iload X0 hx hby d8_15 rfl ?_
  refine own_sipush X0 hx hby 255 d8_17 rfl ?_
  have hc20_193 : ¬ ((255 : Int32) < c0) := hL0
  refine own_icmpYes X0 hx hby 20 26 d8_20 (flt hc20_193).2.2.2 (by decide) (by decide) ?_
  refine own_aloadN X0 hx hby d8_26 rfl rfl ?_
  refine own_iloadN X0 hx hby d8_27 rfl ?_
  refine own_iload X0 hx hby d8_28 rfl ?_
  refine own_i2b X0 hx hby d8_30 ?_
  obtain ⟨cl194, Ar194, qa194, Sa194, Na194, Ha194, Ga194⟩ := Vd
  have hin194 : ¬ ((0 : Int32) < 0 ∨ cl194.slots.size ≤ ((0 : Int32)).toNatClampNeg) := inb_of Sa194 ⟨by decide, by decide⟩
  obtain ⟨T194, h194, X194, e194, W194, st194⟩ := stB X0 hx hZ e0 Ar194 (j := (0 : Int32)) hin194 (g := (mkF m 31 #[.val (.ref a1), .val (.int (0 : Int32)), .val (.ref a3), .val (.int (0 : Int32)), .val (.int (3 : Int32)), .val (.int (0 : Int32)), .val (.int c0)] [(.int (c0.toInt8.toInt32)), (.int (0 : Int32)), (.ref a3)])) rfl rfl (hb hby d8_31)
  replace Vd : Arv Z h194 a3 kd .byte (3 : Int32) [(.int (nar .byte (c0.toInt8.toInt32))), (.int (0 : Int32)), (.int (0 : Int32))] (.int (0 : Int32)) := Arv.set Ar194 qa194 Sa194 Na194 Ha194 Ga194 (fits_nar_byte _) W194 0 rfl (Nat.le_of_ble_eq_true rfl)
  replace Z0 := Nat.le_trans Z0 (Keep.of_wr W194).1
  replace Vc := Vc.other W194 nea
  replace KK := KK.wr W194 (Or.inl (List.mem_of_getElem? (i := 0) rfl))
  have N194 := Fr.snoc X194 N0 g_a3
  refine own_of (U' := (T194.setTop (mkF m 32 #[.val (.ref a1), .val (.int (0 : Int32)), .val (.ref a3), .val (.int (0 : Int32)), .val (.int (3 : Int32)), .val (.int (0 : Int32)), .val (.int c0)] []))) (st194) ?_
  refine own_iinc X194 hx hby d8_32 rfl (l' := #[.val (.ref a1), .val (.int ((0 : Int32) + (1 : Int32))), .val (.ref a3), .val (.int (0 : Int32)), .val (.int (3 : Int32)), .val (.int (0 : Int32)), .val (.int c0)]) rfl ?_
  refine own_eq (U' := (T194.setTop (mkF m 35 #[.val (.ref a1), .val (.int (1 : Int32)), .val (.ref a3), .val (.int (0 : Int32)), .val (.int (3 : Int32)), .val (.int (0 : Int32)), .val (.int c0)] []))) (by rw [show ((0 : Int32) + (1 : Int32)) = (1 : Int32) by decide]) ?_
  refine own_iinc X194 hx hby d8_35 rfl (l' := #[.val (.ref a1), .val (.int (1 : Int32)), .val (.ref a3), .val (.int ((0 : Int32) + (1 : Int32))), .val (.int (3 : Int32)), .val (.int (0 : Int32)), .val (.int c0)]) rfl ?_
  refine own_eq (U' := (T194.setTop (mkF m 38 #[.val (.ref a1), .val (.int (1 : Int32)), .val (.ref a3), .val (.int (1 : Int32)), .val (.int (3 : Int32)), .val (.int (0 : Int32)), .val (.int c0)] []))) (by rw [show ((0 : Int32) + (1 : Int32)) = (1 : Int32) by decide]) ?_
  refine own_iinc X194 hx hby d8_38 rfl (l' := #[.val (.ref a1), .val (.int (1 : Int32)), .val (.ref a3), .val (.int (1 : Int32)), .val (.int (3 : Int32)), .val (.int ((0 : Int32) + (1 : Int32))), .val (.int c0)]) rfl ?_
  refine own_eq (U' := (T194.setTop (mkF m 41 #[.val (.ref a1), .val (.int (1 : Int32)), .val (.ref a3), .val (.int (1 : Int32)), .val (.int (3 : Int32)), .val (.int (1 : Int32)), .val (.int c0)] []))) (by rw [show ((0 : Int32) + (1 : Int32)) = (1 : Int32) by decide]) ?_
  refine own_goto X194 hx hby 41 3 d8_41 (by decide) (by decide) ?_
  refine own_iload X194 hx hby d8_3 rfl ?_
  refine own_iload X194 hx hby d8_5 rfl ?_
  have hc7_195 : (1 : Int32) < (3 : Int32) := by decide
  refine own_icmpNo X194 hx hby d8_7 (tlt hc7_195).2.1 ?_
  refine own_aloadN X194 hx hby d8_10 rfl rfl ?_
  refine own_iloadN X194 hx hby d8_11 rfl ?_
  obtain ⟨cl196, Ar196, qa196, Sa196, Na196, Ha196, Ga196⟩ := id Vc
  have hin196 : ¬ ((1 : Int32) < 0 ∨ cl196.slots.size ≤ ((1 : Int32)).toNatClampNeg) := inb_of Sa196 ⟨by decide, by decide⟩
  have hat196 : cl196.slots[((1 : Int32)).toNatClampNeg]? = some (.int c1) := Has.at Ha196 hin196 rfl
  refine own_of (U' := (T194.setTop (mkF m 13 #[.val (.ref a1), .val (.int (1 : Int32)), .val (.ref a3), .val (.int (1 : Int32)), .val (.int (3 : Int32)), .val (.int (1 : Int32)), .val (.int c0)] [(.int c1)]))) (X194.caload hx (j := (1 : Int32)) (v := (.int c1)) (by rw [e194]; exact Ar196.1) (State.isArrayOf_alike hZ.alike Ar196.2.1) Ar196.2.2 hin196 hat196 (g := (mkF m 12 #[.val (.ref a1), .val (.int (1 : Int32)), .val (.ref a3), .val (.int (1 : Int32)), .val (.int (3 : Int32)), .val (.int (1 : Int32)), .val (.int c0)] [(.int (1 : Int32)), (.ref a1)])) rfl rfl (hb hby d8_12)) ?_
  refine own_istore X194 hx hby d8_13 (l' := #[.val (.ref a1), .val (.int (1 : Int32)), .val (.ref a3), .val (.int (1 : Int32)), .val (.int (3 : Int32)), .val (.int (1 : Int32)), .val (.int c1)]) rfl ?_
  refine own_iload X194 hx hby d8_15 rfl ?_
  refine own_sipush X194 hx hby 255 d8_17 rfl ?_
  have hc20_197 : ¬ ((255 : Int32) < c1) := hL1
  refine own_icmpYes X194 hx hby 20 26 d8_20 (flt hc20_197).2.2.2 (by decide) (by decide) ?_
  refine own_aloadN X194 hx hby d8_26 rfl rfl ?_
  refine own_iloadN X194 hx hby d8_27 rfl ?_
  refine own_iload X194 hx hby d8_28 rfl ?_
  refine own_i2b X194 hx hby d8_30 ?_
  obtain ⟨cl198, Ar198, qa198, Sa198, Na198, Ha198, Ga198⟩ := Vd
  have hin198 : ¬ ((1 : Int32) < 0 ∨ cl198.slots.size ≤ ((1 : Int32)).toNatClampNeg) := inb_of Sa198 ⟨by decide, by decide⟩
  obtain ⟨T198, h198, X198, e198, W198, st198⟩ := stB X194 hx hZ e194 Ar198 (j := (1 : Int32)) hin198 (g := (mkF m 31 #[.val (.ref a1), .val (.int (1 : Int32)), .val (.ref a3), .val (.int (1 : Int32)), .val (.int (3 : Int32)), .val (.int (1 : Int32)), .val (.int c1)] [(.int (c1.toInt8.toInt32)), (.int (1 : Int32)), (.ref a3)])) rfl rfl (hb hby d8_31)
  replace Vd : Arv Z h198 a3 kd .byte (3 : Int32) [(.int (nar .byte (c0.toInt8.toInt32))), (.int (nar .byte (c1.toInt8.toInt32))), (.int (0 : Int32))] (.int (0 : Int32)) := Arv.set Ar198 qa198 Sa198 Na198 Ha198 Ga198 (fits_nar_byte _) W198 1 rfl (Nat.le_of_ble_eq_true rfl)
  replace Z0 := Nat.le_trans Z0 (Keep.of_wr W198).1
  replace Vc := Vc.other W198 nea
  replace KK := KK.wr W198 (Or.inl (List.mem_of_getElem? (i := 0) rfl))
  have N198 := Fr.snoc X198 N194 g_a3
  refine own_of (U' := (T198.setTop (mkF m 32 #[.val (.ref a1), .val (.int (1 : Int32)), .val (.ref a3), .val (.int (1 : Int32)), .val (.int (3 : Int32)), .val (.int (1 : Int32)), .val (.int c1)] []))) (st198) ?_
  refine own_iinc X198 hx hby d8_32 rfl (l' := #[.val (.ref a1), .val (.int ((1 : Int32) + (1 : Int32))), .val (.ref a3), .val (.int (1 : Int32)), .val (.int (3 : Int32)), .val (.int (1 : Int32)), .val (.int c1)]) rfl ?_
  refine own_eq (U' := (T198.setTop (mkF m 35 #[.val (.ref a1), .val (.int (2 : Int32)), .val (.ref a3), .val (.int (1 : Int32)), .val (.int (3 : Int32)), .val (.int (1 : Int32)), .val (.int c1)] []))) (by rw [show ((1 : Int32) + (1 : Int32)) = (2 : Int32) by decide]) ?_
  refine own_iinc X198 hx hby d8_35 rfl (l' := #[.val (.ref a1), .val (.int (2 : Int32)), .val (.ref a3), .val (.int ((1 : Int32) + (1 : Int32))), .val (.int (3 : Int32)), .val (.int (1 : Int32)), .val (.int c1)]) rfl ?_
  refine own_eq (U' := (T198.setTop (mkF m 38 #[.val (.ref a1), .val (.int (2 : Int32)), .val (.ref a3), .val (.int (2 : Int32)), .val (.int (3 : Int32)), .val (.int (1 : Int32)), .val (.int c1)] []))) (by rw [show ((1 : Int32) + (1 : Int32)) = (2 : Int32) by decide]) ?_
  refine own_iinc X198 hx hby d8_38 rfl (l' := #[.val (.ref a1), .val (.int (2 : Int32)), .val (.ref a3), .val (.int (2 : Int32)), .val (.int (3 : Int32)), .val (.int ((1 : Int32) + (1 : Int32))), .val (.int c1)]) rfl ?_
  refine own_eq (U' := (T198.setTop (mkF m 41 #[.val (.ref a1), .val (.int (2 : Int32)), .val (.ref a3), .val (.int (2 : Int32)), .val (.int (3 : Int32)), .val (.int (2 : Int32)), .val (.int c1)] []))) (by rw [show ((1 : Int32) + (1 : Int32)) = (2 : Int32) by decide]) ?_
  refine own_goto X198 hx hby 41 3 d8_41 (by decide) (by decide) ?_
  refine own_iload X198 hx hby d8_3 rfl ?_
  refine own_iload X198 hx hby d8_5 rfl ?_
  have hc7_199 : (2 : Int32) < (3 : Int32) := by decide
  refine own_icmpNo X198 hx hby d8_7 (tlt hc7_199).2.1 ?_
  refine own_aloadN X198 hx hby d8_10 rfl rfl ?_
  refine own_iloadN X198 hx hby d8_11 rfl ?_
  obtain ⟨cl200, Ar200, qa200, Sa200, Na200, Ha200, Ga200⟩ := id Vc
  have hin200 : ¬ ((2 : Int32) < 0 ∨ cl200.slots.size ≤ ((2 : Int32)).toNatClampNeg) := inb_of Sa200 ⟨by decide, by decide⟩
  have hat200 : cl200.slots[((2 : Int32)).toNatClampNeg]? = some (.int c2) := Has.at Ha200 hin200 rfl
  refine own_of (U' := (T198.setTop (mkF m 13 #[.val (.ref a1), .val (.int (2 : Int32)), .val (.ref a3), .val (.int (2 : Int32)), .val (.int (3 : Int32)), .val (.int (2 : Int32)), .val (.int c1)] [(.int c2)]))) (X198.caload hx (j := (2 : Int32)) (v := (.int c2)) (by rw [e198]; exact Ar200.1) (State.isArrayOf_alike hZ.alike Ar200.2.1) Ar200.2.2 hin200 hat200 (g := (mkF m 12 #[.val (.ref a1), .val (.int (2 : Int32)), .val (.ref a3), .val (.int (2 : Int32)), .val (.int (3 : Int32)), .val (.int (2 : Int32)), .val (.int c1)] [(.int (2 : Int32)), (.ref a1)])) rfl rfl (hb hby d8_12)) ?_
  refine own_istore X198 hx hby d8_13 (l' := #[.val (.ref a1), .val (.int (2 : Int32)), .val (.ref a3), .val (.int (2 : Int32)), .val (.int (3 : Int32)), .val (.int (2 : Int32)), .val (.int c2)]) rfl ?_
  refine own_iload X198 hx hby d8_15 rfl ?_
  refine own_sipush X198 hx hby 255 d8_17 rfl ?_
  have hc20_201 : ¬ ((255 : Int32) < c2) := hL2
  refine own_icmpYes X198 hx hby 20 26 d8_20 (flt hc20_201).2.2.2 (by decide) (by decide) ?_
  refine own_aloadN X198 hx hby d8_26 rfl rfl ?_
  refine own_iloadN X198 hx hby d8_27 rfl ?_
  refine own_iload X198 hx hby d8_28 rfl ?_
  refine own_i2b X198 hx hby d8_30 ?_
  obtain ⟨cl202, Ar202, qa202, Sa202, Na202, Ha202, Ga202⟩ := Vd
  have hin202 : ¬ ((2 : Int32) < 0 ∨ cl202.slots.size ≤ ((2 : Int32)).toNatClampNeg) := inb_of Sa202 ⟨by decide, by decide⟩
  obtain ⟨T202, h202, X202, e202, W202, st202⟩ := stB X198 hx hZ e198 Ar202 (j := (2 : Int32)) hin202 (g := (mkF m 31 #[.val (.ref a1), .val (.int (2 : Int32)), .val (.ref a3), .val (.int (2 : Int32)), .val (.int (3 : Int32)), .val (.int (2 : Int32)), .val (.int c2)] [(.int (c2.toInt8.toInt32)), (.int (2 : Int32)), (.ref a3)])) rfl rfl (hb hby d8_31)
  replace Vd : Arv Z h202 a3 kd .byte (3 : Int32) [(.int (nar .byte (c0.toInt8.toInt32))), (.int (nar .byte (c1.toInt8.toInt32))), (.int (nar .byte (c2.toInt8.toInt32)))] (.int (0 : Int32)) := Arv.set Ar202 qa202 Sa202 Na202 Ha202 Ga202 (fits_nar_byte _) W202 2 rfl (Nat.le_of_ble_eq_true rfl)
  replace Z0 := Nat.le_trans Z0 (Keep.of_wr W202).1
  replace Vc := Vc.other W202 nea
  replace KK := KK.wr W202 (Or.inl (List.mem_of_getElem? (i := 0) rfl))
  have N202 := Fr.snoc X202 N198 g_a3
  refine own_of (U' := (T202.setTop (mkF m 32 #[.val (.ref a1), .val (.int (2 : Int32)), .val (.ref a3), .val (.int (2 : Int32)), .val (.int (3 : Int32)), .val (.int (2 : Int32)), .val (.int c2)] []))) (st202) ?_
  refine own_iinc X202 hx hby d8_32 rfl (l' := #[.val (.ref a1), .val (.int ((2 : Int32) + (1 : Int32))), .val (.ref a3), .val (.int (2 : Int32)), .val (.int (3 : Int32)), .val (.int (2 : Int32)), .val (.int c2)]) rfl ?_
  refine own_eq (U' := (T202.setTop (mkF m 35 #[.val (.ref a1), .val (.int (3 : Int32)), .val (.ref a3), .val (.int (2 : Int32)), .val (.int (3 : Int32)), .val (.int (2 : Int32)), .val (.int c2)] []))) (by rw [show ((2 : Int32) + (1 : Int32)) = (3 : Int32) by decide]) ?_
  refine own_iinc X202 hx hby d8_35 rfl (l' := #[.val (.ref a1), .val (.int (3 : Int32)), .val (.ref a3), .val (.int ((2 : Int32) + (1 : Int32))), .val (.int (3 : Int32)), .val (.int (2 : Int32)), .val (.int c2)]) rfl ?_
  refine own_eq (U' := (T202.setTop (mkF m 38 #[.val (.ref a1), .val (.int (3 : Int32)), .val (.ref a3), .val (.int (3 : Int32)), .val (.int (3 : Int32)), .val (.int (2 : Int32)), .val (.int c2)] []))) (by rw [show ((2 : Int32) + (1 : Int32)) = (3 : Int32) by decide]) ?_
  refine own_iinc X202 hx hby d8_38 rfl (l' := #[.val (.ref a1), .val (.int (3 : Int32)), .val (.ref a3), .val (.int (3 : Int32)), .val (.int (3 : Int32)), .val (.int ((2 : Int32) + (1 : Int32))), .val (.int c2)]) rfl ?_
  refine own_eq (U' := (T202.setTop (mkF m 41 #[.val (.ref a1), .val (.int (3 : Int32)), .val (.ref a3), .val (.int (3 : Int32)), .val (.int (3 : Int32)), .val (.int (3 : Int32)), .val (.int c2)] []))) (by rw [show ((2 : Int32) + (1 : Int32)) = (3 : Int32) by decide]) ?_
  refine own_goto X202 hx hby 41 3 d8_41 (by decide) (by decide) ?_
  refine own_iload X202 hx hby d8_3 rfl ?_
  refine own_iload X202 hx hby d8_5 rfl ?_
  have hc7_203 : ¬ ((3 : Int32) < (3 : Int32)) := by decide
  refine own_icmpYes X202 hx hby 7 44 d8_7 (flt hc7_203).2.1 (by decide) (by decide) ?_
  refine own_iload X202 hx hby d8_44 rfl ?_
  exact own_retI X202 hx hlk Bd.returns (hb hby d8_46) (by decide) (by decide) (by rw [e202]; exact ⟨rfl, N202, KK, Vd⟩)
def Qclb3 (a3 : Addr) (c0 c1 c2 : Int32) (h0 : Heap) (n0 : Nat) (v : Option Value) (h : Heap) (L : List Loc) : Prop := ∃ r : Int32, v = some (.int r) ∧ Fr n0 L ∧ Keep h0 h [a3] ∧ ¬ (r = (3 : Int32)) ∧ (¬ ((r <<< ((1 : Int32) &&& 31)) < (0 : Int32))) ∧ ((r <<< ((1 : Int32) &&& 31)) < (6 : Int32)) ∧ (¬ (((r <<< ((1 : Int32) &&& 31)) + (1 : Int32)) < (0 : Int32))) ∧ (((r <<< ((1 : Int32) &&& 31)) + (1 : Int32)) < (6 : Int32)) ∧ (255 : Int32) < own_chu [(own_lo8 c0), (own_hi8 c0), (own_lo8 c1), (own_hi8 c1), (own_lo8 c2), (own_hi8 c2)] r
theorem rmclb3 (l : Launch) (Z : State) (a0 : Array Value) (hw : ∀ d ∈ tables_1, d.before a0 Z = true) (ws : List Jvm.Cond) (a1 a3 : Addr) (kc kd : ClassId) (c0 c1 c2 : Int32) (h0 : Heap) (n0 : Nat) (Z0 : n0 ≤ h0.size) (Vc : Arv Z h0 a1 kc .char (3 : Int32) [(.int c0), (.int c1), (.int c2)] (.int (0 : Int32))) (Vd : Arv Z h0 a3 kd .byte (3 : Int32) [(.int (0 : Int32)), (.int (0 : Int32)), (.int (0 : Int32))] (.int (0 : Int32))) (g_a3 : n0 ≤ a3) (nea : a1 ≠ a3) (hb0 : 0 ≤ c0.toInt ∧ c0.toInt < 65536) (hb1 : 0 ≤ c1.toInt ∧ c1.toInt < 65536) (hb2 : 0 ≤ c2.toInt ∧ c2.toInt < 65536) (big : ((255 : Int32) < c0) ∨ ((255 : Int32) < c1) ∨ ((255 : Int32) < c2)) :
    MetFree l mN_15 (head1 (Jvm.Cond.code mN_15 jdk_52_method_21_code 7 (some .int) :: ws) ({ frames := 0, cells := 0, slots := 0, locals := 0 } : Room)) (fun a U => a = #[(.ref a1), (.int (0 : Int32)), (.ref a3), (.int (0 : Int32)), (.int (3 : Int32))] ∧ Z.Warmed39 U.vm ∧ U.heap = h0) (fun _ _ _ _ _ => True) (fun _ U o U' => ∃ v L, o = .returned v ∧ (Qclb3 a3 c0 c1 c2 h0 n0) v U'.heap L ∧ FrameEnd U o U' L ({ frames := 0, cells := 0, slots := 0, locals := 0 } : Room).cells ({ frames := 0, cells := 0, slots := 0, locals := 0 } : Room).slots) := by
  by_cases qB0 : (255 : Int32) < c0
  · exact own_mono (rmcl3_0 l Z a0 hw ws a1 a3 kc kd c0 c1 c2 h0 n0 Z0 Vc Vd g_a3 nea  qB0) (fun _ _ _ _ ⟨v, L, h1, ⟨q1, q2, q3, _⟩, h3⟩ => ⟨v, L, h1, ⟨(0 : Int32), q1, q2, q3, by decide, by decide, by decide, by decide, by decide, by rw [show own_chu [(own_lo8 c0), (own_hi8 c0), (own_lo8 c1), (own_hi8 c1), (own_lo8 c2), (own_hi8 c2)] (0 : Int32) = c0 from own_gc_eq hb0]; exact qB0⟩, h3⟩)
  by_cases qB1 : (255 : Int32) < c1
  · exact own_mono (rmcl3_1 l Z a0 hw ws a1 a3 kc kd c0 c1 c2 h0 n0 Z0 Vc Vd g_a3 nea qB0 qB1) (fun _ _ _ _ ⟨v, L, h1, ⟨q1, q2, q3, _⟩, h3⟩ => ⟨v, L, h1, ⟨(1 : Int32), q1, q2, q3, by decide, by decide, by decide, by decide, by decide, by rw [show own_chu [(own_lo8 c0), (own_hi8 c0), (own_lo8 c1), (own_hi8 c1), (own_lo8 c2), (own_hi8 c2)] (1 : Int32) = c1 from own_gc_eq hb1]; exact qB1⟩, h3⟩)
  by_cases qB2 : (255 : Int32) < c2
  · exact own_mono (rmcl3_2 l Z a0 hw ws a1 a3 kc kd c0 c1 c2 h0 n0 Z0 Vc Vd g_a3 nea qB0 qB1 qB2) (fun _ _ _ _ ⟨v, L, h1, ⟨q1, q2, q3, _⟩, h3⟩ => ⟨v, L, h1, ⟨(2 : Int32), q1, q2, q3, by decide, by decide, by decide, by decide, by decide, by rw [show own_chu [(own_lo8 c0), (own_hi8 c0), (own_lo8 c1), (own_hi8 c1), (own_lo8 c2), (own_hi8 c2)] (2 : Int32) = c2 from own_gc_eq hb2]; exact qB2⟩, h3⟩)
  exact absurd big (by simp [qB0, qB1, qB2])
theorem ef_cl3 (m : MethodId) (x0 : Addr) : entryFrame m #[(.ref x0), (.int (0 : Int32)), (.int (3 : Int32))] 6 = mkF m 0 #[.val (.ref x0), .val (.int (0 : Int32)), .val (.int (3 : Int32)), .unset, .unset, .unset] [] := by first | (simp [entryFrame, mkF, argsToLocals, Value.category]; done) | rfl
def Qcl3 (Z : State) (c0 c1 c2 : Int32) (h0 : Heap) (n0 : Nat) (v : Option Value) (h : Heap) (L : List Loc) : Prop := ∃ (b : Addr) (kb : ClassId), v = some (.ref b) ∧ Fr n0 L ∧ Keep h0 h [] ∧ h0.size ≤ b ∧ Arv Z h b kb .byte (3 : Int32) [(.int (own_b8 c0)), (.int (own_b8 c1)), (.int (own_b8 c2))] (.int (0 : Int32))
set_option maxRecDepth 65536 in
set_option maxHeartbeats 40000000 in
theorem rmcl3 (l : Launch) (Z : State) (a0 : Array Value) (hw : ∀ d ∈ tables_1, d.before a0 Z = true) (ws : List Jvm.Cond) (a1 : Addr) (kc : ClassId) (c0 c1 c2 : Int32) (h0 : Heap) (n0 : Nat) (Z0 : n0 ≤ h0.size) (Vc : Arv Z h0 a1 kc .char (3 : Int32) [(.int c0), (.int c1), (.int c2)] (.int (0 : Int32))) (hb0 : 0 ≤ c0.toInt ∧ c0.toInt < 65536) (hb1 : 0 ≤ c1.toInt ∧ c1.toInt < 65536) (hb2 : 0 ≤ c2.toInt ∧ c2.toInt < 65536) (SA : Sta Z h0 "java/lang/StringUTF16" "$assertionsDisabled" "Z" (.int (1 : Int32))) (SHI : Sta Z h0 "java/lang/StringUTF16" "HI_BYTE_SHIFT" "I" (.int (0 : Int32))) (SLO : Sta Z h0 "java/lang/StringUTF16" "LO_BYTE_SHIFT" "I" (.int (8 : Int32))) (hL0 : ¬ ((255 : Int32) < c0)) (hL1 : ¬ ((255 : Int32) < c1)) (hL2 : ¬ ((255 : Int32) < c2)) :
    MetFree l mN_16 (head1 (Jvm.Cond.code mN_16 jdk_52_method_16_code 6 (some (.array .byte)) :: ws) ({ frames := 1, cells := 1, slots := 3, locals := 18 } : Room)) (fun a U => a = #[(.ref a1), (.int (0 : Int32)), (.int (3 : Int32))] ∧ Z.Warmed39 U.vm ∧ U.heap = h0) (fun _ _ _ _ _ => True) (fun _ U o U' => ∃ v L, o = .returned v ∧ (Qcl3 Z c0 c1 c2 h0 n0) v U'.heap L ∧ FrameEnd U o U' L ({ frames := 1, cells := 1, slots := 3, locals := 18 } : Room).cells ({ frames := 1, cells := 1, slots := 3, locals := 18 } : Room).slots) := by
  refine MetFree.of_bodySF (plainFor_of_name pn_2) hisR ?_
  intro p e s m args below meth c s₁ Bd hml0 hP hK
  obtain ⟨rfl, hZ, hh⟩ := hP
  have hx := Bd.exec
  have hby := Bd.bytes
  have hml : c.maxLocals = 6 := hml0
  have hown : s.vm.findClass "java/lang/StringUTF16" = some m.cls := findClass_of_methodNamed Bd.named
  have hnm := (name_of_methodNamed Bd.named Bd.method).1
  have hlk := Bd.notSynchronized
  have X0 : Stand p l e ({ frames := 1, cells := 1, slots := 3, locals := 18 } : Room) s m #[(.ref a1), (.int (0 : Int32)), (.int (3 : Int32))] below meth c s₁ [] 0 0 := Stand.of_body Bd
  have e0 : s₁.heap = h0 := by rw [← hh, Bd.state]; rfl
  have N0 := Fr.nil n0
  have KK := Keep.refl h0 []
  show own_Ends p e below s FrameEnd (Qcl3 Z c0 c1 c2 h0 n0) 1 3 (s₁.setTop (entryFrame m #[(.ref a1), (.int (0 : Int32)), (.int (3 : Int32))] 6))
  refine own_of (U' := (s₁.setTop (mkF m 0 #[.val (.ref a1), .val (.int (0 : Int32)), .val (.int (3 : Int32)), .unset, .unset, .unset] []))) (fun _ k => castTop (ef_cl3 m a1) k) ?_
  refine own_iloadN X0 hx hby d7_0 rfl ?_
  obtain ⟨T204, h204, k204, X204, e204, E204, A204, st204⟩ := newP X0 hx hZ (own_w hw 15 rfl) e0 (g := (mkF m 1 #[.val (.ref a1), .val (.int (0 : Int32)), .val (.int (3 : Int32)), .unset, .unset, .unset] [(.int (3 : Int32))])) rfl (hb hby d7_1) rfl (by decide) (cap := 3) (by decide) (by decide) (by decide) (by decide)
  obtain ⟨b204, gz204⟩ : ∃ z, z = h0.size := ⟨_, rfl⟩
  rw [← gz204] at A204 st204
  have g_b204 : n0 ≤ b204 := Nat.le_trans Z0 (Nat.le_of_eq gz204.symm)
  have sz_b204 : h0.size ≤ b204 := Nat.le_trans KK.1 (Nat.le_of_eq gz204.symm)
  have ne_a1_b204 : a1 ≠ b204 := Nat.ne_of_lt (Nat.lt_of_lt_of_le Vc.lt (Nat.le_of_eq gz204.symm))
  replace Z0 := Nat.le_trans Z0 E204.1
  replace Vc := Vc.ext E204
  replace SA := SA.ext E204
  replace SHI := SHI.ext E204
  replace SLO := SLO.ext E204
  replace KK := KK.ext E204
  have V204 : Arv Z h204 b204 k204 .byte (3 : Int32) [(.int (0 : Int32)), (.int (0 : Int32)), (.int (0 : Int32))] (.int (0 : Int32)) := (Arv.new A204 (by decide)).pad (pad_rep [] (.int (0 : Int32)) 3)
  refine own_of (U' := (T204.setTop (mkF m 3 #[.val (.ref a1), .val (.int (0 : Int32)), .val (.int (3 : Int32)), .unset, .unset, .unset] [(.ref b204)]))) (st204) ?_
  refine own_astoreN X204 hx hby d7_3 rfl (l' := #[.val (.ref a1), .val (.int (0 : Int32)), .val (.int (3 : Int32)), .val (.ref b204), .unset, .unset]) rfl ?_
  refine own_aloadN X204 hx hby d7_4 rfl rfl ?_
  refine own_iloadN X204 hx hby d7_5 rfl ?_
  refine own_aloadN X204 hx hby d7_6 rfl rfl ?_
  refine own_iconst X204 hx hby 0 d7_7 rfl ?_
  refine own_iloadN X204 hx hby d7_8 rfl ?_
  obtain ⟨_, _, ⟨T205, L205, k205, n205⟩, -, X205, ⟨Lc205, hQ205, l205, y205, z205⟩, st205⟩ := Jvm.LawKit.callS X204 hx (y := mN_15) hown (mvT hZ (own_w hw 41 rfl)) (mvT hZ (own_w hw 42 rfl)) (mvT hZ (own_w hw 39 rfl)) (mvT hZ (own_w hw 43 rfl)) (by decide) (backOf (W := 0) (rmcl3_3 l Z a0 hw [] a1 b204 kc k204 c0 c1 c2 h204 n0 Z0 Vc V204 g_b204 ne_a1_b204 hL0 hL1 hL2) hZ (own_w hw 43 rfl) (own_w hw 39 rfl) (by decide) (by decide)) (g := (mkF m 9 #[.val (.ref a1), .val (.int (0 : Int32)), .val (.int (3 : Int32)), .val (.ref b204), .unset, .unset] [(.int (3 : Int32)), (.int (0 : Int32)), (.ref b204), (.int (0 : Int32)), (.ref a1)])) rfl (by rw [hml]; rfl) (argsL := [(.ref a1), (.int (0 : Int32)), (.ref b204), (.int (0 : Int32)), (.int (3 : Int32))]) (rest := []) (lenOf pd_10 rfl) rfl (by show 2 * 0 + _ ≤ _; exact Nat.le_of_eq rfl) (hb hby d7_9) (fun _ _ => ⟨rfl, e204, (by decide : 1 + 0 ≤ _), (by decide : 3 + 0 ≤ _)⟩)
  dsimp only [Pt.U, Pt.locs, Pt.cells, Pt.slots] at X205 l205 y205 z205 st205 hQ205
  subst l205 y205 z205
  obtain ⟨rfl, Nq205, Kp205, Vq205⟩ := hQ205
  have N205 := Fr.app N0 Nq205
  have nst_b204 := V204.nostat
  replace Z0 := Nat.le_trans Z0 Kp205.1
  replace Vc := Vc.keep Kp205 (ninS ne_a1_b204 nin0)
  replace SA := own_staKeep SA Kp205 (nsS nst_b204 ns0)
  replace SHI := own_staKeep SHI Kp205 (nsS nst_b204 ns0)
  replace SLO := own_staKeep SLO Kp205 (nsS nst_b204 ns0)
  replace KK := KK.trans Kp205 (allS (Or.inr sz_b204) all0)
  refine own_of (U' := (T205.setTop (mkF m 12 #[.val (.ref a1), .val (.int (0 : Int32)), .val (.int (3 : Int32)), .val (.ref b204), .unset, .unset] [(.int (3 : Int32))]))) (st205) ?_
  refine own_istore X205 hx hby d7_12 (l' := #[.val (.ref a1), .val (.int (0 : Int32)), .val (.int (3 : Int32)), .val (.ref b204), .val (.int (3 : Int32)), .unset]) rfl ?_
  refine own_iload X205 hx hby d7_14 rfl ?_
  refine own_iloadN X205 hx hby d7_16 rfl ?_
  have hc17_206 : (3 : Int32) = (3 : Int32) := by decide
  refine own_icmpYes X205 hx hby 17 57 d7_17 (teq hc17_206).1 (by decide) (by decide) ?_
  refine own_aloadN X205 hx hby d7_57 rfl rfl ?_
  exact own_retA X205 hx hlk Bd.returns rfl rfl (hb hby d7_58) (by decide) (by decide) (⟨b204, k204, rfl, N205, KK, sz_b204, Vq205⟩)
theorem ef_cb3 (m : MethodId) (x0 : Addr) : entryFrame m #[(.ref x0), (.int (0 : Int32)), (.int (3 : Int32))] 6 = mkF m 0 #[.val (.ref x0), .val (.int (0 : Int32)), .val (.int (3 : Int32)), .unset, .unset, .unset] [] := by first | (simp [entryFrame, mkF, argsToLocals, Value.category]; done) | rfl
def Qcb3 (Z : State) (c0 c1 c2 : Int32) (h0 : Heap) (n0 : Nat) (v : Option Value) (h : Heap) (L : List Loc) : Prop := ∃ (b : Addr) (kb : ClassId), v = some (.ref b) ∧ Fr n0 L ∧ Keep h0 h [] ∧ h0.size ≤ b ∧ Arv Z h b kb .byte (6 : Int32) [(.int (own_lo8 c0)), (.int (own_hi8 c0)), (.int (own_lo8 c1)), (.int (own_hi8 c1)), (.int (own_lo8 c2)), (.int (own_hi8 c2))] (.int (0 : Int32))
set_option maxRecDepth 65536 in
set_option maxHeartbeats 40000000 in
theorem rmcb3 (l : Launch) (Z : State) (a0 : Array Value) (hw : ∀ d ∈ tables_1, d.before a0 Z = true) (ws : List Jvm.Cond) (a1 : Addr) (kc : ClassId) (c0 c1 c2 : Int32) (h0 : Heap) (n0 : Nat) (Z0 : n0 ≤ h0.size) (Vc : Arv Z h0 a1 kc .char (3 : Int32) [(.int c0), (.int c1), (.int c2)] (.int (0 : Int32))) (hb0 : 0 ≤ c0.toInt ∧ c0.toInt < 65536) (hb1 : 0 ≤ c1.toInt ∧ c1.toInt < 65536) (hb2 : 0 ≤ c2.toInt ∧ c2.toInt < 65536) (SA : Sta Z h0 "java/lang/StringUTF16" "$assertionsDisabled" "Z" (.int (1 : Int32))) (SHI : Sta Z h0 "java/lang/StringUTF16" "HI_BYTE_SHIFT" "I" (.int (0 : Int32))) (SLO : Sta Z h0 "java/lang/StringUTF16" "LO_BYTE_SHIFT" "I" (.int (8 : Int32))) (big : ((255 : Int32) < c0) ∨ ((255 : Int32) < c1) ∨ ((255 : Int32) < c2)) :
    MetFree l mN_16 (head1 (Jvm.Cond.code mN_16 jdk_52_method_16_code 6 (some (.array .byte)) :: ws) ({ frames := 3, cells := 2, slots := 9, locals := 40 } : Room)) (fun a U => a = #[(.ref a1), (.int (0 : Int32)), (.int (3 : Int32))] ∧ Z.Warmed39 U.vm ∧ U.heap = h0) (fun _ _ _ _ _ => True) (fun _ U o U' => ∃ v L, o = .returned v ∧ (Qcb3 Z c0 c1 c2 h0 n0) v U'.heap L ∧ FrameEnd U o U' L ({ frames := 3, cells := 2, slots := 9, locals := 40 } : Room).cells ({ frames := 3, cells := 2, slots := 9, locals := 40 } : Room).slots) := by
  refine MetFree.of_bodySF (plainFor_of_name pn_2) hisR ?_
  intro p e s m args below meth c s₁ Bd hml0 hP hK
  obtain ⟨rfl, hZ, hh⟩ := hP
  have hx := Bd.exec
  have hby := Bd.bytes
  have hml : c.maxLocals = 6 := hml0
  have hown : s.vm.findClass "java/lang/StringUTF16" = some m.cls := findClass_of_methodNamed Bd.named
  have hnm := (name_of_methodNamed Bd.named Bd.method).1
  have hlk := Bd.notSynchronized
  have X0 : Stand p l e ({ frames := 3, cells := 2, slots := 9, locals := 40 } : Room) s m #[(.ref a1), (.int (0 : Int32)), (.int (3 : Int32))] below meth c s₁ [] 0 0 := Stand.of_body Bd
  have e0 : s₁.heap = h0 := by rw [← hh, Bd.state]; rfl
  have N0 := Fr.nil n0
  have KK := Keep.refl h0 []
  show own_Ends p e below s FrameEnd (Qcb3 Z c0 c1 c2 h0 n0) 2 9 (s₁.setTop (entryFrame m #[(.ref a1), (.int (0 : Int32)), (.int (3 : Int32))] 6))
  refine own_of (U' := (s₁.setTop (mkF m 0 #[.val (.ref a1), .val (.int (0 : Int32)), .val (.int (3 : Int32)), .unset, .unset, .unset] []))) (fun _ k => castTop (ef_cb3 m a1) k) ?_
  refine own_iloadN X0 hx hby d7_0 rfl ?_
  obtain ⟨T207, h207, k207, X207, e207, E207, A207, st207⟩ := newP X0 hx hZ (own_w hw 15 rfl) e0 (g := (mkF m 1 #[.val (.ref a1), .val (.int (0 : Int32)), .val (.int (3 : Int32)), .unset, .unset, .unset] [(.int (3 : Int32))])) rfl (hb hby d7_1) rfl (by decide) (cap := 3) (by decide) (by decide) (by decide) (by decide)
  obtain ⟨b207, gz207⟩ : ∃ z, z = h0.size := ⟨_, rfl⟩
  rw [← gz207] at A207 st207
  have g_b207 : n0 ≤ b207 := Nat.le_trans Z0 (Nat.le_of_eq gz207.symm)
  have sz_b207 : h0.size ≤ b207 := Nat.le_trans KK.1 (Nat.le_of_eq gz207.symm)
  have ne_a1_b207 : a1 ≠ b207 := Nat.ne_of_lt (Nat.lt_of_lt_of_le Vc.lt (Nat.le_of_eq gz207.symm))
  replace Z0 := Nat.le_trans Z0 E207.1
  replace Vc := Vc.ext E207
  replace SA := SA.ext E207
  replace SHI := SHI.ext E207
  replace SLO := SLO.ext E207
  replace KK := KK.ext E207
  have V207 : Arv Z h207 b207 k207 .byte (3 : Int32) [(.int (0 : Int32)), (.int (0 : Int32)), (.int (0 : Int32))] (.int (0 : Int32)) := (Arv.new A207 (by decide)).pad (pad_rep [] (.int (0 : Int32)) 3)
  refine own_of (U' := (T207.setTop (mkF m 3 #[.val (.ref a1), .val (.int (0 : Int32)), .val (.int (3 : Int32)), .unset, .unset, .unset] [(.ref b207)]))) (st207) ?_
  refine own_astoreN X207 hx hby d7_3 rfl (l' := #[.val (.ref a1), .val (.int (0 : Int32)), .val (.int (3 : Int32)), .val (.ref b207), .unset, .unset]) rfl ?_
  refine own_aloadN X207 hx hby d7_4 rfl rfl ?_
  refine own_iloadN X207 hx hby d7_5 rfl ?_
  refine own_aloadN X207 hx hby d7_6 rfl rfl ?_
  refine own_iconst X207 hx hby 0 d7_7 rfl ?_
  refine own_iloadN X207 hx hby d7_8 rfl ?_
  obtain ⟨_, _, ⟨T208, L208, k208, n208⟩, -, X208, ⟨Lc208, hQ208, l208, y208, z208⟩, st208⟩ := Jvm.LawKit.callS X207 hx (y := mN_15) hown (mvT hZ (own_w hw 41 rfl)) (mvT hZ (own_w hw 42 rfl)) (mvT hZ (own_w hw 39 rfl)) (mvT hZ (own_w hw 43 rfl)) (by decide) (backOf (W := 0) (rmclb3 l Z a0 hw [] a1 b207 kc k207 c0 c1 c2 h207 n0 Z0 Vc V207 g_b207 ne_a1_b207 hb0 hb1 hb2 big) hZ (own_w hw 43 rfl) (own_w hw 39 rfl) (by decide) (by decide)) (g := (mkF m 9 #[.val (.ref a1), .val (.int (0 : Int32)), .val (.int (3 : Int32)), .val (.ref b207), .unset, .unset] [(.int (3 : Int32)), (.int (0 : Int32)), (.ref b207), (.int (0 : Int32)), (.ref a1)])) rfl (by rw [hml]; rfl) (argsL := [(.ref a1), (.int (0 : Int32)), (.ref b207), (.int (0 : Int32)), (.int (3 : Int32))]) (rest := []) (lenOf pd_10 rfl) rfl (by show 2 * 0 + _ ≤ _; exact Nat.le_of_eq rfl) (hb hby d7_9) (fun _ _ => ⟨rfl, e207, (by decide : 1 + 0 ≤ _), (by decide : 3 + 0 ≤ _)⟩)
  dsimp only [Pt.U, Pt.locs, Pt.cells, Pt.slots] at X208 l208 y208 z208 st208 hQ208
  subst l208 y208 z208
  obtain ⟨r208, rfl, Nq208, Kp208, nr208, i1, i2, i3, i4, bg208⟩ := hQ208
  have N208 := Fr.app N0 Nq208
  have nst_b207 := V207.nostat
  replace Z0 := Nat.le_trans Z0 Kp208.1
  replace Vc := Vc.keep Kp208 (ninS ne_a1_b207 nin0)
  replace SA := own_staKeep SA Kp208 (nsS nst_b207 ns0)
  replace SHI := own_staKeep SHI Kp208 (nsS nst_b207 ns0)
  replace SLO := own_staKeep SLO Kp208 (nsS nst_b207 ns0)
  replace KK := KK.trans Kp208 (allS (Or.inr sz_b207) all0)
  refine own_of (U' := (T208.setTop (mkF m 12 #[.val (.ref a1), .val (.int (0 : Int32)), .val (.int (3 : Int32)), .val (.ref b207), .unset, .unset] [(.int r208)]))) (st208) ?_
  refine own_istore X208 hx hby d7_12 (l' := #[.val (.ref a1), .val (.int (0 : Int32)), .val (.int (3 : Int32)), .val (.ref b207), .val (.int r208), .unset]) rfl ?_
  refine own_iload X208 hx hby d7_14 rfl ?_
  refine own_iloadN X208 hx hby d7_16 rfl ?_
  have hc17_209 : ¬ (r208 = (3 : Int32)) := nr208
  refine own_icmpNo X208 hx hby d7_17 (feq hc17_209).1 ?_
  refine own_aloadN X208 hx hby d7_20 rfl rfl ?_
  refine own_iloadN X208 hx hby d7_21 rfl ?_
  refine own_iloadN X208 hx hby d7_22 rfl ?_
  obtain ⟨_, _, ⟨T210, L210, k210, n210⟩, -, X210, ⟨Lc210, hQ210, l210, y210, z210⟩, st210⟩ := Jvm.LawKit.callS X208 hx (y := mN_14) hown (mvT hZ (own_w hw 73 rfl)) (mvT hZ (own_w hw 74 rfl)) (mvT hZ (own_w hw 39 rfl)) (mvT hZ (own_w hw 75 rfl)) (by decide) (backOf (W := 0) (rmtb3 l Z a0 hw [] a1 kc c0 c1 c2 T208.heap n0 Z0 Vc SA SHI SLO) hZ (own_w hw 75 rfl) (own_w hw 39 rfl) (by decide) (by decide)) (g := (mkF m 23 #[.val (.ref a1), .val (.int (0 : Int32)), .val (.int (3 : Int32)), .val (.ref b207), .val (.int r208), .unset] [(.int (3 : Int32)), (.int (0 : Int32)), (.ref a1)])) rfl (by rw [hml]; rfl) (argsL := [(.ref a1), (.int (0 : Int32)), (.int (3 : Int32))]) (rest := []) (lenOf pd_11 rfl) rfl (by show 2 * 0 + _ ≤ _; exact Nat.le_of_eq rfl) (hb hby d7_23) (fun _ _ => ⟨rfl, rfl, (by decide : 1 + 1 ≤ _), (by decide : 3 + 6 ≤ _)⟩)
  dsimp only [Pt.U, Pt.locs, Pt.cells, Pt.slots] at X210 l210 y210 z210 st210 hQ210
  subst l210 y210 z210
  obtain ⟨u210, ku210, rfl, Nq210, Kp210, gq210, Vq210⟩ := hQ210
  have g_u210 : n0 ≤ u210 := Nat.le_trans Z0 gq210
  have sz_u210 : h0.size ≤ u210 := Nat.le_trans KK.1 gq210
  have ne_a1_u210 : a1 ≠ u210 := Nat.ne_of_lt (Nat.lt_of_lt_of_le Vc.lt gq210)
  have N210 := Fr.app N208 Nq210
  replace Z0 := Nat.le_trans Z0 Kp210.1
  replace Vc := Vc.keep Kp210 nin0
  replace SA := own_staKeep SA Kp210 ns0
  replace SHI := own_staKeep SHI Kp210 ns0
  replace SLO := own_staKeep SLO Kp210 ns0
  replace KK := KK.trans Kp210 all0
  refine own_of (U' := (T210.setTop (mkF m 26 #[.val (.ref a1), .val (.int (0 : Int32)), .val (.int (3 : Int32)), .val (.ref b207), .val (.int r208), .unset] [(.ref u210)]))) (st210) ?_
  refine own_astore X210 hx hby d7_26 rfl (l' := #[.val (.ref a1), .val (.int (0 : Int32)), .val (.int (3 : Int32)), .val (.ref b207), .val (.int r208), .val (.ref u210)]) rfl ?_
  refine own_aload X210 hx hby d7_28 rfl rfl ?_
  refine own_iload X210 hx hby d7_30 rfl ?_
  obtain ⟨_, _, ⟨T211, L211, k211, n211⟩, -, X211, ⟨Lc211, hQ211, l211, y211, z211⟩, st211⟩ := Jvm.LawKit.callS X210 hx (y := mN_4) hown (mvT hZ (own_w hw 89 rfl)) (mvT hZ (own_w hw 90 rfl)) (mvT hZ (own_w hw 39 rfl)) (mvT hZ (own_w hw 91 rfl)) (by decide) (backOf (W := 0) (rmug l Z a0 hw [] u210 r208 ku210 (6 : Int32) [(own_lo8 c0), (own_hi8 c0), (own_lo8 c1), (own_hi8 c1), (own_lo8 c2), (own_hi8 c2)] T210.heap n0 Z0 Vq210 i1 i2 i3 i4 SA SHI SLO) hZ (own_w hw 91 rfl) (own_w hw 39 rfl) (by decide) (by decide)) (g := (mkF m 32 #[.val (.ref a1), .val (.int (0 : Int32)), .val (.int (3 : Int32)), .val (.ref b207), .val (.int r208), .val (.ref u210)] [(.int r208), (.ref u210)])) rfl (by rw [hml]; rfl) (argsL := [(.ref u210), (.int r208)]) (rest := []) (lenOf pd_4 rfl) rfl (by show 2 * 0 + _ ≤ _; exact Nat.le_of_eq rfl) (hb hby d7_32) (fun _ _ => ⟨rfl, rfl, (by decide : 2 + 0 ≤ _), (by decide : 9 + 0 ≤ _)⟩)
  dsimp only [Pt.U, Pt.locs, Pt.cells, Pt.slots] at X211 l211 y211 z211 st211 hQ211
  subst l211 y211 z211
  obtain ⟨rfl, Nq211, e211⟩ := hQ211
  have N211 := Fr.app N210 Nq211
  refine own_of (U' := (T211.setTop (mkF m 35 #[.val (.ref a1), .val (.int (0 : Int32)), .val (.int (3 : Int32)), .val (.ref b207), .val (.int r208), .val (.ref u210)] [(.int (own_chu [(own_lo8 c0), (own_hi8 c0), (own_lo8 c1), (own_hi8 c1), (own_lo8 c2), (own_hi8 c2)] r208))]))) (st211) ?_
  refine own_sipush X211 hx hby 255 d7_35 rfl ?_
  have hc38_212 : (255 : Int32) < (own_chu [(own_lo8 c0), (own_hi8 c0), (own_lo8 c1), (own_hi8 c1), (own_lo8 c2), (own_hi8 c2)] r208) := bg208
  refine own_icmpYes X211 hx hby 38 54 d7_38 (tlt hc38_212).2.2.1 (by decide) (by decide) ?_
  refine own_aload X211 hx hby d7_54 rfl rfl ?_
  exact own_retA X211 hx hlk Bd.returns rfl rfl (hb hby d7_56) (by decide) (by decide) (by rw [e211]; exact ⟨u210, ku210, rfl, N211, KK, sz_u210, Vq210⟩)
theorem ef_cf3_3 (m : MethodId) (x0 : Addr) : entryFrame m #[(.ref x0), (.int (3 : Int32))] 2 = mkF m 0 #[.val (.ref x0), .val (.int (3 : Int32))] [] := by first | (simp [entryFrame, mkF, argsToLocals, Value.category]; done) | rfl
set_option maxRecDepth 65536 in
set_option maxHeartbeats 40000000 in
theorem rmcf3_3 (l : Launch) (Z : State) (a0 : Array Value) (hw : ∀ d ∈ tables_1, d.before a0 Z = true) (ws : List Jvm.Cond) (b : Addr) (kb : ClassId) (cs : List Int32) (h0 : Heap) (n0 : Nat) (Z0 : n0 ≤ h0.size) (Vb : Arv Z h0 b kb .byte (3 : Int32) (cs.map Value.int) (.int (0 : Int32))) :
    MetFree l mN_17 (head1 (Jvm.Cond.code mN_17 jdk_52_method_15_code 2 (some .byte) :: ws) ({ frames := 0, cells := 0, slots := 0, locals := 0 } : Room)) (fun a U => a = #[(.ref b), (.int (3 : Int32))] ∧ Z.Warmed39 U.vm ∧ U.heap = h0) (fun _ _ _ _ _ => True) (fun _ U o U' => ∃ v L, o = .returned v ∧ (Qv 0 h0 n0) v U'.heap L ∧ FrameEnd U o U' L ({ frames := 0, cells := 0, slots := 0, locals := 0 } : Room).cells ({ frames := 0, cells := 0, slots := 0, locals := 0 } : Room).slots) := by
  refine MetFree.of_bodySF (plainFor_of_name pn_2) hisR ?_
  intro p e s m args below meth c s₁ Bd hml0 hP hK
  obtain ⟨rfl, hZ, hh⟩ := hP
  have hx := Bd.exec
  have hby := Bd.bytes
  have hml : c.maxLocals = 2 := hml0
  have hown : s.vm.findClass "java/lang/StringUTF16" = some m.cls := findClass_of_methodNamed Bd.named
  have hnm := (name_of_methodNamed Bd.named Bd.method).1
  have hlk := Bd.notSynchronized
  have X0 : Stand p l e ({ frames := 0, cells := 0, slots := 0, locals := 0 } : Room) s m #[(.ref b), (.int (3 : Int32))] below meth c s₁ [] 0 0 := Stand.of_body Bd
  have e0 : s₁.heap = h0 := by rw [← hh, Bd.state]; rfl
  have N0 := Fr.nil n0
  show own_Ends p e below s FrameEnd (Qv 0 h0 n0) 0 0 (s₁.setTop (entryFrame m #[(.ref b), (.int (3 : Int32))] 2))
  refine own_of (U' := (s₁.setTop (mkF m 0 #[.val (.ref b), .val (.int (3 : Int32))] []))) (fun _ k => castTop (ef_cf3_3 m b) k) ?_
  refine own_iloadN X0 hx hby d9_0 rfl ?_
  refine own_aloadN X0 hx hby d9_1 rfl rfl ?_
  obtain ⟨cl213, Ar213, qa213, Sa213, Na213, -, -⟩ := id Vb
  have al213 := X0.arraylength hx (by rw [e0]; exact Ar213.1) (State.isArrayOf_alike hZ.alike Ar213.2.1) (g := (mkF m 2 #[.val (.ref b), .val (.int (3 : Int32))] [(.ref b), (.int (3 : Int32))])) rfl rfl (hb hby d9_2)
  rw [len_of Sa213 Na213] at al213
  refine own_of (U' := (s₁.setTop (mkF m 3 #[.val (.ref b), .val (.int (3 : Int32))] [(.int (3 : Int32)), (.int (3 : Int32))]))) (al213) ?_
  refine own_isub X0 hx hby d9_3 ?_
  refine own_eq (U' := (s₁.setTop (mkF m 4 #[.val (.ref b), .val (.int (3 : Int32))] [(.int (0 : Int32))]))) (by rw [show ((3 : Int32) - (3 : Int32)) = (0 : Int32) by decide]) ?_
  refine own_bipush X0 hx hby 31 d9_4 rfl ?_
  refine own_iushr X0 hx hby d9_6 ?_
  refine own_eq (U' := (s₁.setTop (mkF m 7 #[.val (.ref b), .val (.int (3 : Int32))] [(.int (0 : Int32))]))) (by rw [show (XT.ushr (0 : Int32) (31 : Int32)) = (0 : Int32) by decide]) ?_
  refine own_i2b X0 hx hby d9_7 ?_
  refine own_eq (U' := (s₁.setTop (mkF m 8 #[.val (.ref b), .val (.int (3 : Int32))] [(.int (0 : Int32))]))) (by rw [show ((0 : Int32).toInt8.toInt32) = (0 : Int32) by decide]) ?_
  exact own_retN X0 hx hlk (t := .byte) Bd.returns (by simp) (hb hby d9_8) (by decide) (by decide) (⟨rfl, N0, e0⟩)
theorem ef_cf3_6 (m : MethodId) (x0 : Addr) : entryFrame m #[(.ref x0), (.int (3 : Int32))] 2 = mkF m 0 #[.val (.ref x0), .val (.int (3 : Int32))] [] := by first | (simp [entryFrame, mkF, argsToLocals, Value.category]; done) | rfl
set_option maxRecDepth 65536 in
set_option maxHeartbeats 40000000 in
theorem rmcf3_6 (l : Launch) (Z : State) (a0 : Array Value) (hw : ∀ d ∈ tables_1, d.before a0 Z = true) (ws : List Jvm.Cond) (b : Addr) (kb : ClassId) (cs : List Int32) (h0 : Heap) (n0 : Nat) (Z0 : n0 ≤ h0.size) (Vb : Arv Z h0 b kb .byte (6 : Int32) (cs.map Value.int) (.int (0 : Int32))) :
    MetFree l mN_17 (head1 (Jvm.Cond.code mN_17 jdk_52_method_15_code 2 (some .byte) :: ws) ({ frames := 0, cells := 0, slots := 0, locals := 0 } : Room)) (fun a U => a = #[(.ref b), (.int (3 : Int32))] ∧ Z.Warmed39 U.vm ∧ U.heap = h0) (fun _ _ _ _ _ => True) (fun _ U o U' => ∃ v L, o = .returned v ∧ (Qv 1 h0 n0) v U'.heap L ∧ FrameEnd U o U' L ({ frames := 0, cells := 0, slots := 0, locals := 0 } : Room).cells ({ frames := 0, cells := 0, slots := 0, locals := 0 } : Room).slots) := by
  refine MetFree.of_bodySF (plainFor_of_name pn_2) hisR ?_
  intro p e s m args below meth c s₁ Bd hml0 hP hK
  obtain ⟨rfl, hZ, hh⟩ := hP
  have hx := Bd.exec
  have hby := Bd.bytes
  have hml : c.maxLocals = 2 := hml0
  have hown : s.vm.findClass "java/lang/StringUTF16" = some m.cls := findClass_of_methodNamed Bd.named
  have hnm := (name_of_methodNamed Bd.named Bd.method).1
  have hlk := Bd.notSynchronized
  have X0 : Stand p l e ({ frames := 0, cells := 0, slots := 0, locals := 0 } : Room) s m #[(.ref b), (.int (3 : Int32))] below meth c s₁ [] 0 0 := Stand.of_body Bd
  have e0 : s₁.heap = h0 := by rw [← hh, Bd.state]; rfl
  have N0 := Fr.nil n0
  show own_Ends p e below s FrameEnd (Qv 1 h0 n0) 0 0 (s₁.setTop (entryFrame m #[(.ref b), (.int (3 : Int32))] 2))
  refine own_of (U' := (s₁.setTop (mkF m 0 #[.val (.ref b), .val (.int (3 : Int32))] []))) (fun _ k => castTop (ef_cf3_6 m b) k) ?_
  refine own_iloadN X0 hx hby d9_0 rfl ?_
  refine own_aloadN X0 hx hby d9_1 rfl rfl ?_
  obtain ⟨cl214, Ar214, qa214, Sa214, Na214, -, -⟩ := id Vb
  have al214 := X0.arraylength hx (by rw [e0]; exact Ar214.1) (State.isArrayOf_alike hZ.alike Ar214.2.1) (g := (mkF m 2 #[.val (.ref b), .val (.int (3 : Int32))] [(.ref b), (.int (3 : Int32))])) rfl rfl (hb hby d9_2)
  rw [len_of Sa214 Na214] at al214
  refine own_of (U' := (s₁.setTop (mkF m 3 #[.val (.ref b), .val (.int (3 : Int32))] [(.int (6 : Int32)), (.int (3 : Int32))]))) (al214) ?_
  refine own_isub X0 hx hby d9_3 ?_
  refine own_eq (U' := (s₁.setTop (mkF m 4 #[.val (.ref b), .val (.int (3 : Int32))] [(.int (-3 : Int32))]))) (by rw [show ((3 : Int32) - (6 : Int32)) = (-3 : Int32) by decide]) ?_
  refine own_bipush X0 hx hby 31 d9_4 rfl ?_
  refine own_iushr X0 hx hby d9_6 ?_
  refine own_eq (U' := (s₁.setTop (mkF m 7 #[.val (.ref b), .val (.int (3 : Int32))] [(.int (1 : Int32))]))) (by rw [show (XT.ushr (-3 : Int32) (31 : Int32)) = (1 : Int32) by decide]) ?_
  refine own_i2b X0 hx hby d9_7 ?_
  refine own_eq (U' := (s₁.setTop (mkF m 8 #[.val (.ref b), .val (.int (3 : Int32))] [(.int (1 : Int32))]))) (by rw [show ((1 : Int32).toInt8.toInt32) = (1 : Int32) by decide]) ?_
  exact own_retN X0 hx hlk (t := .byte) Bd.returns (by simp) (hb hby d9_8) (by decide) (by decide) (⟨rfl, N0, e0⟩)
theorem ef_sv3 (m : MethodId) (x0 : Addr) (x1 : Addr) : entryFrame m #[(.ref x0), (.ref x1), (.int (0 : Int32)), (.int (3 : Int32)), .null] 6 = mkF m 0 #[.val (.ref x0), .val (.ref x1), .val (.int (0 : Int32)), .val (.int (3 : Int32)), .val .null, .unset] [] := by first | (simp [entryFrame, mkF, argsToLocals, Value.category]; done) | rfl
def Qsv3 (Z : State) (a1 : Addr) (c0 c1 c2 : Int32) (h0 : Heap) (n0 : Nat) (v : Option Value) (h : Heap) (L : List Loc) : Prop := v = none ∧ Fr n0 L ∧ Keep h0 h [a1] ∧ own_Str Z h a1 (3 : Int32) (6 : Int32) [c0, c1, c2]
set_option maxRecDepth 65536 in
set_option maxHeartbeats 40000000 in
theorem rmsv3 (l : Launch) (Z : State) (a0 : Array Value) (hw : ∀ d ∈ tables_1, d.before a0 Z = true) (ws : List Jvm.Cond) (a1 a2 : Addr) (kc : ClassId) (c0 c1 c2 : Int32) (g1 : Int32) (h0 : Heap) (n0 : Nat) (Z0 : n0 ≤ h0.size) (E1 : Exa Z h0 a1 "java/lang/String") (Fc : Fld Z h0 a1 "java/lang/String" "coder" "B" (.int (0 : Int32))) (Fv : Fld Z h0 a1 "java/lang/String" "value" "[B" .null) (Vc : Arv Z h0 a2 kc .char (3 : Int32) [(.int c0), (.int c1), (.int c2)] (.int (0 : Int32))) (g_a1 : n0 ≤ a1) (hb0 : 0 ≤ c0.toInt ∧ c0.toInt < 65536) (hb1 : 0 ≤ c1.toInt ∧ c1.toInt < 65536) (hb2 : 0 ≤ c2.toInt ∧ c2.toInt < 65536) (SC : Sta Z h0 "java/lang/String" "COMPACT_STRINGS" "Z" (.int g1)) (hg1 : ¬ (g1 = (0 : Int32))) (SA : Sta Z h0 "java/lang/StringUTF16" "$assertionsDisabled" "Z" (.int (1 : Int32))) (SHI : Sta Z h0 "java/lang/StringUTF16" "HI_BYTE_SHIFT" "I" (.int (0 : Int32))) (SLO : Sta Z h0 "java/lang/StringUTF16" "LO_BYTE_SHIFT" "I" (.int (8 : Int32))) :
    MetFree l mN_18 (head1 (Jvm.Cond.code mN_18 jdk_42_method_149_code 6 none :: ws) ({ frames := 4, cells := 2, slots := 9, locals := 57 } : Room)) (fun a U => a = #[(.ref a1), (.ref a2), (.int (0 : Int32)), (.int (3 : Int32)), .null] ∧ Z.Warmed39 U.vm ∧ U.heap = h0) (fun _ _ _ _ _ => True) (fun _ U o U' => ∃ v L, o = .returned v ∧ (Qsv3 Z a1 c0 c1 c2 h0 n0) v U'.heap L ∧ FrameEnd U o U' L ({ frames := 4, cells := 2, slots := 9, locals := 57 } : Room).cells ({ frames := 4, cells := 2, slots := 9, locals := 57 } : Room).slots) := by
  refine MetFree.of_bodySF (plainFor_of_name pn_1) hisR ?_
  intro p e s m args below meth c s₁ Bd hml0 hP hK
  obtain ⟨rfl, hZ, hh⟩ := hP
  have hx := Bd.exec
  have hby := Bd.bytes
  have hml : c.maxLocals = 6 := hml0
  have hown : s.vm.findClass "java/lang/String" = some m.cls := findClass_of_methodNamed Bd.named
  have hnm := (name_of_methodNamed Bd.named Bd.method).1
  have hlk := Bd.notSynchronized
  have X0 : Stand p l e ({ frames := 4, cells := 2, slots := 9, locals := 57 } : Room) s m #[(.ref a1), (.ref a2), (.int (0 : Int32)), (.int (3 : Int32)), .null] below meth c s₁ [] 0 0 := Stand.of_body Bd
  have e0 : s₁.heap = h0 := by rw [← hh, Bd.state]; rfl
  have N0 := Fr.nil n0
  have KK := Keep.refl h0 [a1]
  show own_Ends p e below s FrameEnd (Qsv3 Z a1 c0 c1 c2 h0 n0) 2 9 (s₁.setTop (entryFrame m #[(.ref a1), (.ref a2), (.int (0 : Int32)), (.int (3 : Int32)), .null] 6))
  refine own_of (U' := (s₁.setTop (mkF m 0 #[.val (.ref a1), .val (.ref a2), .val (.int (0 : Int32)), .val (.int (3 : Int32)), .val .null, .unset] []))) (fun _ k => castTop (ef_sv3 m a1 a2) k) ?_
  refine own_aloadN X0 hx hby d2_0 rfl rfl ?_
  obtain ⟨T215, X215, e215, st215⟩ := initO X0 hx hZ hown (own_w hw 11 rfl) (own_w hw 12 rfl) (own_w hw 13 rfl) e0 (g := (mkF m 1 #[.val (.ref a1), .val (.ref a2), .val (.int (0 : Int32)), .val (.int (3 : Int32)), .val .null, .unset] [(.ref a1)])) rfl (by rw [hml]; rfl) rfl (hb hby d2_1) (by decide) (W := 0) (by show 2 * 0 + _ ≤ _; exact Nat.le_of_eq rfl) (by decide)
  refine own_of (U' := (T215.setTop (mkF m 4 #[.val (.ref a1), .val (.ref a2), .val (.int (0 : Int32)), .val (.int (3 : Int32)), .val .null, .unset] []))) (st215) ?_
  refine own_iloadN X215 hx hby d2_4 rfl ?_
  have hc5_216 : ¬ ((3 : Int32) = (0 : Int32)) := by decide
  refine own_ifYes X215 hx hby 5 27 d2_5 ((if0 _ _).trans (feq hc5_216).2) (by decide) (by decide) ?_
  obtain ⟨T217, X217, e217, st217⟩ := getS2 X215 hx hZ hown (host := "") (Or.inl (own_w hw 36 rfl)) Via.refl e215 SC (g := (mkF m 27 #[.val (.ref a1), .val (.ref a2), .val (.int (0 : Int32)), .val (.int (3 : Int32)), .val .null, .unset] [])) rfl (hb hby d2_27)
  refine own_of (U' := (T217.setTop (mkF m 30 #[.val (.ref a1), .val (.ref a2), .val (.int (0 : Int32)), .val (.int (3 : Int32)), .val .null, .unset] [(.int g1)]))) (st217) ?_
  have hc30_218 : ¬ (g1 = (0 : Int32)) := hg1
  refine own_ifNo X217 hx hby d2_30 ((if0 _ _).trans (feq hc30_218).1) ?_
  by_cases qB : ((255 : Int32) < c0) ∨ ((255 : Int32) < c1) ∨ ((255 : Int32) < c2)
  · skip
    refine own_aloadN X217 hx hby d2_33 rfl rfl ?_
    refine own_iloadN X217 hx hby d2_34 rfl ?_
    refine own_iloadN X217 hx hby d2_35 rfl ?_
    obtain ⟨_, _, ⟨T219, L219, k219, n219⟩, -, X219, ⟨Lc219, hQ219, l219, y219, z219⟩, st219⟩ := Jvm.LawKit.callS X217 hx (y := mN_16) hown (mvT hZ (own_w hw 37 rfl)) (mvT hZ (own_w hw 38 rfl)) (mvT hZ (own_w hw 39 rfl)) (mvT hZ (own_w hw 40 rfl)) (by decide) (backOf (W := 0) (rmcb3 l Z a0 hw [] a2 kc c0 c1 c2 h0 n0 Z0 Vc hb0 hb1 hb2 SA SHI SLO qB) hZ (own_w hw 40 rfl) (own_w hw 39 rfl) (by decide) (by decide)) (g := (mkF m 36 #[.val (.ref a1), .val (.ref a2), .val (.int (0 : Int32)), .val (.int (3 : Int32)), .val .null, .unset] [(.int (3 : Int32)), (.int (0 : Int32)), (.ref a2)])) rfl (by rw [hml]; rfl) (argsL := [(.ref a2), (.int (0 : Int32)), (.int (3 : Int32))]) (rest := []) (lenOf pd_11 rfl) rfl (by show 2 * 0 + _ ≤ _; exact Nat.le_of_eq rfl) (hb hby d2_36) (fun _ _ => ⟨rfl, e217, (by decide : 0 + 2 ≤ _), (by decide : 0 + 9 ≤ _)⟩)
    dsimp only [Pt.U, Pt.locs, Pt.cells, Pt.slots] at X219 l219 y219 z219 st219 hQ219
    subst l219 y219 z219
    obtain ⟨u219, ku219, rfl, Nq219, Kp219, gq219, Vq219⟩ := hQ219
    have g_u219 : n0 ≤ u219 := Nat.le_trans Z0 gq219
    have sz_u219 : h0.size ≤ u219 := Nat.le_trans KK.1 gq219
    have ne_a1_u219 : a1 ≠ u219 := Nat.ne_of_lt (Nat.lt_of_lt_of_le E1.lt gq219)
    have ne_a2_u219 : a2 ≠ u219 := Nat.ne_of_lt (Nat.lt_of_lt_of_le Vc.lt gq219)
    have N219 := Fr.app N0 Nq219
    replace Z0 := Nat.le_trans Z0 Kp219.1
    replace E1 := E1.keep Kp219
    replace Fc := Fc.keep Kp219 nin0
    replace Fv := Fv.keep Kp219 nin0
    replace Vc := Vc.keep Kp219 nin0
    replace SC := own_staKeep SC Kp219 ns0
    replace SA := own_staKeep SA Kp219 ns0
    replace SHI := own_staKeep SHI Kp219 ns0
    replace SLO := own_staKeep SLO Kp219 ns0
    replace KK := KK.trans Kp219 all0
    refine own_of (U' := (T219.setTop (mkF m 39 #[.val (.ref a1), .val (.ref a2), .val (.int (0 : Int32)), .val (.int (3 : Int32)), .val .null, .unset] [(.ref u219)]))) (st219) ?_
    refine own_astore X219 hx hby d2_39 rfl (l' := #[.val (.ref a1), .val (.ref a2), .val (.int (0 : Int32)), .val (.int (3 : Int32)), .val .null, .val (.ref u219)]) rfl ?_
    refine own_aloadN X219 hx hby d2_41 rfl rfl ?_
    refine own_aload X219 hx hby d2_42 rfl rfl ?_
    refine own_iloadN X219 hx hby d2_44 rfl ?_
    obtain ⟨_, _, ⟨T220, L220, k220, n220⟩, -, X220, ⟨Lc220, hQ220, l220, y220, z220⟩, st220⟩ := Jvm.LawKit.callS X219 hx (y := mN_17) hown (mvT hZ (own_w hw 44 rfl)) (mvT hZ (own_w hw 45 rfl)) (mvT hZ (own_w hw 39 rfl)) (mvT hZ (own_w hw 46 rfl)) (by decide) (backOf (W := 1) (rmcf3_6 l Z a0 hw [] u219 ku219 [(own_lo8 c0), (own_hi8 c0), (own_lo8 c1), (own_hi8 c1), (own_lo8 c2), (own_hi8 c2)] T219.heap n0 Z0 Vq219) hZ (own_w hw 46 rfl) (own_w hw 39 rfl) (by decide) (by decide)) (g := (mkF m 45 #[.val (.ref a1), .val (.ref a2), .val (.int (0 : Int32)), .val (.int (3 : Int32)), .val .null, .val (.ref u219)] [(.int (3 : Int32)), (.ref u219), (.ref a1)])) rfl (by rw [hml]; rfl) (argsL := [(.ref u219), (.int (3 : Int32))]) (rest := [(.ref a1)]) (lenOf pd_12 rfl) rfl (by show 2 * 0 + _ ≤ _; exact Nat.le_of_eq rfl) (hb hby d2_45) (fun _ _ => ⟨rfl, rfl, (by decide : 2 + 0 ≤ _), (by decide : 9 + 0 ≤ _)⟩)
    dsimp only [Pt.U, Pt.locs, Pt.cells, Pt.slots] at X220 l220 y220 z220 st220 hQ220
    subst l220 y220 z220
    obtain ⟨rfl, Nq220, e220⟩ := hQ220
    have N220 := Fr.app N219 Nq220
    refine own_of (U' := (T220.setTop (mkF m 48 #[.val (.ref a1), .val (.ref a2), .val (.int (0 : Int32)), .val (.int (3 : Int32)), .val .null, .val (.ref u219)] [(.int (1 : Int32)), (.ref a1)]))) (st220) ?_
    obtain ⟨T221, h221, X221, e221, W221, st221⟩ := putFN X220 hx hZ hown (own_w hw 21 rfl) Via.refl e220 Fc E1 (Or.inr ⟨(own_w hw 17 rfl), rfl, hnm⟩) (own_w hw 1 rfl) (ty := .byte) (v' := (.int (1 : Int32))) (by decide) rfl (by decide) (g := (mkF m 48 #[.val (.ref a1), .val (.ref a2), .val (.int (0 : Int32)), .val (.int (3 : Int32)), .val .null, .val (.ref u219)] [(.int (1 : Int32)), (.ref a1)])) rfl rfl (hb hby d2_48)
    replace Z0 := Nat.le_trans Z0 (Keep.of_wr W221).1
    replace E1 := E1.wr W221
    replace Fc := Fc.same W221
    replace Fv := Fv.other W221 (Or.inr (slot_ne (Or.inr (own_w hw 16 rfl)) (Or.inr (own_w hw 17 rfl)) (by decide) (t := (.array .byte)) (t' := .byte) (by decide) (by decide)))
    replace SC := SC.wr W221
    replace SA := SA.wr W221
    replace SHI := SHI.wr W221
    replace SLO := SLO.wr W221
    replace KK := KK.wr W221 (Or.inl (List.mem_of_getElem? (i := 0) rfl))
    replace Vq219 := Vq219.other W221 (Ne.symm ne_a1_u219)
    have N221 := Fr.snoc X221 N220 g_a1
    refine own_of (U' := (T221.setTop (mkF m 51 #[.val (.ref a1), .val (.ref a2), .val (.int (0 : Int32)), .val (.int (3 : Int32)), .val .null, .val (.ref u219)] []))) (st221) ?_
    refine own_aloadN X221 hx hby d2_51 rfl rfl ?_
    refine own_aload X221 hx hby d2_52 rfl rfl ?_
    obtain ⟨T222, h222, X222, e222, W222, st222⟩ := putF X221 hx hZ hown (host := "") (Or.inl (own_w hw 20 rfl)) Via.refl e221 Fv E1 (Or.inr ⟨(own_w hw 16 rfl), rfl, hnm⟩) (own_w hw 1 rfl) (ty := (.array .byte)) (by decide) rfl rfl (g := (mkF m 54 #[.val (.ref a1), .val (.ref a2), .val (.int (0 : Int32)), .val (.int (3 : Int32)), .val .null, .val (.ref u219)] [(.ref u219), (.ref a1)])) rfl rfl (hb hby d2_54)
    replace Z0 := Nat.le_trans Z0 (Keep.of_wr W222).1
    replace E1 := E1.wr W222
    replace Fc := Fc.other W222 (Or.inr (slot_ne (Or.inr (own_w hw 17 rfl)) (Or.inr (own_w hw 16 rfl)) (by decide) (t := .byte) (t' := (.array .byte)) (by decide) (by decide)))
    replace Fv := Fv.same W222
    replace SC := SC.wr W222
    replace SA := SA.wr W222
    replace SHI := SHI.wr W222
    replace SLO := SLO.wr W222
    replace KK := KK.wr W222 (Or.inl (List.mem_of_getElem? (i := 0) rfl))
    replace Vq219 := Vq219.other W222 (Ne.symm ne_a1_u219)
    have N222 := Fr.snoc X222 N221 g_a1
    refine own_of (U' := (T222.setTop (mkF m 57 #[.val (.ref a1), .val (.ref a2), .val (.int (0 : Int32)), .val (.int (3 : Int32)), .val .null, .val (.ref u219)] []))) (st222) ?_
    exact own_ret0 X222 hx hlk Bd.returns (hb hby d2_57) (by decide) (by decide) (by rw [e222]; exact ⟨rfl, N222, KK, ⟨E1, u219, ku219, Fv, Or.inr ⟨Fc, Vq219⟩⟩⟩)
  · skip
    have qB0 : ¬ ((255 : Int32) < c0) := fun z => qB (Or.inl z)
    have qB1 : ¬ ((255 : Int32) < c1) := fun z => qB (Or.inr (Or.inl z))
    have qB2 : ¬ ((255 : Int32) < c2) := fun z => qB (Or.inr (Or.inr z))
    refine own_aloadN X217 hx hby d2_33 rfl rfl ?_
    refine own_iloadN X217 hx hby d2_34 rfl ?_
    refine own_iloadN X217 hx hby d2_35 rfl ?_
    obtain ⟨_, _, ⟨T223, L223, k223, n223⟩, -, X223, ⟨Lc223, hQ223, l223, y223, z223⟩, st223⟩ := Jvm.LawKit.callS X217 hx (y := mN_16) hown (mvT hZ (own_w hw 37 rfl)) (mvT hZ (own_w hw 38 rfl)) (mvT hZ (own_w hw 39 rfl)) (mvT hZ (own_w hw 40 rfl)) (by decide) (backOf (W := 0) (rmcl3 l Z a0 hw [] a2 kc c0 c1 c2 h0 n0 Z0 Vc hb0 hb1 hb2 SA SHI SLO qB0 qB1 qB2) hZ (own_w hw 40 rfl) (own_w hw 39 rfl) (by decide) (by decide)) (g := (mkF m 36 #[.val (.ref a1), .val (.ref a2), .val (.int (0 : Int32)), .val (.int (3 : Int32)), .val .null, .unset] [(.int (3 : Int32)), (.int (0 : Int32)), (.ref a2)])) rfl (by rw [hml]; rfl) (argsL := [(.ref a2), (.int (0 : Int32)), (.int (3 : Int32))]) (rest := []) (lenOf pd_11 rfl) rfl (by show 2 * 0 + _ ≤ _; exact Nat.le_of_eq rfl) (hb hby d2_36) (fun _ _ => ⟨rfl, e217, (by decide : 0 + 1 ≤ _), (by decide : 0 + 3 ≤ _)⟩)
    dsimp only [Pt.U, Pt.locs, Pt.cells, Pt.slots] at X223 l223 y223 z223 st223 hQ223
    subst l223 y223 z223
    obtain ⟨u223, ku223, rfl, Nq223, Kp223, gq223, Vq223⟩ := hQ223
    have g_u223 : n0 ≤ u223 := Nat.le_trans Z0 gq223
    have sz_u223 : h0.size ≤ u223 := Nat.le_trans KK.1 gq223
    have ne_a1_u223 : a1 ≠ u223 := Nat.ne_of_lt (Nat.lt_of_lt_of_le E1.lt gq223)
    have ne_a2_u223 : a2 ≠ u223 := Nat.ne_of_lt (Nat.lt_of_lt_of_le Vc.lt gq223)
    have N223 := Fr.app N0 Nq223
    replace Z0 := Nat.le_trans Z0 Kp223.1
    replace E1 := E1.keep Kp223
    replace Fc := Fc.keep Kp223 nin0
    replace Fv := Fv.keep Kp223 nin0
    replace Vc := Vc.keep Kp223 nin0
    replace SC := own_staKeep SC Kp223 ns0
    replace SA := own_staKeep SA Kp223 ns0
    replace SHI := own_staKeep SHI Kp223 ns0
    replace SLO := own_staKeep SLO Kp223 ns0
    replace KK := KK.trans Kp223 all0
    refine own_of (U' := (T223.setTop (mkF m 39 #[.val (.ref a1), .val (.ref a2), .val (.int (0 : Int32)), .val (.int (3 : Int32)), .val .null, .unset] [(.ref u223)]))) (st223) ?_
    refine own_astore X223 hx hby d2_39 rfl (l' := #[.val (.ref a1), .val (.ref a2), .val (.int (0 : Int32)), .val (.int (3 : Int32)), .val .null, .val (.ref u223)]) rfl ?_
    refine own_aloadN X223 hx hby d2_41 rfl rfl ?_
    refine own_aload X223 hx hby d2_42 rfl rfl ?_
    refine own_iloadN X223 hx hby d2_44 rfl ?_
    obtain ⟨_, _, ⟨T224, L224, k224, n224⟩, -, X224, ⟨Lc224, hQ224, l224, y224, z224⟩, st224⟩ := Jvm.LawKit.callS X223 hx (y := mN_17) hown (mvT hZ (own_w hw 44 rfl)) (mvT hZ (own_w hw 45 rfl)) (mvT hZ (own_w hw 39 rfl)) (mvT hZ (own_w hw 46 rfl)) (by decide) (backOf (W := 1) (rmcf3_3 l Z a0 hw [] u223 ku223 [(own_b8 c0), (own_b8 c1), (own_b8 c2)] T223.heap n0 Z0 Vq223) hZ (own_w hw 46 rfl) (own_w hw 39 rfl) (by decide) (by decide)) (g := (mkF m 45 #[.val (.ref a1), .val (.ref a2), .val (.int (0 : Int32)), .val (.int (3 : Int32)), .val .null, .val (.ref u223)] [(.int (3 : Int32)), (.ref u223), (.ref a1)])) rfl (by rw [hml]; rfl) (argsL := [(.ref u223), (.int (3 : Int32))]) (rest := [(.ref a1)]) (lenOf pd_12 rfl) rfl (by show 2 * 0 + _ ≤ _; exact Nat.le_of_eq rfl) (hb hby d2_45) (fun _ _ => ⟨rfl, rfl, (by decide : 1 + 0 ≤ _), (by decide : 3 + 0 ≤ _)⟩)
    dsimp only [Pt.U, Pt.locs, Pt.cells, Pt.slots] at X224 l224 y224 z224 st224 hQ224
    subst l224 y224 z224
    obtain ⟨rfl, Nq224, e224⟩ := hQ224
    have N224 := Fr.app N223 Nq224
    refine own_of (U' := (T224.setTop (mkF m 48 #[.val (.ref a1), .val (.ref a2), .val (.int (0 : Int32)), .val (.int (3 : Int32)), .val .null, .val (.ref u223)] [(.int (0 : Int32)), (.ref a1)]))) (st224) ?_
    obtain ⟨T225, h225, X225, e225, W225, st225⟩ := putFN X224 hx hZ hown (own_w hw 21 rfl) Via.refl e224 Fc E1 (Or.inr ⟨(own_w hw 17 rfl), rfl, hnm⟩) (own_w hw 1 rfl) (ty := .byte) (v' := (.int (0 : Int32))) (by decide) rfl (by decide) (g := (mkF m 48 #[.val (.ref a1), .val (.ref a2), .val (.int (0 : Int32)), .val (.int (3 : Int32)), .val .null, .val (.ref u223)] [(.int (0 : Int32)), (.ref a1)])) rfl rfl (hb hby d2_48)
    replace Z0 := Nat.le_trans Z0 (Keep.of_wr W225).1
    replace E1 := E1.wr W225
    replace Fc := Fc.same W225
    replace Fv := Fv.other W225 (Or.inr (slot_ne (Or.inr (own_w hw 16 rfl)) (Or.inr (own_w hw 17 rfl)) (by decide) (t := (.array .byte)) (t' := .byte) (by decide) (by decide)))
    replace SC := SC.wr W225
    replace SA := SA.wr W225
    replace SHI := SHI.wr W225
    replace SLO := SLO.wr W225
    replace KK := KK.wr W225 (Or.inl (List.mem_of_getElem? (i := 0) rfl))
    replace Vq223 := Vq223.other W225 (Ne.symm ne_a1_u223)
    have N225 := Fr.snoc X225 N224 g_a1
    refine own_of (U' := (T225.setTop (mkF m 51 #[.val (.ref a1), .val (.ref a2), .val (.int (0 : Int32)), .val (.int (3 : Int32)), .val .null, .val (.ref u223)] []))) (st225) ?_
    refine own_aloadN X225 hx hby d2_51 rfl rfl ?_
    refine own_aload X225 hx hby d2_52 rfl rfl ?_
    obtain ⟨T226, h226, X226, e226, W226, st226⟩ := putF X225 hx hZ hown (host := "") (Or.inl (own_w hw 20 rfl)) Via.refl e225 Fv E1 (Or.inr ⟨(own_w hw 16 rfl), rfl, hnm⟩) (own_w hw 1 rfl) (ty := (.array .byte)) (by decide) rfl rfl (g := (mkF m 54 #[.val (.ref a1), .val (.ref a2), .val (.int (0 : Int32)), .val (.int (3 : Int32)), .val .null, .val (.ref u223)] [(.ref u223), (.ref a1)])) rfl rfl (hb hby d2_54)
    replace Z0 := Nat.le_trans Z0 (Keep.of_wr W226).1
    replace E1 := E1.wr W226
    replace Fc := Fc.other W226 (Or.inr (slot_ne (Or.inr (own_w hw 17 rfl)) (Or.inr (own_w hw 16 rfl)) (by decide) (t := .byte) (t' := (.array .byte)) (by decide) (by decide)))
    replace Fv := Fv.same W226
    replace SC := SC.wr W226
    replace SA := SA.wr W226
    replace SHI := SHI.wr W226
    replace SLO := SLO.wr W226
    replace KK := KK.wr W226 (Or.inl (List.mem_of_getElem? (i := 0) rfl))
    replace Vq223 := Vq223.other W226 (Ne.symm ne_a1_u223)
    have N226 := Fr.snoc X226 N225 g_a1
    refine own_of (U' := (T226.setTop (mkF m 57 #[.val (.ref a1), .val (.ref a2), .val (.int (0 : Int32)), .val (.int (3 : Int32)), .val .null, .val (.ref u223)] []))) (st226) ?_
    exact own_ret0 X226 hx hlk Bd.returns (hb hby d2_57) (by decide) (by decide) (by rw [e226]; exact ⟨rfl, N226, KK, ⟨E1, u223, ku223, Fv, Or.inl ⟨Fc, Vq223, (List.forall_mem_cons.mpr ⟨qB0, (List.forall_mem_cons.mpr ⟨qB1, (List.forall_mem_cons.mpr ⟨qB2, (fun _ h => nomatch h)⟩)⟩)⟩)⟩⟩⟩)
theorem ef_si3 (m : MethodId) (x0 : Addr) (x1 : Addr) : entryFrame m #[(.ref x0), (.ref x1)] 2 = mkF m 0 #[.val (.ref x0), .val (.ref x1)] [] := by first | (simp [entryFrame, mkF, argsToLocals, Value.category]; done) | rfl
set_option maxRecDepth 65536 in
set_option maxHeartbeats 40000000 in
theorem rmsi3 (l : Launch) (Z : State) (a0 : Array Value) (hw : ∀ d ∈ tables_1, d.before a0 Z = true) (ws : List Jvm.Cond) (a1 a2 : Addr) (kc : ClassId) (c0 c1 c2 : Int32) (g1 : Int32) (h0 : Heap) (n0 : Nat) (Z0 : n0 ≤ h0.size) (E1 : Exa Z h0 a1 "java/lang/String") (Fc : Fld Z h0 a1 "java/lang/String" "coder" "B" (.int (0 : Int32))) (Fv : Fld Z h0 a1 "java/lang/String" "value" "[B" .null) (Vc : Arv Z h0 a2 kc .char (3 : Int32) [(.int c0), (.int c1), (.int c2)] (.int (0 : Int32))) (g_a1 : n0 ≤ a1) (hb0 : 0 ≤ c0.toInt ∧ c0.toInt < 65536) (hb1 : 0 ≤ c1.toInt ∧ c1.toInt < 65536) (hb2 : 0 ≤ c2.toInt ∧ c2.toInt < 65536) (SC : Sta Z h0 "java/lang/String" "COMPACT_STRINGS" "Z" (.int g1)) (hg1 : ¬ (g1 = (0 : Int32))) (SA : Sta Z h0 "java/lang/StringUTF16" "$assertionsDisabled" "Z" (.int (1 : Int32))) (SHI : Sta Z h0 "java/lang/StringUTF16" "HI_BYTE_SHIFT" "I" (.int (0 : Int32))) (SLO : Sta Z h0 "java/lang/StringUTF16" "LO_BYTE_SHIFT" "I" (.int (8 : Int32))) :
    MetFree l mN_19 (head1 (Jvm.Cond.code mN_19 jdk_42_method_3_code 2 none :: ws) ({ frames := 5, cells := 2, slots := 9, locals := 74 } : Room)) (fun a U => a = #[(.ref a1), (.ref a2)] ∧ Z.Warmed39 U.vm ∧ U.heap = h0) (fun _ _ _ _ _ => True) (fun _ U o U' => ∃ v L, o = .returned v ∧ (Qsv3 Z a1 c0 c1 c2 h0 n0) v U'.heap L ∧ FrameEnd U o U' L ({ frames := 5, cells := 2, slots := 9, locals := 74 } : Room).cells ({ frames := 5, cells := 2, slots := 9, locals := 74 } : Room).slots) := by
  refine MetFree.of_bodySF (plainFor_of_name pn_1) hisR ?_
  intro p e s m args below meth c s₁ Bd hml0 hP hK
  obtain ⟨rfl, hZ, hh⟩ := hP
  have hx := Bd.exec
  have hby := Bd.bytes
  have hml : c.maxLocals = 2 := hml0
  have hown : s.vm.findClass "java/lang/String" = some m.cls := findClass_of_methodNamed Bd.named
  have hnm := (name_of_methodNamed Bd.named Bd.method).1
  have hlk := Bd.notSynchronized
  have X0 : Stand p l e ({ frames := 5, cells := 2, slots := 9, locals := 74 } : Room) s m #[(.ref a1), (.ref a2)] below meth c s₁ [] 0 0 := Stand.of_body Bd
  have e0 : s₁.heap = h0 := by rw [← hh, Bd.state]; rfl
  have N0 := Fr.nil n0
  have KK := Keep.refl h0 [a1]
  show own_Ends p e below s FrameEnd (Qsv3 Z a1 c0 c1 c2 h0 n0) 2 9 (s₁.setTop (entryFrame m #[(.ref a1), (.ref a2)] 2))
  refine own_of (U' := (s₁.setTop (mkF m 0 #[.val (.ref a1), .val (.ref a2)] []))) (fun _ k => castTop (ef_si3 m a1 a2) k) ?_
  refine own_aloadN X0 hx hby d1_0 rfl rfl ?_
  refine own_aloadN X0 hx hby d1_1 rfl rfl ?_
  refine own_iconst X0 hx hby 0 d1_2 rfl ?_
  refine own_aloadN X0 hx hby d1_3 rfl rfl ?_
  obtain ⟨cl227, Ar227, qa227, Sa227, Na227, -, -⟩ := id Vc
  have al227 := X0.arraylength hx (by rw [e0]; exact Ar227.1) (State.isArrayOf_alike hZ.alike Ar227.2.1) (g := (mkF m 4 #[.val (.ref a1), .val (.ref a2)] [(.ref a2), (.int (0 : Int32)), (.ref a2), (.ref a1)])) rfl rfl (hb hby d1_4)
  rw [len_of Sa227 Na227] at al227
  refine own_of (U' := (s₁.setTop (mkF m 5 #[.val (.ref a1), .val (.ref a2)] [(.int (3 : Int32)), (.int (0 : Int32)), (.ref a2), (.ref a1)]))) (al227) ?_
  refine own_aconstNull X0 hx hby d1_5 ?_
  obtain ⟨_, _, ⟨T228, L228, k228, n228⟩, -, X228, ⟨Lc228, hQ228, l228, y228, z228⟩, st228⟩ := X0.specialBack hx (y := mN_18) rfl hown (mvT hZ (own_w hw 7 rfl)) (mvT hZ (own_w hw 8 rfl)) (mvT hZ (own_w hw 10 rfl)) (by decide) (backOf (W := 0) (rmsv3 l Z a0 hw [] a1 a2 kc c0 c1 c2 g1 h0 n0 Z0 E1 Fc Fv Vc g_a1 hb0 hb1 hb2 SC hg1 SA SHI SLO) hZ (own_w hw 10 rfl) (own_w hw 2 rfl) (by decide) (by decide)) (g := (mkF m 6 #[.val (.ref a1), .val (.ref a2)] [.null, (.int (3 : Int32)), (.int (0 : Int32)), (.ref a2), (.ref a1)])) rfl (by rw [hml]; rfl) (Steps.refl _) (a := a1) (argsL := [(.ref a2), (.int (0 : Int32)), (.int (3 : Int32)), .null]) (rest := []) (lenOf pd_13 rfl) rfl (by show 2 * 0 + _ ≤ _; exact Nat.le_of_eq rfl) (hb hby d1_6) (fun _ _ => ⟨rfl, e0, (by decide : 0 + 2 ≤ _), (by decide : 0 + 9 ≤ _)⟩)
  dsimp only [Pt.U, Pt.locs, Pt.cells, Pt.slots] at X228 l228 y228 z228 st228 hQ228
  subst l228 y228 z228
  obtain ⟨rfl, Nq228, Kp228, Tq228⟩ := hQ228
  have N228 := Fr.app N0 Nq228
  have nst_a1 := E1.nostat
  replace Z0 := Nat.le_trans Z0 Kp228.1
  replace E1 := E1.keep Kp228
  replace SC := own_staKeep SC Kp228 (nsS nst_a1 ns0)
  replace SA := own_staKeep SA Kp228 (nsS nst_a1 ns0)
  replace SHI := own_staKeep SHI Kp228 (nsS nst_a1 ns0)
  replace SLO := own_staKeep SLO Kp228 (nsS nst_a1 ns0)
  replace KK := KK.trans Kp228 (allS (Or.inl (List.mem_of_getElem? (i := 0) rfl)) all0)
  refine own_of (U' := (T228.setTop (mkF m 9 #[.val (.ref a1), .val (.ref a2)] []))) (fun _ k => st228.trans k) ?_
  exact own_ret0 X228 hx hlk Bd.returns (hb hby d1_9) (by decide) (by decide) (⟨rfl, N228, KK, Tq228⟩)
def own_nil : List Int32 := []
def Qsv0 (Z : State) (a1 : Addr) (h0 : Heap) (n0 : Nat) (v : Option Value) (h : Heap) (L : List Loc) : Prop := v = none ∧ Fr n0 L ∧ Keep h0 h [a1] ∧ own_Str Z h a1 (0 : Int32) (0 : Int32) []
theorem d2_8 : decode jdk_42_method_149_code 8 = .ok (.aload_n 0, 1) := by decide +kernel
theorem d2_9 : decode jdk_42_method_149_code 9 = .ok (.ldc 7, 2) := by decide +kernel
theorem d2_11 : decode jdk_42_method_149_code 11 = .ok (.getfield 9, 3) := by decide +kernel
theorem d2_14 : decode jdk_42_method_149_code 14 = .ok (.putfield 9, 3) := by decide +kernel
theorem d2_17 : decode jdk_42_method_149_code 17 = .ok (.aload_n 0, 1) := by decide +kernel
theorem d2_18 : decode jdk_42_method_149_code 18 = .ok (.ldc 7, 2) := by decide +kernel
theorem d2_20 : decode jdk_42_method_149_code 20 = .ok (.getfield 15, 3) := by decide +kernel
theorem d2_23 : decode jdk_42_method_149_code 23 = .ok (.putfield 15, 3) := by decide +kernel
theorem d2_26 : decode jdk_42_method_149_code 26 = .ok (.return_, 1) := by decide +kernel
theorem ef_sv0 (m : MethodId) (x0 : Addr) (x1 : Addr) : entryFrame m #[(.ref x0), (.ref x1), (.int (0 : Int32)), (.int (0 : Int32)), .null] 6 = mkF m 0 #[.val (.ref x0), .val (.ref x1), .val (.int (0 : Int32)), .val (.int (0 : Int32)), .val .null, .unset] [] := by first | (simp [entryFrame, mkF, argsToLocals, Value.category]; done) | rfl
set_option maxRecDepth 65536 in
set_option maxHeartbeats 40000000 in
theorem rmsv0 (l : Launch) (Z : State) (a0 : Array Value) (hw : ∀ d ∈ tables_1, d.before a0 Z = true) (ws : List Jvm.Cond) (a1 a2 : Addr) (kc : ClassId) (h0 : Heap) (n0 : Nat) (Z0 : n0 ≤ h0.size) (hEL : EW Z a0 consts_1) (E1 : Exa Z h0 a1 "java/lang/String") (Fc : Fld Z h0 a1 "java/lang/String" "coder" "B" (.int (0 : Int32))) (Fv : Fld Z h0 a1 "java/lang/String" "value" "[B" .null) (Vc : Arv Z h0 a2 kc .char (0 : Int32) [] (.int (0 : Int32))) (g_a1 : n0 ≤ a1) :
    MetFree l mN_18 (head1 (Jvm.Cond.code mN_18 jdk_42_method_149_code 6 none :: ws) ({ frames := 1, cells := 2, slots := 4, locals := 12 } : Room)) (fun a U => a = #[(.ref a1), (.ref a2), (.int (0 : Int32)), (.int (0 : Int32)), .null] ∧ Z.Warmed39 U.vm ∧ U.heap = h0 ∧ CHv Z consts_1 U.vm h0) (fun _ _ _ _ _ => True) (fun _ U o U' => ∃ v L, o = .returned v ∧ (Qsv0 Z a1 h0 n0) v U'.heap L ∧ ReturnedEndW U o U' L ({ frames := 1, cells := 2, slots := 4, locals := 12 } : Room).cells ({ frames := 1, cells := 2, slots := 4, locals := 12 } : Room).slots) := by
  refine MetFree.of_bodySF (plainFor_of_name pn_1) hisR ?_
  intro p e s m args below meth c s₁ Bd hml0 hP hK
  obtain ⟨rfl, hZ, hh, HH⟩ := hP
  have hx := Bd.exec
  have hby := Bd.bytes
  have hml : c.maxLocals = 6 := hml0
  have hown : s.vm.findClass "java/lang/String" = some m.cls := findClass_of_methodNamed Bd.named
  have hnm := (name_of_methodNamed Bd.named Bd.method).1
  have hlk := Bd.notSynchronized
  have X0 : Stand p l e ({ frames := 1, cells := 2, slots := 4, locals := 12 } : Room) (s.setVm s.vm) m #[(.ref a1), (.ref a2), (.int (0 : Int32)), (.int (0 : Int32)), .null] below meth c s₁ [] 0 0 := Stand.of_body Bd
  have hS := (State.WarmedH.refl s).since 0
  have hkS : 0 ≤ h0.size := Nat.zero_le _
  replace hZ : Z.Warmed39 (s.setVm s.vm).vm := hZ
  replace hown : (s.setVm s.vm).vm.findClass "java/lang/String" = some m.cls := hown
  replace HH : CHv Z consts_1 s.vm h0 := HH
  have e0 : s₁.heap = h0 := by rw [← hh, Bd.state]; rfl
  have N0 := Fr.nil n0
  have KK := Keep.refl h0 [a1]
  show own_Ends p e below s ReturnedEndW (Qsv0 Z a1 h0 n0) 2 4 (s₁.setTop (entryFrame m #[(.ref a1), (.ref a2), (.int (0 : Int32)), (.int (0 : Int32)), .null] 6))
  refine own_of (U' := (s₁.setTop (mkF m 0 #[.val (.ref a1), .val (.ref a2), .val (.int (0 : Int32)), .val (.int (0 : Int32)), .val .null, .unset] []))) (fun _ k => castTop (ef_sv0 m a1 a2) k) ?_
  refine own_aloadN X0 hx hby d2_0 rfl rfl ?_
  obtain ⟨T229, X229, e229, st229⟩ := initO X0 hx hZ hown (own_w hw 11 rfl) (own_w hw 12 rfl) (own_w hw 13 rfl) e0 (g := (mkF m 1 #[.val (.ref a1), .val (.ref a2), .val (.int (0 : Int32)), .val (.int (0 : Int32)), .val .null, .unset] [(.ref a1)])) rfl (by rw [hml]; rfl) rfl (hb hby d2_1) (by decide) (W := 0) (by show 2 * 0 + _ ≤ _; exact Nat.le_of_eq rfl) (by decide)
  refine own_of (U' := (T229.setTop (mkF m 4 #[.val (.ref a1), .val (.ref a2), .val (.int (0 : Int32)), .val (.int (0 : Int32)), .val .null, .unset] []))) (st229) ?_
  refine own_iloadN X229 hx hby d2_4 rfl ?_
  have hc5_230 : (0 : Int32) = (0 : Int32) := by decide
  refine own_ifNo X229 hx hby d2_5 ((if0 _ _).trans (teq hc5_230).2) ?_
  refine own_aloadN X229 hx hby d2_8 rfl rfl ?_
  obtain ⟨a231, T231, h231, k231, b231, kb231, X231, e231, E231, hS, hkN231, hZ, hown, Es231, Fc231, Fv231, Vb231, -, -, CH231, Lt231, -, st231⟩ := ldcCH X229 hx hZ hown (own_w hw 14 rfl) (own_strAtoms hw) e229 hS hkS hEL (List.mem_of_getElem? (i := 0) rfl) HH (vs := own_nil.map Value.int) (z := (0 : Int32)) ⟨by decide +kernel, by decide +kernel⟩ (by decide) (by decide +kernel) (g := (mkF m 9 #[.val (.ref a1), .val (.ref a2), .val (.int (0 : Int32)), .val (.int (0 : Int32)), .val .null, .unset] [(.ref a1)])) rfl (hb hby d2_9) (n := 0) (by decide +kernel) (by decide) (by decide) (by decide)
  replace Z0 := Nat.le_trans Z0 E231.1
  replace E1 := E1.ext E231
  replace Fc := Fc.ext E231
  replace Fv := Fv.ext E231
  replace Vc := Vc.ext E231
  replace KK := KK.ext E231
  have hkS := hkN231
  have HH := CH231.1
  refine own_of (U' := (T231.setTop (mkF m 11 #[.val (.ref a1), .val (.ref a2), .val (.int (0 : Int32)), .val (.int (0 : Int32)), .val .null, .unset] [(.ref a231), (.ref a1)]))) (st231) ?_
  have ne_a1_b231 : a1 ≠ b231 := Exa.neArv E1 Vb231 (own_w hw 1 rfl)
  obtain ⟨T232, X232, e232, st232⟩ := getF X231 hx hZ hown (host := "") (Or.inl (own_w hw 20 rfl)) Via.refl e231 Fv231 (g := (mkF m 11 #[.val (.ref a1), .val (.ref a2), .val (.int (0 : Int32)), .val (.int (0 : Int32)), .val .null, .unset] [(.ref a231), (.ref a1)])) rfl rfl (hb hby d2_11)
  refine own_of (U' := (T232.setTop (mkF m 14 #[.val (.ref a1), .val (.ref a2), .val (.int (0 : Int32)), .val (.int (0 : Int32)), .val .null, .unset] [(.ref b231), (.ref a1)]))) (st232) ?_
  obtain ⟨T233, h233, X233, e233, W233, st233⟩ := putF X232 hx hZ hown (host := "") (Or.inl (own_w hw 20 rfl)) Via.refl e232 Fv E1 (Or.inr ⟨(own_w hw 16 rfl), rfl, hnm⟩) (own_w hw 1 rfl) (ty := (.array .byte)) (by decide) rfl rfl (g := (mkF m 14 #[.val (.ref a1), .val (.ref a2), .val (.int (0 : Int32)), .val (.int (0 : Int32)), .val .null, .unset] [(.ref b231), (.ref a1)])) rfl rfl (hb hby d2_14)
  replace Z0 := Nat.le_trans Z0 (Keep.of_wr W233).1
  replace E1 := E1.wr W233
  replace Fc := Fc.other W233 (Or.inr (slot_ne (Or.inr (own_w hw 17 rfl)) (Or.inr (own_w hw 16 rfl)) (by decide) (t := .byte) (t' := (.array .byte)) (by decide) (by decide)))
  replace Fv := Fv.same W233
  replace KK := KK.wr W233 (Or.inl (List.mem_of_getElem? (i := 0) rfl))
  replace hkS := Nat.le_trans hkS (Keep.of_wr W233).1
  replace Es231 := Es231.wr W233
  replace Fc231 := Fc231.other W233 (Or.inr (slot_ne (Or.inr (own_w hw 17 rfl)) (Or.inr (own_w hw 16 rfl)) (by decide) (t := .byte) (t' := (.array .byte)) (by decide) (by decide)))
  replace Vb231 := Vb231.other W233 (Ne.symm ne_a1_b231)
  have N233 := Fr.snoc X233 N0 g_a1
  refine own_of (U' := (T233.setTop (mkF m 17 #[.val (.ref a1), .val (.ref a2), .val (.int (0 : Int32)), .val (.int (0 : Int32)), .val .null, .unset] []))) (st233) ?_
  refine own_aloadN X233 hx hby d2_17 rfl rfl ?_
  refine own_of (U' := (T233.setTop (mkF m 20 #[.val (.ref a1), .val (.ref a2), .val (.int (0 : Int32)), .val (.int (0 : Int32)), .val .null, .unset] [(.ref a231), (.ref a1)]))) (ldcAgain X233 hx hZ hown (own_w hw 14 rfl) Lt231 (g := (mkF m 18 #[.val (.ref a1), .val (.ref a2), .val (.int (0 : Int32)), .val (.int (0 : Int32)), .val .null, .unset] [(.ref a1)])) rfl (hb hby d2_18)) ?_
  obtain ⟨T234, X234, e234, st234⟩ := getF X233 hx hZ hown (host := "") (Or.inl (own_w hw 21 rfl)) Via.refl e233 Fc231 (g := (mkF m 20 #[.val (.ref a1), .val (.ref a2), .val (.int (0 : Int32)), .val (.int (0 : Int32)), .val .null, .unset] [(.ref a231), (.ref a1)])) rfl rfl (hb hby d2_20)
  refine own_of (U' := (T234.setTop (mkF m 23 #[.val (.ref a1), .val (.ref a2), .val (.int (0 : Int32)), .val (.int (0 : Int32)), .val .null, .unset] [(.int (0 : Int32)), (.ref a1)]))) (st234) ?_
  obtain ⟨T235, h235, X235, e235, W235, st235⟩ := putFN X234 hx hZ hown (own_w hw 21 rfl) Via.refl e234 Fc E1 (Or.inr ⟨(own_w hw 17 rfl), rfl, hnm⟩) (own_w hw 1 rfl) (ty := .byte) (v' := (.int (0 : Int32))) (by decide) rfl (by decide) (g := (mkF m 23 #[.val (.ref a1), .val (.ref a2), .val (.int (0 : Int32)), .val (.int (0 : Int32)), .val .null, .unset] [(.int (0 : Int32)), (.ref a1)])) rfl rfl (hb hby d2_23)
  replace Z0 := Nat.le_trans Z0 (Keep.of_wr W235).1
  replace E1 := E1.wr W235
  replace Fc := Fc.same W235
  replace Fv := Fv.other W235 (Or.inr (slot_ne (Or.inr (own_w hw 16 rfl)) (Or.inr (own_w hw 17 rfl)) (by decide) (t := (.array .byte)) (t' := .byte) (by decide) (by decide)))
  replace KK := KK.wr W235 (Or.inl (List.mem_of_getElem? (i := 0) rfl))
  replace hkS := Nat.le_trans hkS (Keep.of_wr W235).1
  replace Es231 := Es231.wr W235
  replace Vb231 := Vb231.other W235 (Ne.symm ne_a1_b231)
  have N235 := Fr.snoc X235 N233 g_a1
  refine own_of (U' := (T235.setTop (mkF m 26 #[.val (.ref a1), .val (.ref a2), .val (.int (0 : Int32)), .val (.int (0 : Int32)), .val .null, .unset] []))) (st235) ?_
  exact own_ret0W X235 hx hlk hS (by rw [e235]; exact hkS) Bd.returns (hb hby d2_26) (by decide) (by decide) (by rw [e235]; exact ⟨rfl, N235, KK, ⟨E1, b231, kb231, Fv, Or.inl ⟨Fc, Vb231, fun _ h => nomatch h⟩⟩⟩)
theorem ef_si0 (m : MethodId) (x0 : Addr) (x1 : Addr) : entryFrame m #[(.ref x0), (.ref x1)] 2 = mkF m 0 #[.val (.ref x0), .val (.ref x1)] [] := by first | (simp [entryFrame, mkF, argsToLocals, Value.category]; done) | rfl
set_option maxRecDepth 65536 in
set_option maxHeartbeats 40000000 in
theorem rmsi0 (l : Launch) (Z : State) (a0 : Array Value) (hw : ∀ d ∈ tables_1, d.before a0 Z = true) (ws : List Jvm.Cond) (a1 a2 : Addr) (kc : ClassId) (h0 : Heap) (n0 : Nat) (Z0 : n0 ≤ h0.size) (hEL : EW Z a0 consts_1) (E1 : Exa Z h0 a1 "java/lang/String") (Fc : Fld Z h0 a1 "java/lang/String" "coder" "B" (.int (0 : Int32))) (Fv : Fld Z h0 a1 "java/lang/String" "value" "[B" .null) (Vc : Arv Z h0 a2 kc .char (0 : Int32) [] (.int (0 : Int32))) (g_a1 : n0 ≤ a1) :
    MetFree l mN_19 (head1 (Jvm.Cond.code mN_19 jdk_42_method_3_code 2 none :: ws) ({ frames := 2, cells := 2, slots := 4, locals := 29 } : Room)) (fun a U => a = #[(.ref a1), (.ref a2)] ∧ Z.Warmed39 U.vm ∧ U.heap = h0 ∧ CHv Z consts_1 U.vm h0) (fun _ _ _ _ _ => True) (fun _ U o U' => ∃ v L, o = .returned v ∧ (Qsv0 Z a1 h0 n0) v U'.heap L ∧ ReturnedEndW U o U' L ({ frames := 2, cells := 2, slots := 4, locals := 29 } : Room).cells ({ frames := 2, cells := 2, slots := 4, locals := 29 } : Room).slots) := by
  refine MetFree.of_bodySF (plainFor_of_name pn_1) hisR ?_
  intro p e s m args below meth c s₁ Bd hml0 hP hK
  obtain ⟨rfl, hZ, hh, HH⟩ := hP
  have hx := Bd.exec
  have hby := Bd.bytes
  have hml : c.maxLocals = 2 := hml0
  have hown : s.vm.findClass "java/lang/String" = some m.cls := findClass_of_methodNamed Bd.named
  have hnm := (name_of_methodNamed Bd.named Bd.method).1
  have hlk := Bd.notSynchronized
  have X0 : Stand p l e ({ frames := 2, cells := 2, slots := 4, locals := 29 } : Room) (s.setVm s.vm) m #[(.ref a1), (.ref a2)] below meth c s₁ [] 0 0 := Stand.of_body Bd
  have hS := (State.WarmedH.refl s).since 0
  have hkS : 0 ≤ h0.size := Nat.zero_le _
  replace hZ : Z.Warmed39 (s.setVm s.vm).vm := hZ
  replace hown : (s.setVm s.vm).vm.findClass "java/lang/String" = some m.cls := hown
  replace HH : CHv Z consts_1 s.vm h0 := HH
  have e0 : s₁.heap = h0 := by rw [← hh, Bd.state]; rfl
  have N0 := Fr.nil n0
  have KK := Keep.refl h0 [a1]
  show own_Ends p e below s ReturnedEndW (Qsv0 Z a1 h0 n0) 2 4 (s₁.setTop (entryFrame m #[(.ref a1), (.ref a2)] 2))
  refine own_of (U' := (s₁.setTop (mkF m 0 #[.val (.ref a1), .val (.ref a2)] []))) (fun _ k => castTop (ef_si0 m a1 a2) k) ?_
  refine own_aloadN X0 hx hby d1_0 rfl rfl ?_
  refine own_aloadN X0 hx hby d1_1 rfl rfl ?_
  refine own_iconst X0 hx hby 0 d1_2 rfl ?_
  refine own_aloadN X0 hx hby d1_3 rfl rfl ?_
  obtain ⟨cl236, Ar236, qa236, Sa236, Na236, -, -⟩ := id Vc
  have al236 := X0.arraylength hx (by rw [e0]; exact Ar236.1) (State.isArrayOf_alike hZ.alike Ar236.2.1) (g := (mkF m 4 #[.val (.ref a1), .val (.ref a2)] [(.ref a2), (.int (0 : Int32)), (.ref a2), (.ref a1)])) rfl rfl (hb hby d1_4)
  rw [len_of Sa236 Na236] at al236
  refine own_of (U' := (s₁.setTop (mkF m 5 #[.val (.ref a1), .val (.ref a2)] [(.int (0 : Int32)), (.int (0 : Int32)), (.ref a2), (.ref a1)]))) (al236) ?_
  refine own_aconstNull X0 hx hby d1_5 ?_
  obtain ⟨_, _, ⟨T237, L237, k237, n237⟩, -, X237, sn237, gr237, ⟨Lc237, hQ237, l237, y237, z237⟩, st237⟩ := X0.specialBackS hx (y := mN_18) rfl hown (mvT hZ (own_w hw 7 rfl)) (mvT hZ (own_w hw 8 rfl)) (mvT hZ (own_w hw 10 rfl)) (by decide) (own_backSC (W := 0) (rmsv0 l Z a0 hw [] a1 a2 kc h0 n0 Z0 hEL E1 Fc Fv Vc g_a1) hEL HH hZ (own_w hw 10 rfl) (own_w hw 2 rfl) (by decide) (by decide)) (g := (mkF m 6 #[.val (.ref a1), .val (.ref a2)] [.null, (.int (0 : Int32)), (.int (0 : Int32)), (.ref a2), (.ref a1)])) rfl (by rw [hml]; rfl) (Steps.refl _) (a := a1) (argsL := [(.ref a2), (.int (0 : Int32)), (.int (0 : Int32)), .null]) (rest := []) (lenOf pd_13 rfl) rfl (by show 2 * 0 + _ ≤ _; exact Nat.le_of_eq rfl) (hb hby d1_6) (fun _ _ => ⟨rfl, e0, (by decide : 0 + 2 ≤ _), (by decide : 0 + 4 ≤ _)⟩)
  dsimp only [Pt.U, Pt.locs, Pt.cells, Pt.slots] at X237 sn237 gr237 l237 y237 z237 st237 hQ237
  subst l237 y237 z237
  obtain ⟨X237, hS, hZ, hown⟩ := rebS hS (by rw [e0]; exact hkS) X237 sn237 gr237 hZ hown
  replace hkS : T237.heap.size ≤ T237.heap.size := Nat.le_refl _
  obtain ⟨rfl, Nq237, Kp237, Tq237⟩ := hQ237
  have N237 := Fr.app N0 Nq237
  replace Z0 := Nat.le_trans Z0 Kp237.1
  replace E1 := E1.keep Kp237
  replace KK := KK.trans Kp237 (allS (Or.inl (List.mem_of_getElem? (i := 0) rfl)) all0)
  refine own_of (U' := (T237.setTop (mkF m 9 #[.val (.ref a1), .val (.ref a2)] []))) (fun _ k => st237.trans k) ?_
  exact own_ret0W X237 hx hlk hS hkS Bd.returns (hb hby d1_9) (by decide) (by decide) (⟨rfl, N237, KK, Tq237⟩)
abbrev mN_20 : MethodName := ⟨"com/example/svyazka/svyazka/http/Syntax", "isFieldValue", "(Ljava/lang/String;)Z"⟩
theorem pd_14 : parseMethodDescriptor "()I" = some ⟨[], some .int⟩ := by decide +kernel
theorem d4_0 : decode prog_27_method_3_code 0 = .ok (.iconst 0, 1) := by decide +kernel
theorem d4_1 : decode prog_27_method_3_code 1 = .ok (.istore_n 1, 1) := by decide +kernel
theorem d4_2 : decode prog_27_method_3_code 2 = .ok (.iload_n 1, 1) := by decide +kernel
theorem d4_3 : decode prog_27_method_3_code 3 = .ok (.aload_n 0, 1) := by decide +kernel
theorem d4_4 : decode prog_27_method_3_code 4 = .ok (.invokevirtual 15, 3) := by decide +kernel
theorem d4_7 : decode prog_27_method_3_code 7 = .ok (.if_icmp .ge 42, 3) := by decide +kernel
theorem d4_49 : decode prog_27_method_3_code 49 = .ok (.iconst 1, 1) := by decide +kernel
theorem d4_50 : decode prog_27_method_3_code 50 = .ok (.ireturn, 1) := by decide +kernel
theorem pn_4 : plainName "com/example/svyazka/svyazka/http/Syntax" = true := by first | (simp [plainName, overriddenIn]; done) | decide +kernel
theorem ef_fv0 (m : MethodId) (x0 : Addr) : entryFrame m #[(.ref x0)] 3 = mkF m 0 #[.val (.ref x0), .unset, .unset] [] := by first | (simp [entryFrame, mkF, argsToLocals, Value.category]; done) | rfl
set_option maxRecDepth 65536 in
set_option maxHeartbeats 40000000 in
theorem rmfv0 (l : Launch) (Z : State) (a0 : Array Value) (hw : ∀ d ∈ tables_1, d.before a0 Z = true) (ws : List Jvm.Cond) (a1 : Addr)  (g1 : Int32) (rS : Value) (h0 : Heap) (n0 : Nat) (Z0 : n0 ≤ h0.size) (T1 : own_Str Z h0 a1 (0 : Int32) (0 : Int32) [])  (SC : Sta Z h0 "java/lang/String" "COMPACT_STRINGS" "Z" (.int g1)) (hg1 : ¬ (g1 = (0 : Int32))) (SA : Sta Z h0 "java/lang/StringUTF16" "$assertionsDisabled" "Z" (.int (1 : Int32))) (SHI : Sta Z h0 "java/lang/StringUTF16" "HI_BYTE_SHIFT" "I" (.int (0 : Int32))) (SLO : Sta Z h0 "java/lang/StringUTF16" "LO_BYTE_SHIFT" "I" (.int (8 : Int32))) (SF : Sta Z h0 "jdk/internal/util/Preconditions" "SIOOBE_FORMATTER" "Ljava/util/function/BiFunction;" rS) (hrS : rS.isRef = true) :
    MetFree l mN_20 (head1 (Jvm.Cond.code mN_20 prog_27_method_3_code 3 (some .boolean) :: ws) ({ frames := 2, cells := 0, slots := 0, locals := 26 } : Room)) (fun a U => a = #[(.ref a1)] ∧ Z.Warmed39 U.vm ∧ U.heap = h0) (fun _ _ _ _ _ => True) (fun _ U o U' => ∃ v L, o = .returned v ∧ (Qv (own_fv []) h0 n0) v U'.heap L ∧ FrameEnd U o U' L ({ frames := 2, cells := 0, slots := 0, locals := 26 } : Room).cells ({ frames := 2, cells := 0, slots := 0, locals := 26 } : Room).slots) := by
  refine MetFree.of_bodySF (plainFor_of_name pn_4) hisR ?_
  intro p e s m args below meth c s₁ Bd hml0 hP hK
  obtain ⟨rfl, hZ, hh⟩ := hP
  have hx := Bd.exec
  have hby := Bd.bytes
  have hml : c.maxLocals = 3 := hml0
  have hown : s.vm.findClass "com/example/svyazka/svyazka/http/Syntax" = some m.cls := findClass_of_methodNamed Bd.named
  have hnm := (name_of_methodNamed Bd.named Bd.method).1
  have hlk := Bd.notSynchronized
  have X0 : Stand p l e ({ frames := 2, cells := 0, slots := 0, locals := 26 } : Room) s m #[(.ref a1)] below meth c s₁ [] 0 0 := Stand.of_body Bd
  have e0 : s₁.heap = h0 := by rw [← hh, Bd.state]; rfl
  have N0 := Fr.nil n0
  show own_Ends p e below s FrameEnd (Qv (own_fv []) h0 n0) 0 0 (s₁.setTop (entryFrame m #[(.ref a1)] 3))
  refine own_of (U' := (s₁.setTop (mkF m 0 #[.val (.ref a1), .unset, .unset] []))) (fun _ k => castTop (ef_fv0 m a1) k) ?_
  have E1 := T1.1
  refine own_iconst X0 hx hby 0 d4_0 rfl ?_
  refine own_istoreN X0 hx hby d4_1 (l' := #[.val (.ref a1), .val (.int (0 : Int32)), .unset]) rfl ?_
  refine own_iloadN X0 hx hby d4_2 rfl ?_
  refine own_aloadN X0 hx hby d4_3 rfl rfl ?_
  obtain ⟨cq238, kq238, q238a, q238b, q238c⟩ := isOf hZ e0 E1
  obtain ⟨_, _, ⟨T238, L238, k238, n238⟩, -, X238, ⟨Lc238, hQ238, l238, y238, z238⟩, st238⟩ := X0.virtualBack hx (y := mN_10) (z := mN_10) hown (mvT hZ (own_w hw 26 rfl)) (mvT hZ (own_w hw 27 rfl)) (notFace_of_selects (args := #[]) (mvT hZ (own_w hw 29 rfl))) (mvT hZ (own_w hw 29 rfl)) (mvT hZ (own_w hw 28 rfl)) (by decide) (backOf (W := 1) (rmlen0 l Z a0 hw [] a1  g1 h0 n0 Z0 T1 SC hg1) hZ (own_w hw 30 rfl) (own_w hw 2 rfl) (by decide) (by decide)) q238a q238c (g := (mkF m 4 #[.val (.ref a1), .val (.int (0 : Int32)), .unset] [(.ref a1), (.int (0 : Int32))])) rfl (by rw [hml]; rfl) (Steps.refl _) (argsL := []) (rest := [(.int (0 : Int32))]) (lenOf pd_14 rfl) rfl (by show 2 * 0 + _ ≤ _; exact Nat.le_of_eq rfl) (hb hby d4_4) (fun _ _ => ⟨rfl, e0, (by decide : 0 + 0 ≤ _), (by decide : 0 + 0 ≤ _)⟩)
  dsimp only [Pt.U, Pt.locs, Pt.cells, Pt.slots] at X238 l238 y238 z238 st238 hQ238
  subst l238 y238 z238
  obtain ⟨rfl, Nq238, e238⟩ := hQ238
  have N238 := Fr.app N0 Nq238
  refine own_of (U' := (T238.setTop (mkF m 7 #[.val (.ref a1), .val (.int (0 : Int32)), .unset] [(.int (0 : Int32)), (.int (0 : Int32))]))) (fun _ k => st238.trans k) ?_
  have hc7_239 : ¬ ((0 : Int32) < (0 : Int32)) := by decide
  refine own_icmpYes X238 hx hby 7 49 d4_7 (flt hc7_239).2.1 (by decide) (by decide) ?_
  refine own_iconst X238 hx hby 1 d4_49 rfl ?_
  exact own_retN X238 hx hlk (t := .boolean) Bd.returns (by simp) (hb hby d4_50) (by decide) (by decide) (⟨congrArg (fun z => some (Value.int z)) (show nar .boolean (1 : Int32) = own_fv [] from by simp only [own_fv, own_fok, own_b0, own_b1, reduceIte, Bool.false_eq_true]), N238, e238⟩)
theorem pd_15 : parseMethodDescriptor "(I)C" = some ⟨[.int], some .char⟩ := by decide +kernel
theorem d4_10 : decode prog_27_method_3_code 10 = .ok (.aload_n 0, 1) := by decide +kernel
theorem d4_11 : decode prog_27_method_3_code 11 = .ok (.iload_n 1, 1) := by decide +kernel
theorem d4_12 : decode prog_27_method_3_code 12 = .ok (.invokevirtual 19, 3) := by decide +kernel
theorem d4_15 : decode prog_27_method_3_code 15 = .ok (.istore_n 2, 1) := by decide +kernel
theorem d4_16 : decode prog_27_method_3_code 16 = .ok (.iload_n 2, 1) := by decide +kernel
theorem d4_17 : decode prog_27_method_3_code 17 = .ok (.sipush 255, 3) := by decide +kernel
theorem d4_20 : decode prog_27_method_3_code 20 = .ok (.if_icmp .gt 21, 3) := by decide +kernel
theorem d4_23 : decode prog_27_method_3_code 23 = .ok (.iload_n 2, 1) := by decide +kernel
theorem d4_24 : decode prog_27_method_3_code 24 = .ok (.bipush 32, 2) := by decide +kernel
theorem d4_26 : decode prog_27_method_3_code 26 = .ok (.if_icmp .ge 9, 3) := by decide +kernel
theorem d4_29 : decode prog_27_method_3_code 29 = .ok (.iload_n 2, 1) := by decide +kernel
theorem d4_30 : decode prog_27_method_3_code 30 = .ok (.bipush 9, 2) := by decide +kernel
theorem d4_32 : decode prog_27_method_3_code 32 = .ok (.if_icmp .ne 9, 3) := by decide +kernel
theorem d4_35 : decode prog_27_method_3_code 35 = .ok (.iload_n 2, 1) := by decide +kernel
theorem d4_36 : decode prog_27_method_3_code 36 = .ok (.bipush 127, 2) := by decide +kernel
theorem d4_38 : decode prog_27_method_3_code 38 = .ok (.if_icmp .ne 5, 3) := by decide +kernel
theorem d4_41 : decode prog_27_method_3_code 41 = .ok (.iconst 0, 1) := by decide +kernel
theorem d4_42 : decode prog_27_method_3_code 42 = .ok (.ireturn, 1) := by decide +kernel
theorem d4_43 : decode prog_27_method_3_code 43 = .ok (.iinc 1 1, 3) := by decide +kernel
theorem d4_46 : decode prog_27_method_3_code 46 = .ok (.goto (-44), 3) := by decide +kernel
theorem ef_fv1 (m : MethodId) (x0 : Addr) : entryFrame m #[(.ref x0)] 3 = mkF m 0 #[.val (.ref x0), .unset, .unset] [] := by first | (simp [entryFrame, mkF, argsToLocals, Value.category]; done) | rfl
set_option maxRecDepth 65536 in
set_option maxHeartbeats 40000000 in
theorem rmfv1 (l : Launch) (Z : State) (a0 : Array Value) (hw : ∀ d ∈ tables_1, d.before a0 Z = true) (ws : List Jvm.Cond) (a1 : Addr) (c0 : Int32) (g1 : Int32) (rS : Value) (h0 : Heap) (n0 : Nat) (Z0 : n0 ≤ h0.size) (T1 : own_Str Z h0 a1 (1 : Int32) (2 : Int32) [c0]) (hb0 : 0 ≤ c0.toInt ∧ c0.toInt < 65536) (SC : Sta Z h0 "java/lang/String" "COMPACT_STRINGS" "Z" (.int g1)) (hg1 : ¬ (g1 = (0 : Int32))) (SA : Sta Z h0 "java/lang/StringUTF16" "$assertionsDisabled" "Z" (.int (1 : Int32))) (SHI : Sta Z h0 "java/lang/StringUTF16" "HI_BYTE_SHIFT" "I" (.int (0 : Int32))) (SLO : Sta Z h0 "java/lang/StringUTF16" "LO_BYTE_SHIFT" "I" (.int (8 : Int32))) (SF : Sta Z h0 "jdk/internal/util/Preconditions" "SIOOBE_FORMATTER" "Ljava/util/function/BiFunction;" rS) (hrS : rS.isRef = true) :
    MetFree l mN_20 (head1 (Jvm.Cond.code mN_20 prog_27_method_3_code 3 (some .boolean) :: ws) ({ frames := 5, cells := 0, slots := 0, locals := 66 } : Room)) (fun a U => a = #[(.ref a1)] ∧ Z.Warmed39 U.vm ∧ U.heap = h0) (fun _ _ _ _ _ => True) (fun _ U o U' => ∃ v L, o = .returned v ∧ (Qv (own_fv [c0]) h0 n0) v U'.heap L ∧ FrameEnd U o U' L ({ frames := 5, cells := 0, slots := 0, locals := 66 } : Room).cells ({ frames := 5, cells := 0, slots := 0, locals := 66 } : Room).slots) := by
  refine MetFree.of_bodySF (plainFor_of_name pn_4) hisR ?_
  intro p e s m args below meth c s₁ Bd hml0 hP hK
  obtain ⟨rfl, hZ, hh⟩ := hP
  have hx := Bd.exec
  have hby := Bd.bytes
  have hml : c.maxLocals = 3 := hml0
  have hown : s.vm.findClass "com/example/svyazka/svyazka/http/Syntax" = some m.cls := findClass_of_methodNamed Bd.named
  have hnm := (name_of_methodNamed Bd.named Bd.method).1
  have hlk := Bd.notSynchronized
  have X0 : Stand p l e ({ frames := 5, cells := 0, slots := 0, locals := 66 } : Room) s m #[(.ref a1)] below meth c s₁ [] 0 0 := Stand.of_body Bd
  have e0 : s₁.heap = h0 := by rw [← hh, Bd.state]; rfl
  have N0 := Fr.nil n0
  show own_Ends p e below s FrameEnd (Qv (own_fv [c0]) h0 n0) 0 0 (s₁.setTop (entryFrame m #[(.ref a1)] 3))
  refine own_of (U' := (s₁.setTop (mkF m 0 #[.val (.ref a1), .unset, .unset] []))) (fun _ k => castTop (ef_fv1 m a1) k) ?_
  have E1 := T1.1
  refine own_iconst X0 hx hby 0 d4_0 rfl ?_
  refine own_istoreN X0 hx hby d4_1 (l' := #[.val (.ref a1), .val (.int (0 : Int32)), .unset]) rfl ?_
  refine own_iloadN X0 hx hby d4_2 rfl ?_
  refine own_aloadN X0 hx hby d4_3 rfl rfl ?_
  obtain ⟨cq240, kq240, q240a, q240b, q240c⟩ := isOf hZ e0 E1
  obtain ⟨_, _, ⟨T240, L240, k240, n240⟩, -, X240, ⟨Lc240, hQ240, l240, y240, z240⟩, st240⟩ := X0.virtualBack hx (y := mN_10) (z := mN_10) hown (mvT hZ (own_w hw 26 rfl)) (mvT hZ (own_w hw 27 rfl)) (notFace_of_selects (args := #[]) (mvT hZ (own_w hw 29 rfl))) (mvT hZ (own_w hw 29 rfl)) (mvT hZ (own_w hw 28 rfl)) (by decide) (backOf (W := 1) (rmlen1 l Z a0 hw [] a1 c0 g1 h0 n0 Z0 T1 SC hg1) hZ (own_w hw 30 rfl) (own_w hw 2 rfl) (by decide) (by decide)) q240a q240c (g := (mkF m 4 #[.val (.ref a1), .val (.int (0 : Int32)), .unset] [(.ref a1), (.int (0 : Int32))])) rfl (by rw [hml]; rfl) (Steps.refl _) (argsL := []) (rest := [(.int (0 : Int32))]) (lenOf pd_14 rfl) rfl (by show 2 * 0 + _ ≤ _; exact Nat.le_of_eq rfl) (hb hby d4_4) (fun _ _ => ⟨rfl, e0, (by decide : 0 + 0 ≤ _), (by decide : 0 + 0 ≤ _)⟩)
  dsimp only [Pt.U, Pt.locs, Pt.cells, Pt.slots] at X240 l240 y240 z240 st240 hQ240
  subst l240 y240 z240
  obtain ⟨rfl, Nq240, e240⟩ := hQ240
  have N240 := Fr.app N0 Nq240
  refine own_of (U' := (T240.setTop (mkF m 7 #[.val (.ref a1), .val (.int (0 : Int32)), .unset] [(.int (1 : Int32)), (.int (0 : Int32))]))) (fun _ k => st240.trans k) ?_
  have hc7_241 : (0 : Int32) < (1 : Int32) := by decide
  refine own_icmpNo X240 hx hby d4_7 (tlt hc7_241).2.1 ?_
  refine own_aloadN X240 hx hby d4_10 rfl rfl ?_
  refine own_iloadN X240 hx hby d4_11 rfl ?_
  obtain ⟨cq242, kq242, q242a, q242b, q242c⟩ := isOf hZ e240 E1
  obtain ⟨_, _, ⟨T242, L242, k242, n242⟩, -, X242, ⟨Lc242, hQ242, l242, y242, z242⟩, st242⟩ := X240.virtualBack hx (y := mN_7) (z := mN_7) hown (mvT hZ (own_w hw 51 rfl)) (mvT hZ (own_w hw 52 rfl)) (notFace_of_selects (args := #[]) (mvT hZ (own_w hw 54 rfl))) (mvT hZ (own_w hw 54 rfl)) (mvT hZ (own_w hw 53 rfl)) (by decide) (backOf (W := 0) (rmch1_0 l Z a0 hw [] a1 c0 g1 rS h0 n0 Z0 T1 hb0 SC hg1 SA SHI SLO SF hrS) hZ (own_w hw 55 rfl) (own_w hw 2 rfl) (by decide) (by decide)) q242a q242c (g := (mkF m 12 #[.val (.ref a1), .val (.int (0 : Int32)), .unset] [(.int (0 : Int32)), (.ref a1)])) rfl (by rw [hml]; rfl) (Steps.refl _) (argsL := [(.int (0 : Int32))]) (rest := []) (lenOf pd_15 rfl) rfl (by show 2 * 0 + _ ≤ _; exact Nat.le_of_eq rfl) (hb hby d4_12) (fun _ _ => ⟨rfl, e240, (by decide : 0 + 0 ≤ _), (by decide : 0 + 0 ≤ _)⟩)
  dsimp only [Pt.U, Pt.locs, Pt.cells, Pt.slots] at X242 l242 y242 z242 st242 hQ242
  subst l242 y242 z242
  obtain ⟨rfl, Nq242, e242⟩ := hQ242
  have N242 := Fr.app N240 Nq242
  refine own_of (U' := (T242.setTop (mkF m 15 #[.val (.ref a1), .val (.int (0 : Int32)), .unset] [(.int c0)]))) (fun _ k => st242.trans k) ?_
  refine own_istoreN X242 hx hby d4_15 (l' := #[.val (.ref a1), .val (.int (0 : Int32)), .val (.int c0)]) rfl ?_
  refine own_iloadN X242 hx hby d4_16 rfl ?_
  refine own_sipush X242 hx hby 255 d4_17 rfl ?_
  by_cases hc20_243 : (255 : Int32) < c0
  · skip
    refine own_icmpYes X242 hx hby 20 41 d4_20 (tlt hc20_243).2.2.1 (by decide) (by decide) ?_
    refine own_iconst X242 hx hby 0 d4_41 rfl ?_
    exact own_retN X242 hx hlk (t := .boolean) Bd.returns (by simp) (hb hby d4_42) (by decide) (by decide) (⟨congrArg (fun z => some (Value.int z)) (show nar .boolean (0 : Int32) = own_fv [c0] from by simp only [own_fv, own_fok, own_b0, own_b1, if_pos hc20_243, reduceIte, Bool.false_eq_true]), N242, e242⟩)
  · skip
    refine own_icmpNo X242 hx hby d4_20 (flt hc20_243).2.2.1 ?_
    refine own_iloadN X242 hx hby d4_23 rfl ?_
    refine own_bipush X242 hx hby 32 d4_24 rfl ?_
    by_cases hc26_244 : c0 < (32 : Int32)
    · skip
      refine own_icmpNo X242 hx hby d4_26 (tlt hc26_244).2.1 ?_
      refine own_iloadN X242 hx hby d4_29 rfl ?_
      refine own_bipush X242 hx hby 9 d4_30 rfl ?_
      by_cases hc32_245 : c0 = (9 : Int32)
      · skip
        refine own_icmpNo X242 hx hby d4_32 (teq hc32_245).2 ?_
        refine own_iloadN X242 hx hby d4_35 rfl ?_
        refine own_bipush X242 hx hby 127 d4_36 rfl ?_
        by_cases hc38_246 : c0 = (127 : Int32)
        · skip
          refine own_icmpNo X242 hx hby d4_38 (teq hc38_246).2 ?_
          refine own_iconst X242 hx hby 0 d4_41 rfl ?_
          exact own_retN X242 hx hlk (t := .boolean) Bd.returns (by simp) (hb hby d4_42) (by decide) (by decide) (⟨congrArg (fun z => some (Value.int z)) (show nar .boolean (0 : Int32) = own_fv [c0] from by simp only [own_fv, own_fok, own_b0, own_b1, if_neg hc20_243, if_pos hc26_244, if_pos hc32_245, if_pos hc38_246, reduceIte, Bool.false_eq_true]), N242, e242⟩)
        · skip
          refine own_icmpYes X242 hx hby 38 43 d4_38 (feq hc38_246).2 (by decide) (by decide) ?_
          refine own_iinc X242 hx hby d4_43 rfl (l' := #[.val (.ref a1), .val (.int ((0 : Int32) + (1 : Int32))), .val (.int c0)]) rfl ?_
          refine own_eq (U' := (T242.setTop (mkF m 46 #[.val (.ref a1), .val (.int (1 : Int32)), .val (.int c0)] []))) (by rw [show ((0 : Int32) + (1 : Int32)) = (1 : Int32) by decide]) ?_
          refine own_goto X242 hx hby 46 2 d4_46 (by decide) (by decide) ?_
          refine own_iloadN X242 hx hby d4_2 rfl ?_
          refine own_aloadN X242 hx hby d4_3 rfl rfl ?_
          obtain ⟨cq247, kq247, q247a, q247b, q247c⟩ := isOf hZ e242 E1
          obtain ⟨_, _, ⟨T247, L247, k247, n247⟩, -, X247, ⟨Lc247, hQ247, l247, y247, z247⟩, st247⟩ := X242.virtualBack hx (y := mN_10) (z := mN_10) hown (mvT hZ (own_w hw 26 rfl)) (mvT hZ (own_w hw 27 rfl)) (notFace_of_selects (args := #[]) (mvT hZ (own_w hw 29 rfl))) (mvT hZ (own_w hw 29 rfl)) (mvT hZ (own_w hw 28 rfl)) (by decide) (backOf (W := 1) (rmlen1 l Z a0 hw [] a1 c0 g1 h0 n0 Z0 T1 SC hg1) hZ (own_w hw 30 rfl) (own_w hw 2 rfl) (by decide) (by decide)) q247a q247c (g := (mkF m 4 #[.val (.ref a1), .val (.int (1 : Int32)), .val (.int c0)] [(.ref a1), (.int (1 : Int32))])) rfl (by rw [hml]; rfl) (Steps.refl _) (argsL := []) (rest := [(.int (1 : Int32))]) (lenOf pd_14 rfl) rfl (by show 2 * 0 + _ ≤ _; exact Nat.le_of_eq rfl) (hb hby d4_4) (fun _ _ => ⟨rfl, e242, (by decide : 0 + 0 ≤ _), (by decide : 0 + 0 ≤ _)⟩)
          dsimp only [Pt.U, Pt.locs, Pt.cells, Pt.slots] at X247 l247 y247 z247 st247 hQ247
          subst l247 y247 z247
          obtain ⟨rfl, Nq247, e247⟩ := hQ247
          have N247 := Fr.app N242 Nq247
          refine own_of (U' := (T247.setTop (mkF m 7 #[.val (.ref a1), .val (.int (1 : Int32)), .val (.int c0)] [(.int (1 : Int32)), (.int (1 : Int32))]))) (fun _ k => st247.trans k) ?_
          have hc7_248 : ¬ ((1 : Int32) < (1 : Int32)) := by decide
          refine own_icmpYes X247 hx hby 7 49 d4_7 (flt hc7_248).2.1 (by decide) (by decide) ?_
          refine own_iconst X247 hx hby 1 d4_49 rfl ?_
          exact own_retN X247 hx hlk (t := .boolean) Bd.returns (by simp) (hb hby d4_50) (by decide) (by decide) (⟨congrArg (fun z => some (Value.int z)) (show nar .boolean (1 : Int32) = own_fv [c0] from by simp only [own_fv, own_fok, own_b0, own_b1, if_neg hc20_243, if_pos hc26_244, if_pos hc32_245, if_neg hc38_246, reduceIte, Bool.false_eq_true]), N247, e247⟩)
      · skip
        refine own_icmpYes X242 hx hby 32 41 d4_32 (feq hc32_245).2 (by decide) (by decide) ?_
        refine own_iconst X242 hx hby 0 d4_41 rfl ?_
        exact own_retN X242 hx hlk (t := .boolean) Bd.returns (by simp) (hb hby d4_42) (by decide) (by decide) (⟨congrArg (fun z => some (Value.int z)) (show nar .boolean (0 : Int32) = own_fv [c0] from by simp only [own_fv, own_fok, own_b0, own_b1, if_neg hc20_243, if_pos hc26_244, if_neg hc32_245, reduceIte, Bool.false_eq_true]), N242, e242⟩)
    · skip
      refine own_icmpYes X242 hx hby 26 35 d4_26 (flt hc26_244).2.1 (by decide) (by decide) ?_
      refine own_iloadN X242 hx hby d4_35 rfl ?_
      refine own_bipush X242 hx hby 127 d4_36 rfl ?_
      by_cases hc38_249 : c0 = (127 : Int32)
      · skip
        refine own_icmpNo X242 hx hby d4_38 (teq hc38_249).2 ?_
        refine own_iconst X242 hx hby 0 d4_41 rfl ?_
        exact own_retN X242 hx hlk (t := .boolean) Bd.returns (by simp) (hb hby d4_42) (by decide) (by decide) (⟨congrArg (fun z => some (Value.int z)) (show nar .boolean (0 : Int32) = own_fv [c0] from by simp only [own_fv, own_fok, own_b0, own_b1, if_neg hc20_243, if_neg hc26_244, if_pos hc38_249, reduceIte, Bool.false_eq_true]), N242, e242⟩)
      · skip
        refine own_icmpYes X242 hx hby 38 43 d4_38 (feq hc38_249).2 (by decide) (by decide) ?_
        refine own_iinc X242 hx hby d4_43 rfl (l' := #[.val (.ref a1), .val (.int ((0 : Int32) + (1 : Int32))), .val (.int c0)]) rfl ?_
        refine own_eq (U' := (T242.setTop (mkF m 46 #[.val (.ref a1), .val (.int (1 : Int32)), .val (.int c0)] []))) (by rw [show ((0 : Int32) + (1 : Int32)) = (1 : Int32) by decide]) ?_
        refine own_goto X242 hx hby 46 2 d4_46 (by decide) (by decide) ?_
        refine own_iloadN X242 hx hby d4_2 rfl ?_
        refine own_aloadN X242 hx hby d4_3 rfl rfl ?_
        obtain ⟨cq250, kq250, q250a, q250b, q250c⟩ := isOf hZ e242 E1
        obtain ⟨_, _, ⟨T250, L250, k250, n250⟩, -, X250, ⟨Lc250, hQ250, l250, y250, z250⟩, st250⟩ := X242.virtualBack hx (y := mN_10) (z := mN_10) hown (mvT hZ (own_w hw 26 rfl)) (mvT hZ (own_w hw 27 rfl)) (notFace_of_selects (args := #[]) (mvT hZ (own_w hw 29 rfl))) (mvT hZ (own_w hw 29 rfl)) (mvT hZ (own_w hw 28 rfl)) (by decide) (backOf (W := 1) (rmlen1 l Z a0 hw [] a1 c0 g1 h0 n0 Z0 T1 SC hg1) hZ (own_w hw 30 rfl) (own_w hw 2 rfl) (by decide) (by decide)) q250a q250c (g := (mkF m 4 #[.val (.ref a1), .val (.int (1 : Int32)), .val (.int c0)] [(.ref a1), (.int (1 : Int32))])) rfl (by rw [hml]; rfl) (Steps.refl _) (argsL := []) (rest := [(.int (1 : Int32))]) (lenOf pd_14 rfl) rfl (by show 2 * 0 + _ ≤ _; exact Nat.le_of_eq rfl) (hb hby d4_4) (fun _ _ => ⟨rfl, e242, (by decide : 0 + 0 ≤ _), (by decide : 0 + 0 ≤ _)⟩)
        dsimp only [Pt.U, Pt.locs, Pt.cells, Pt.slots] at X250 l250 y250 z250 st250 hQ250
        subst l250 y250 z250
        obtain ⟨rfl, Nq250, e250⟩ := hQ250
        have N250 := Fr.app N242 Nq250
        refine own_of (U' := (T250.setTop (mkF m 7 #[.val (.ref a1), .val (.int (1 : Int32)), .val (.int c0)] [(.int (1 : Int32)), (.int (1 : Int32))]))) (fun _ k => st250.trans k) ?_
        have hc7_251 : ¬ ((1 : Int32) < (1 : Int32)) := by decide
        refine own_icmpYes X250 hx hby 7 49 d4_7 (flt hc7_251).2.1 (by decide) (by decide) ?_
        refine own_iconst X250 hx hby 1 d4_49 rfl ?_
        exact own_retN X250 hx hlk (t := .boolean) Bd.returns (by simp) (hb hby d4_50) (by decide) (by decide) (⟨congrArg (fun z => some (Value.int z)) (show nar .boolean (1 : Int32) = own_fv [c0] from by simp only [own_fv, own_fok, own_b0, own_b1, if_neg hc20_243, if_neg hc26_244, if_neg hc38_249, reduceIte, Bool.false_eq_true]), N250, e250⟩)
theorem ef_fv2 (m : MethodId) (x0 : Addr) : entryFrame m #[(.ref x0)] 3 = mkF m 0 #[.val (.ref x0), .unset, .unset] [] := by first | (simp [entryFrame, mkF, argsToLocals, Value.category]; done) | rfl
set_option maxRecDepth 65536 in
set_option maxHeartbeats 40000000 in
theorem rmfv2 (l : Launch) (Z : State) (a0 : Array Value) (hw : ∀ d ∈ tables_1, d.before a0 Z = true) (ws : List Jvm.Cond) (a1 : Addr) (c0 c1 : Int32) (g1 : Int32) (rS : Value) (h0 : Heap) (n0 : Nat) (Z0 : n0 ≤ h0.size) (T1 : own_Str Z h0 a1 (2 : Int32) (4 : Int32) [c0, c1]) (hb0 : 0 ≤ c0.toInt ∧ c0.toInt < 65536) (hb1 : 0 ≤ c1.toInt ∧ c1.toInt < 65536) (SC : Sta Z h0 "java/lang/String" "COMPACT_STRINGS" "Z" (.int g1)) (hg1 : ¬ (g1 = (0 : Int32))) (SA : Sta Z h0 "java/lang/StringUTF16" "$assertionsDisabled" "Z" (.int (1 : Int32))) (SHI : Sta Z h0 "java/lang/StringUTF16" "HI_BYTE_SHIFT" "I" (.int (0 : Int32))) (SLO : Sta Z h0 "java/lang/StringUTF16" "LO_BYTE_SHIFT" "I" (.int (8 : Int32))) (SF : Sta Z h0 "jdk/internal/util/Preconditions" "SIOOBE_FORMATTER" "Ljava/util/function/BiFunction;" rS) (hrS : rS.isRef = true) :
    MetFree l mN_20 (head1 (Jvm.Cond.code mN_20 prog_27_method_3_code 3 (some .boolean) :: ws) ({ frames := 5, cells := 0, slots := 0, locals := 66 } : Room)) (fun a U => a = #[(.ref a1)] ∧ Z.Warmed39 U.vm ∧ U.heap = h0) (fun _ _ _ _ _ => True) (fun _ U o U' => ∃ v L, o = .returned v ∧ (Qv (own_fv [c0, c1]) h0 n0) v U'.heap L ∧ FrameEnd U o U' L ({ frames := 5, cells := 0, slots := 0, locals := 66 } : Room).cells ({ frames := 5, cells := 0, slots := 0, locals := 66 } : Room).slots) := by
  refine MetFree.of_bodySF (plainFor_of_name pn_4) hisR ?_
  intro p e s m args below meth c s₁ Bd hml0 hP hK
  obtain ⟨rfl, hZ, hh⟩ := hP
  have hx := Bd.exec
  have hby := Bd.bytes
  have hml : c.maxLocals = 3 := hml0
  have hown : s.vm.findClass "com/example/svyazka/svyazka/http/Syntax" = some m.cls := findClass_of_methodNamed Bd.named
  have hnm := (name_of_methodNamed Bd.named Bd.method).1
  have hlk := Bd.notSynchronized
  have X0 : Stand p l e ({ frames := 5, cells := 0, slots := 0, locals := 66 } : Room) s m #[(.ref a1)] below meth c s₁ [] 0 0 := Stand.of_body Bd
  have e0 : s₁.heap = h0 := by rw [← hh, Bd.state]; rfl
  have N0 := Fr.nil n0
  show own_Ends p e below s FrameEnd (Qv (own_fv [c0, c1]) h0 n0) 0 0 (s₁.setTop (entryFrame m #[(.ref a1)] 3))
  refine own_of (U' := (s₁.setTop (mkF m 0 #[.val (.ref a1), .unset, .unset] []))) (fun _ k => castTop (ef_fv2 m a1) k) ?_
  have E1 := T1.1
  refine own_iconst X0 hx hby 0 d4_0 rfl ?_
  refine own_istoreN X0 hx hby d4_1 (l' := #[.val (.ref a1), .val (.int (0 : Int32)), .unset]) rfl ?_
  refine own_iloadN X0 hx hby d4_2 rfl ?_
  refine own_aloadN X0 hx hby d4_3 rfl rfl ?_
  obtain ⟨cq252, kq252, q252a, q252b, q252c⟩ := isOf hZ e0 E1
  obtain ⟨_, _, ⟨T252, L252, k252, n252⟩, -, X252, ⟨Lc252, hQ252, l252, y252, z252⟩, st252⟩ := X0.virtualBack hx (y := mN_10) (z := mN_10) hown (mvT hZ (own_w hw 26 rfl)) (mvT hZ (own_w hw 27 rfl)) (notFace_of_selects (args := #[]) (mvT hZ (own_w hw 29 rfl))) (mvT hZ (own_w hw 29 rfl)) (mvT hZ (own_w hw 28 rfl)) (by decide) (backOf (W := 1) (rmlen2 l Z a0 hw [] a1 c0 c1 g1 h0 n0 Z0 T1 SC hg1) hZ (own_w hw 30 rfl) (own_w hw 2 rfl) (by decide) (by decide)) q252a q252c (g := (mkF m 4 #[.val (.ref a1), .val (.int (0 : Int32)), .unset] [(.ref a1), (.int (0 : Int32))])) rfl (by rw [hml]; rfl) (Steps.refl _) (argsL := []) (rest := [(.int (0 : Int32))]) (lenOf pd_14 rfl) rfl (by show 2 * 0 + _ ≤ _; exact Nat.le_of_eq rfl) (hb hby d4_4) (fun _ _ => ⟨rfl, e0, (by decide : 0 + 0 ≤ _), (by decide : 0 + 0 ≤ _)⟩)
  dsimp only [Pt.U, Pt.locs, Pt.cells, Pt.slots] at X252 l252 y252 z252 st252 hQ252
  subst l252 y252 z252
  obtain ⟨rfl, Nq252, e252⟩ := hQ252
  have N252 := Fr.app N0 Nq252
  refine own_of (U' := (T252.setTop (mkF m 7 #[.val (.ref a1), .val (.int (0 : Int32)), .unset] [(.int (2 : Int32)), (.int (0 : Int32))]))) (fun _ k => st252.trans k) ?_
  have hc7_253 : (0 : Int32) < (2 : Int32) := by decide
  refine own_icmpNo X252 hx hby d4_7 (tlt hc7_253).2.1 ?_
  refine own_aloadN X252 hx hby d4_10 rfl rfl ?_
  refine own_iloadN X252 hx hby d4_11 rfl ?_
  obtain ⟨cq254, kq254, q254a, q254b, q254c⟩ := isOf hZ e252 E1
  obtain ⟨_, _, ⟨T254, L254, k254, n254⟩, -, X254, ⟨Lc254, hQ254, l254, y254, z254⟩, st254⟩ := X252.virtualBack hx (y := mN_7) (z := mN_7) hown (mvT hZ (own_w hw 51 rfl)) (mvT hZ (own_w hw 52 rfl)) (notFace_of_selects (args := #[]) (mvT hZ (own_w hw 54 rfl))) (mvT hZ (own_w hw 54 rfl)) (mvT hZ (own_w hw 53 rfl)) (by decide) (backOf (W := 0) (rmch2_0 l Z a0 hw [] a1 c0 c1 g1 rS h0 n0 Z0 T1 hb0 hb1 SC hg1 SA SHI SLO SF hrS) hZ (own_w hw 55 rfl) (own_w hw 2 rfl) (by decide) (by decide)) q254a q254c (g := (mkF m 12 #[.val (.ref a1), .val (.int (0 : Int32)), .unset] [(.int (0 : Int32)), (.ref a1)])) rfl (by rw [hml]; rfl) (Steps.refl _) (argsL := [(.int (0 : Int32))]) (rest := []) (lenOf pd_15 rfl) rfl (by show 2 * 0 + _ ≤ _; exact Nat.le_of_eq rfl) (hb hby d4_12) (fun _ _ => ⟨rfl, e252, (by decide : 0 + 0 ≤ _), (by decide : 0 + 0 ≤ _)⟩)
  dsimp only [Pt.U, Pt.locs, Pt.cells, Pt.slots] at X254 l254 y254 z254 st254 hQ254
  subst l254 y254 z254
  obtain ⟨rfl, Nq254, e254⟩ := hQ254
  have N254 := Fr.app N252 Nq254
  refine own_of (U' := (T254.setTop (mkF m 15 #[.val (.ref a1), .val (.int (0 : Int32)), .unset] [(.int c0)]))) (fun _ k => st254.trans k) ?_
  refine own_istoreN X254 hx hby d4_15 (l' := #[.val (.ref a1), .val (.int (0 : Int32)), .val (.int c0)]) rfl ?_
  refine own_iloadN X254 hx hby d4_16 rfl ?_
  refine own_sipush X254 hx hby 255 d4_17 rfl ?_
  by_cases hc20_255 : (255 : Int32) < c0
  · skip
    refine own_icmpYes X254 hx hby 20 41 d4_20 (tlt hc20_255).2.2.1 (by decide) (by decide) ?_
    refine own_iconst X254 hx hby 0 d4_41 rfl ?_
    exact own_retN X254 hx hlk (t := .boolean) Bd.returns (by simp) (hb hby d4_42) (by decide) (by decide) (⟨congrArg (fun z => some (Value.int z)) (show nar .boolean (0 : Int32) = own_fv [c0, c1] from by simp only [own_fv, own_fok, own_b0, own_b1, if_pos hc20_255, reduceIte, Bool.false_eq_true]), N254, e254⟩)
  · skip
    refine own_icmpNo X254 hx hby d4_20 (flt hc20_255).2.2.1 ?_
    refine own_iloadN X254 hx hby d4_23 rfl ?_
    refine own_bipush X254 hx hby 32 d4_24 rfl ?_
    by_cases hc26_256 : c0 < (32 : Int32)
    · skip
      refine own_icmpNo X254 hx hby d4_26 (tlt hc26_256).2.1 ?_
      refine own_iloadN X254 hx hby d4_29 rfl ?_
      refine own_bipush X254 hx hby 9 d4_30 rfl ?_
      by_cases hc32_257 : c0 = (9 : Int32)
      · skip
        refine own_icmpNo X254 hx hby d4_32 (teq hc32_257).2 ?_
        refine own_iloadN X254 hx hby d4_35 rfl ?_
        refine own_bipush X254 hx hby 127 d4_36 rfl ?_
        by_cases hc38_258 : c0 = (127 : Int32)
        · skip
          refine own_icmpNo X254 hx hby d4_38 (teq hc38_258).2 ?_
          refine own_iconst X254 hx hby 0 d4_41 rfl ?_
          exact own_retN X254 hx hlk (t := .boolean) Bd.returns (by simp) (hb hby d4_42) (by decide) (by decide) (⟨congrArg (fun z => some (Value.int z)) (show nar .boolean (0 : Int32) = own_fv [c0, c1] from by simp only [own_fv, own_fok, own_b0, own_b1, if_neg hc20_255, if_pos hc26_256, if_pos hc32_257, if_pos hc38_258, reduceIte, Bool.false_eq_true]), N254, e254⟩)
        · skip
          refine own_icmpYes X254 hx hby 38 43 d4_38 (feq hc38_258).2 (by decide) (by decide) ?_
          refine own_iinc X254 hx hby d4_43 rfl (l' := #[.val (.ref a1), .val (.int ((0 : Int32) + (1 : Int32))), .val (.int c0)]) rfl ?_
          refine own_eq (U' := (T254.setTop (mkF m 46 #[.val (.ref a1), .val (.int (1 : Int32)), .val (.int c0)] []))) (by rw [show ((0 : Int32) + (1 : Int32)) = (1 : Int32) by decide]) ?_
          refine own_goto X254 hx hby 46 2 d4_46 (by decide) (by decide) ?_
          refine own_iloadN X254 hx hby d4_2 rfl ?_
          refine own_aloadN X254 hx hby d4_3 rfl rfl ?_
          obtain ⟨cq259, kq259, q259a, q259b, q259c⟩ := isOf hZ e254 E1
          obtain ⟨_, _, ⟨T259, L259, k259, n259⟩, -, X259, ⟨Lc259, hQ259, l259, y259, z259⟩, st259⟩ := X254.virtualBack hx (y := mN_10) (z := mN_10) hown (mvT hZ (own_w hw 26 rfl)) (mvT hZ (own_w hw 27 rfl)) (notFace_of_selects (args := #[]) (mvT hZ (own_w hw 29 rfl))) (mvT hZ (own_w hw 29 rfl)) (mvT hZ (own_w hw 28 rfl)) (by decide) (backOf (W := 1) (rmlen2 l Z a0 hw [] a1 c0 c1 g1 h0 n0 Z0 T1 SC hg1) hZ (own_w hw 30 rfl) (own_w hw 2 rfl) (by decide) (by decide)) q259a q259c (g := (mkF m 4 #[.val (.ref a1), .val (.int (1 : Int32)), .val (.int c0)] [(.ref a1), (.int (1 : Int32))])) rfl (by rw [hml]; rfl) (Steps.refl _) (argsL := []) (rest := [(.int (1 : Int32))]) (lenOf pd_14 rfl) rfl (by show 2 * 0 + _ ≤ _; exact Nat.le_of_eq rfl) (hb hby d4_4) (fun _ _ => ⟨rfl, e254, (by decide : 0 + 0 ≤ _), (by decide : 0 + 0 ≤ _)⟩)
          dsimp only [Pt.U, Pt.locs, Pt.cells, Pt.slots] at X259 l259 y259 z259 st259 hQ259
          subst l259 y259 z259
          obtain ⟨rfl, Nq259, e259⟩ := hQ259
          have N259 := Fr.app N254 Nq259
          refine own_of (U' := (T259.setTop (mkF m 7 #[.val (.ref a1), .val (.int (1 : Int32)), .val (.int c0)] [(.int (2 : Int32)), (.int (1 : Int32))]))) (fun _ k => st259.trans k) ?_
          have hc7_260 : (1 : Int32) < (2 : Int32) := by decide
          refine own_icmpNo X259 hx hby d4_7 (tlt hc7_260).2.1 ?_
          refine own_aloadN X259 hx hby d4_10 rfl rfl ?_
          refine own_iloadN X259 hx hby d4_11 rfl ?_
          obtain ⟨cq261, kq261, q261a, q261b, q261c⟩ := isOf hZ e259 E1
          obtain ⟨_, _, ⟨T261, L261, k261, n261⟩, -, X261, ⟨Lc261, hQ261, l261, y261, z261⟩, st261⟩ := X259.virtualBack hx (y := mN_7) (z := mN_7) hown (mvT hZ (own_w hw 51 rfl)) (mvT hZ (own_w hw 52 rfl)) (notFace_of_selects (args := #[]) (mvT hZ (own_w hw 54 rfl))) (mvT hZ (own_w hw 54 rfl)) (mvT hZ (own_w hw 53 rfl)) (by decide) (backOf (W := 0) (rmch2_1 l Z a0 hw [] a1 c0 c1 g1 rS h0 n0 Z0 T1 hb0 hb1 SC hg1 SA SHI SLO SF hrS) hZ (own_w hw 55 rfl) (own_w hw 2 rfl) (by decide) (by decide)) q261a q261c (g := (mkF m 12 #[.val (.ref a1), .val (.int (1 : Int32)), .val (.int c0)] [(.int (1 : Int32)), (.ref a1)])) rfl (by rw [hml]; rfl) (Steps.refl _) (argsL := [(.int (1 : Int32))]) (rest := []) (lenOf pd_15 rfl) rfl (by show 2 * 0 + _ ≤ _; exact Nat.le_of_eq rfl) (hb hby d4_12) (fun _ _ => ⟨rfl, e259, (by decide : 0 + 0 ≤ _), (by decide : 0 + 0 ≤ _)⟩)
          dsimp only [Pt.U, Pt.locs, Pt.cells, Pt.slots] at X261 l261 y261 z261 st261 hQ261
          subst l261 y261 z261
          obtain ⟨rfl, Nq261, e261⟩ := hQ261
          have N261 := Fr.app N259 Nq261
          refine own_of (U' := (T261.setTop (mkF m 15 #[.val (.ref a1), .val (.int (1 : Int32)), .val (.int c0)] [(.int c1)]))) (fun _ k => st261.trans k) ?_
          refine own_istoreN X261 hx hby d4_15 (l' := #[.val (.ref a1), .val (.int (1 : Int32)), .val (.int c1)]) rfl ?_
          refine own_iloadN X261 hx hby d4_16 rfl ?_
          refine own_sipush X261 hx hby 255 d4_17 rfl ?_
          by_cases hc20_262 : (255 : Int32) < c1
          · skip
            refine own_icmpYes X261 hx hby 20 41 d4_20 (tlt hc20_262).2.2.1 (by decide) (by decide) ?_
            refine own_iconst X261 hx hby 0 d4_41 rfl ?_
            exact own_retN X261 hx hlk (t := .boolean) Bd.returns (by simp) (hb hby d4_42) (by decide) (by decide) (⟨congrArg (fun z => some (Value.int z)) (show nar .boolean (0 : Int32) = own_fv [c0, c1] from by simp only [own_fv, own_fok, own_b0, own_b1, if_neg hc20_255, if_pos hc26_256, if_pos hc32_257, if_neg hc38_258, if_pos hc20_262, reduceIte, Bool.false_eq_true]), N261, e261⟩)
          · skip
            refine own_icmpNo X261 hx hby d4_20 (flt hc20_262).2.2.1 ?_
            refine own_iloadN X261 hx hby d4_23 rfl ?_
            refine own_bipush X261 hx hby 32 d4_24 rfl ?_
            by_cases hc26_263 : c1 < (32 : Int32)
            · skip
              refine own_icmpNo X261 hx hby d4_26 (tlt hc26_263).2.1 ?_
              refine own_iloadN X261 hx hby d4_29 rfl ?_
              refine own_bipush X261 hx hby 9 d4_30 rfl ?_
              by_cases hc32_264 : c1 = (9 : Int32)
              · skip
                refine own_icmpNo X261 hx hby d4_32 (teq hc32_264).2 ?_
                refine own_iloadN X261 hx hby d4_35 rfl ?_
                refine own_bipush X261 hx hby 127 d4_36 rfl ?_
                by_cases hc38_265 : c1 = (127 : Int32)
                · skip
                  refine own_icmpNo X261 hx hby d4_38 (teq hc38_265).2 ?_
                  refine own_iconst X261 hx hby 0 d4_41 rfl ?_
                  exact own_retN X261 hx hlk (t := .boolean) Bd.returns (by simp) (hb hby d4_42) (by decide) (by decide) (⟨congrArg (fun z => some (Value.int z)) (show nar .boolean (0 : Int32) = own_fv [c0, c1] from by simp only [own_fv, own_fok, own_b0, own_b1, if_neg hc20_255, if_pos hc26_256, if_pos hc32_257, if_neg hc38_258, if_neg hc20_262, if_pos hc26_263, if_pos hc32_264, if_pos hc38_265, reduceIte, Bool.false_eq_true]), N261, e261⟩)
                · skip
                  refine own_icmpYes X261 hx hby 38 43 d4_38 (feq hc38_265).2 (by decide) (by decide) ?_
                  refine own_iinc X261 hx hby d4_43 rfl (l' := #[.val (.ref a1), .val (.int ((1 : Int32) + (1 : Int32))), .val (.int c1)]) rfl ?_
                  refine own_eq (U' := (T261.setTop (mkF m 46 #[.val (.ref a1), .val (.int (2 : Int32)), .val (.int c1)] []))) (by rw [show ((1 : Int32) + (1 : Int32)) = (2 : Int32) by decide]) ?_
                  refine own_goto X261 hx hby 46 2 d4_46 (by decide) (by decide) ?_
                  refine own_iloadN X261 hx hby d4_2 rfl ?_
                  refine own_aloadN X261 hx hby d4_3 rfl rfl ?_
                  obtain ⟨cq266, kq266, q266a, q266b, q266c⟩ := isOf hZ e261 E1
                  obtain ⟨_, _, ⟨T266, L266, k266, n266⟩, -, X266, ⟨Lc266, hQ266, l266, y266, z266⟩, st266⟩ := X261.virtualBack hx (y := mN_10) (z := mN_10) hown (mvT hZ (own_w hw 26 rfl)) (mvT hZ (own_w hw 27 rfl)) (notFace_of_selects (args := #[]) (mvT hZ (own_w hw 29 rfl))) (mvT hZ (own_w hw 29 rfl)) (mvT hZ (own_w hw 28 rfl)) (by decide) (backOf (W := 1) (rmlen2 l Z a0 hw [] a1 c0 c1 g1 h0 n0 Z0 T1 SC hg1) hZ (own_w hw 30 rfl) (own_w hw 2 rfl) (by decide) (by decide)) q266a q266c (g := (mkF m 4 #[.val (.ref a1), .val (.int (2 : Int32)), .val (.int c1)] [(.ref a1), (.int (2 : Int32))])) rfl (by rw [hml]; rfl) (Steps.refl _) (argsL := []) (rest := [(.int (2 : Int32))]) (lenOf pd_14 rfl) rfl (by show 2 * 0 + _ ≤ _; exact Nat.le_of_eq rfl) (hb hby d4_4) (fun _ _ => ⟨rfl, e261, (by decide : 0 + 0 ≤ _), (by decide : 0 + 0 ≤ _)⟩)
                  dsimp only [Pt.U, Pt.locs, Pt.cells, Pt.slots] at X266 l266 y266 z266 st266 hQ266
                  subst l266 y266 z266
                  obtain ⟨rfl, Nq266, e266⟩ := hQ266
                  have N266 := Fr.app N261 Nq266
                  refine own_of (U' := (T266.setTop (mkF m 7 #[.val (.ref a1), .val (.int (2 : Int32)), .val (.int c1)] [(.int (2 : Int32)), (.int (2 : Int32))]))) (fun _ k => st266.trans k) ?_
                  have hc7_267 : ¬ ((2 : Int32) < (2 : Int32)) := by decide
                  refine own_icmpYes X266 hx hby 7 49 d4_7 (flt hc7_267).2.1 (by decide) (by decide) ?_
                  refine own_iconst X266 hx hby 1 d4_49 rfl ?_
                  exact own_retN X266 hx hlk (t := .boolean) Bd.returns (by simp) (hb hby d4_50) (by decide) (by decide) (⟨congrArg (fun z => some (Value.int z)) (show nar .boolean (1 : Int32) = own_fv [c0, c1] from by simp only [own_fv, own_fok, own_b0, own_b1, if_neg hc20_255, if_pos hc26_256, if_pos hc32_257, if_neg hc38_258, if_neg hc20_262, if_pos hc26_263, if_pos hc32_264, if_neg hc38_265, reduceIte, Bool.false_eq_true]), N266, e266⟩)
              · skip
                refine own_icmpYes X261 hx hby 32 41 d4_32 (feq hc32_264).2 (by decide) (by decide) ?_
                refine own_iconst X261 hx hby 0 d4_41 rfl ?_
                exact own_retN X261 hx hlk (t := .boolean) Bd.returns (by simp) (hb hby d4_42) (by decide) (by decide) (⟨congrArg (fun z => some (Value.int z)) (show nar .boolean (0 : Int32) = own_fv [c0, c1] from by simp only [own_fv, own_fok, own_b0, own_b1, if_neg hc20_255, if_pos hc26_256, if_pos hc32_257, if_neg hc38_258, if_neg hc20_262, if_pos hc26_263, if_neg hc32_264, reduceIte, Bool.false_eq_true]), N261, e261⟩)
            · skip
              refine own_icmpYes X261 hx hby 26 35 d4_26 (flt hc26_263).2.1 (by decide) (by decide) ?_
              refine own_iloadN X261 hx hby d4_35 rfl ?_
              refine own_bipush X261 hx hby 127 d4_36 rfl ?_
              by_cases hc38_268 : c1 = (127 : Int32)
              · skip
                refine own_icmpNo X261 hx hby d4_38 (teq hc38_268).2 ?_
                refine own_iconst X261 hx hby 0 d4_41 rfl ?_
                exact own_retN X261 hx hlk (t := .boolean) Bd.returns (by simp) (hb hby d4_42) (by decide) (by decide) (⟨congrArg (fun z => some (Value.int z)) (show nar .boolean (0 : Int32) = own_fv [c0, c1] from by simp only [own_fv, own_fok, own_b0, own_b1, if_neg hc20_255, if_pos hc26_256, if_pos hc32_257, if_neg hc38_258, if_neg hc20_262, if_neg hc26_263, if_pos hc38_268, reduceIte, Bool.false_eq_true]), N261, e261⟩)
              · skip
                refine own_icmpYes X261 hx hby 38 43 d4_38 (feq hc38_268).2 (by decide) (by decide) ?_
                refine own_iinc X261 hx hby d4_43 rfl (l' := #[.val (.ref a1), .val (.int ((1 : Int32) + (1 : Int32))), .val (.int c1)]) rfl ?_
                refine own_eq (U' := (T261.setTop (mkF m 46 #[.val (.ref a1), .val (.int (2 : Int32)), .val (.int c1)] []))) (by rw [show ((1 : Int32) + (1 : Int32)) = (2 : Int32) by decide]) ?_
                refine own_goto X261 hx hby 46 2 d4_46 (by decide) (by decide) ?_
                refine own_iloadN X261 hx hby d4_2 rfl ?_
                refine own_aloadN X261 hx hby d4_3 rfl rfl ?_
                obtain ⟨cq269, kq269, q269a, q269b, q269c⟩ := isOf hZ e261 E1
                obtain ⟨_, _, ⟨T269, L269, k269, n269⟩, -, X269, ⟨Lc269, hQ269, l269, y269, z269⟩, st269⟩ := X261.virtualBack hx (y := mN_10) (z := mN_10) hown (mvT hZ (own_w hw 26 rfl)) (mvT hZ (own_w hw 27 rfl)) (notFace_of_selects (args := #[]) (mvT hZ (own_w hw 29 rfl))) (mvT hZ (own_w hw 29 rfl)) (mvT hZ (own_w hw 28 rfl)) (by decide) (backOf (W := 1) (rmlen2 l Z a0 hw [] a1 c0 c1 g1 h0 n0 Z0 T1 SC hg1) hZ (own_w hw 30 rfl) (own_w hw 2 rfl) (by decide) (by decide)) q269a q269c (g := (mkF m 4 #[.val (.ref a1), .val (.int (2 : Int32)), .val (.int c1)] [(.ref a1), (.int (2 : Int32))])) rfl (by rw [hml]; rfl) (Steps.refl _) (argsL := []) (rest := [(.int (2 : Int32))]) (lenOf pd_14 rfl) rfl (by show 2 * 0 + _ ≤ _; exact Nat.le_of_eq rfl) (hb hby d4_4) (fun _ _ => ⟨rfl, e261, (by decide : 0 + 0 ≤ _), (by decide : 0 + 0 ≤ _)⟩)
                dsimp only [Pt.U, Pt.locs, Pt.cells, Pt.slots] at X269 l269 y269 z269 st269 hQ269
                subst l269 y269 z269
                obtain ⟨rfl, Nq269, e269⟩ := hQ269
                have N269 := Fr.app N261 Nq269
                refine own_of (U' := (T269.setTop (mkF m 7 #[.val (.ref a1), .val (.int (2 : Int32)), .val (.int c1)] [(.int (2 : Int32)), (.int (2 : Int32))]))) (fun _ k => st269.trans k) ?_
                have hc7_270 : ¬ ((2 : Int32) < (2 : Int32)) := by decide
                refine own_icmpYes X269 hx hby 7 49 d4_7 (flt hc7_270).2.1 (by decide) (by decide) ?_
                refine own_iconst X269 hx hby 1 d4_49 rfl ?_
                exact own_retN X269 hx hlk (t := .boolean) Bd.returns (by simp) (hb hby d4_50) (by decide) (by decide) (⟨congrArg (fun z => some (Value.int z)) (show nar .boolean (1 : Int32) = own_fv [c0, c1] from by simp only [own_fv, own_fok, own_b0, own_b1, if_neg hc20_255, if_pos hc26_256, if_pos hc32_257, if_neg hc38_258, if_neg hc20_262, if_neg hc26_263, if_neg hc38_268, reduceIte, Bool.false_eq_true]), N269, e269⟩)
      · skip
        refine own_icmpYes X254 hx hby 32 41 d4_32 (feq hc32_257).2 (by decide) (by decide) ?_
        refine own_iconst X254 hx hby 0 d4_41 rfl ?_
        exact own_retN X254 hx hlk (t := .boolean) Bd.returns (by simp) (hb hby d4_42) (by decide) (by decide) (⟨congrArg (fun z => some (Value.int z)) (show nar .boolean (0 : Int32) = own_fv [c0, c1] from by simp only [own_fv, own_fok, own_b0, own_b1, if_neg hc20_255, if_pos hc26_256, if_neg hc32_257, reduceIte, Bool.false_eq_true]), N254, e254⟩)
    · skip
      refine own_icmpYes X254 hx hby 26 35 d4_26 (flt hc26_256).2.1 (by decide) (by decide) ?_
      refine own_iloadN X254 hx hby d4_35 rfl ?_
      refine own_bipush X254 hx hby 127 d4_36 rfl ?_
      by_cases hc38_271 : c0 = (127 : Int32)
      · skip
        refine own_icmpNo X254 hx hby d4_38 (teq hc38_271).2 ?_
        refine own_iconst X254 hx hby 0 d4_41 rfl ?_
        exact own_retN X254 hx hlk (t := .boolean) Bd.returns (by simp) (hb hby d4_42) (by decide) (by decide) (⟨congrArg (fun z => some (Value.int z)) (show nar .boolean (0 : Int32) = own_fv [c0, c1] from by simp only [own_fv, own_fok, own_b0, own_b1, if_neg hc20_255, if_neg hc26_256, if_pos hc38_271, reduceIte, Bool.false_eq_true]), N254, e254⟩)
      · skip
        refine own_icmpYes X254 hx hby 38 43 d4_38 (feq hc38_271).2 (by decide) (by decide) ?_
        refine own_iinc X254 hx hby d4_43 rfl (l' := #[.val (.ref a1), .val (.int ((0 : Int32) + (1 : Int32))), .val (.int c0)]) rfl ?_
        refine own_eq (U' := (T254.setTop (mkF m 46 #[.val (.ref a1), .val (.int (1 : Int32)), .val (.int c0)] []))) (by rw [show ((0 : Int32) + (1 : Int32)) = (1 : Int32) by decide]) ?_
        refine own_goto X254 hx hby 46 2 d4_46 (by decide) (by decide) ?_
        refine own_iloadN X254 hx hby d4_2 rfl ?_
        refine own_aloadN X254 hx hby d4_3 rfl rfl ?_
        obtain ⟨cq272, kq272, q272a, q272b, q272c⟩ := isOf hZ e254 E1
        obtain ⟨_, _, ⟨T272, L272, k272, n272⟩, -, X272, ⟨Lc272, hQ272, l272, y272, z272⟩, st272⟩ := X254.virtualBack hx (y := mN_10) (z := mN_10) hown (mvT hZ (own_w hw 26 rfl)) (mvT hZ (own_w hw 27 rfl)) (notFace_of_selects (args := #[]) (mvT hZ (own_w hw 29 rfl))) (mvT hZ (own_w hw 29 rfl)) (mvT hZ (own_w hw 28 rfl)) (by decide) (backOf (W := 1) (rmlen2 l Z a0 hw [] a1 c0 c1 g1 h0 n0 Z0 T1 SC hg1) hZ (own_w hw 30 rfl) (own_w hw 2 rfl) (by decide) (by decide)) q272a q272c (g := (mkF m 4 #[.val (.ref a1), .val (.int (1 : Int32)), .val (.int c0)] [(.ref a1), (.int (1 : Int32))])) rfl (by rw [hml]; rfl) (Steps.refl _) (argsL := []) (rest := [(.int (1 : Int32))]) (lenOf pd_14 rfl) rfl (by show 2 * 0 + _ ≤ _; exact Nat.le_of_eq rfl) (hb hby d4_4) (fun _ _ => ⟨rfl, e254, (by decide : 0 + 0 ≤ _), (by decide : 0 + 0 ≤ _)⟩)
        dsimp only [Pt.U, Pt.locs, Pt.cells, Pt.slots] at X272 l272 y272 z272 st272 hQ272
        subst l272 y272 z272
        obtain ⟨rfl, Nq272, e272⟩ := hQ272
        have N272 := Fr.app N254 Nq272
        refine own_of (U' := (T272.setTop (mkF m 7 #[.val (.ref a1), .val (.int (1 : Int32)), .val (.int c0)] [(.int (2 : Int32)), (.int (1 : Int32))]))) (fun _ k => st272.trans k) ?_
        have hc7_273 : (1 : Int32) < (2 : Int32) := by decide
        refine own_icmpNo X272 hx hby d4_7 (tlt hc7_273).2.1 ?_
        refine own_aloadN X272 hx hby d4_10 rfl rfl ?_
        refine own_iloadN X272 hx hby d4_11 rfl ?_
        obtain ⟨cq274, kq274, q274a, q274b, q274c⟩ := isOf hZ e272 E1
        obtain ⟨_, _, ⟨T274, L274, k274, n274⟩, -, X274, ⟨Lc274, hQ274, l274, y274, z274⟩, st274⟩ := X272.virtualBack hx (y := mN_7) (z := mN_7) hown (mvT hZ (own_w hw 51 rfl)) (mvT hZ (own_w hw 52 rfl)) (notFace_of_selects (args := #[]) (mvT hZ (own_w hw 54 rfl))) (mvT hZ (own_w hw 54 rfl)) (mvT hZ (own_w hw 53 rfl)) (by decide) (backOf (W := 0) (rmch2_1 l Z a0 hw [] a1 c0 c1 g1 rS h0 n0 Z0 T1 hb0 hb1 SC hg1 SA SHI SLO SF hrS) hZ (own_w hw 55 rfl) (own_w hw 2 rfl) (by decide) (by decide)) q274a q274c (g := (mkF m 12 #[.val (.ref a1), .val (.int (1 : Int32)), .val (.int c0)] [(.int (1 : Int32)), (.ref a1)])) rfl (by rw [hml]; rfl) (Steps.refl _) (argsL := [(.int (1 : Int32))]) (rest := []) (lenOf pd_15 rfl) rfl (by show 2 * 0 + _ ≤ _; exact Nat.le_of_eq rfl) (hb hby d4_12) (fun _ _ => ⟨rfl, e272, (by decide : 0 + 0 ≤ _), (by decide : 0 + 0 ≤ _)⟩)
        dsimp only [Pt.U, Pt.locs, Pt.cells, Pt.slots] at X274 l274 y274 z274 st274 hQ274
        subst l274 y274 z274
        obtain ⟨rfl, Nq274, e274⟩ := hQ274
        have N274 := Fr.app N272 Nq274
        refine own_of (U' := (T274.setTop (mkF m 15 #[.val (.ref a1), .val (.int (1 : Int32)), .val (.int c0)] [(.int c1)]))) (fun _ k => st274.trans k) ?_
        refine own_istoreN X274 hx hby d4_15 (l' := #[.val (.ref a1), .val (.int (1 : Int32)), .val (.int c1)]) rfl ?_
        refine own_iloadN X274 hx hby d4_16 rfl ?_
        refine own_sipush X274 hx hby 255 d4_17 rfl ?_
        by_cases hc20_275 : (255 : Int32) < c1
        · skip
          refine own_icmpYes X274 hx hby 20 41 d4_20 (tlt hc20_275).2.2.1 (by decide) (by decide) ?_
          refine own_iconst X274 hx hby 0 d4_41 rfl ?_
          exact own_retN X274 hx hlk (t := .boolean) Bd.returns (by simp) (hb hby d4_42) (by decide) (by decide) (⟨congrArg (fun z => some (Value.int z)) (show nar .boolean (0 : Int32) = own_fv [c0, c1] from by simp only [own_fv, own_fok, own_b0, own_b1, if_neg hc20_255, if_neg hc26_256, if_neg hc38_271, if_pos hc20_275, reduceIte, Bool.false_eq_true]), N274, e274⟩)
        · skip
          refine own_icmpNo X274 hx hby d4_20 (flt hc20_275).2.2.1 ?_
          refine own_iloadN X274 hx hby d4_23 rfl ?_
          refine own_bipush X274 hx hby 32 d4_24 rfl ?_
          by_cases hc26_276 : c1 < (32 : Int32)
          · skip
            refine own_icmpNo X274 hx hby d4_26 (tlt hc26_276).2.1 ?_
            refine own_iloadN X274 hx hby d4_29 rfl ?_
            refine own_bipush X274 hx hby 9 d4_30 rfl ?_
            by_cases hc32_277 : c1 = (9 : Int32)
            · skip
              refine own_icmpNo X274 hx hby d4_32 (teq hc32_277).2 ?_
              refine own_iloadN X274 hx hby d4_35 rfl ?_
              refine own_bipush X274 hx hby 127 d4_36 rfl ?_
              by_cases hc38_278 : c1 = (127 : Int32)
              · skip
                refine own_icmpNo X274 hx hby d4_38 (teq hc38_278).2 ?_
                refine own_iconst X274 hx hby 0 d4_41 rfl ?_
                exact own_retN X274 hx hlk (t := .boolean) Bd.returns (by simp) (hb hby d4_42) (by decide) (by decide) (⟨congrArg (fun z => some (Value.int z)) (show nar .boolean (0 : Int32) = own_fv [c0, c1] from by simp only [own_fv, own_fok, own_b0, own_b1, if_neg hc20_255, if_neg hc26_256, if_neg hc38_271, if_neg hc20_275, if_pos hc26_276, if_pos hc32_277, if_pos hc38_278, reduceIte, Bool.false_eq_true]), N274, e274⟩)
              · skip
                refine own_icmpYes X274 hx hby 38 43 d4_38 (feq hc38_278).2 (by decide) (by decide) ?_
                refine own_iinc X274 hx hby d4_43 rfl (l' := #[.val (.ref a1), .val (.int ((1 : Int32) + (1 : Int32))), .val (.int c1)]) rfl ?_
                refine own_eq (U' := (T274.setTop (mkF m 46 #[.val (.ref a1), .val (.int (2 : Int32)), .val (.int c1)] []))) (by rw [show ((1 : Int32) + (1 : Int32)) = (2 : Int32) by decide]) ?_
                refine own_goto X274 hx hby 46 2 d4_46 (by decide) (by decide) ?_
                refine own_iloadN X274 hx hby d4_2 rfl ?_
                refine own_aloadN X274 hx hby d4_3 rfl rfl ?_
                obtain ⟨cq279, kq279, q279a, q279b, q279c⟩ := isOf hZ e274 E1
                obtain ⟨_, _, ⟨T279, L279, k279, n279⟩, -, X279, ⟨Lc279, hQ279, l279, y279, z279⟩, st279⟩ := X274.virtualBack hx (y := mN_10) (z := mN_10) hown (mvT hZ (own_w hw 26 rfl)) (mvT hZ (own_w hw 27 rfl)) (notFace_of_selects (args := #[]) (mvT hZ (own_w hw 29 rfl))) (mvT hZ (own_w hw 29 rfl)) (mvT hZ (own_w hw 28 rfl)) (by decide) (backOf (W := 1) (rmlen2 l Z a0 hw [] a1 c0 c1 g1 h0 n0 Z0 T1 SC hg1) hZ (own_w hw 30 rfl) (own_w hw 2 rfl) (by decide) (by decide)) q279a q279c (g := (mkF m 4 #[.val (.ref a1), .val (.int (2 : Int32)), .val (.int c1)] [(.ref a1), (.int (2 : Int32))])) rfl (by rw [hml]; rfl) (Steps.refl _) (argsL := []) (rest := [(.int (2 : Int32))]) (lenOf pd_14 rfl) rfl (by show 2 * 0 + _ ≤ _; exact Nat.le_of_eq rfl) (hb hby d4_4) (fun _ _ => ⟨rfl, e274, (by decide : 0 + 0 ≤ _), (by decide : 0 + 0 ≤ _)⟩)
                dsimp only [Pt.U, Pt.locs, Pt.cells, Pt.slots] at X279 l279 y279 z279 st279 hQ279
                subst l279 y279 z279
                obtain ⟨rfl, Nq279, e279⟩ := hQ279
                have N279 := Fr.app N274 Nq279
                refine own_of (U' := (T279.setTop (mkF m 7 #[.val (.ref a1), .val (.int (2 : Int32)), .val (.int c1)] [(.int (2 : Int32)), (.int (2 : Int32))]))) (fun _ k => st279.trans k) ?_
                have hc7_280 : ¬ ((2 : Int32) < (2 : Int32)) := by decide
                refine own_icmpYes X279 hx hby 7 49 d4_7 (flt hc7_280).2.1 (by decide) (by decide) ?_
                refine own_iconst X279 hx hby 1 d4_49 rfl ?_
                exact own_retN X279 hx hlk (t := .boolean) Bd.returns (by simp) (hb hby d4_50) (by decide) (by decide) (⟨congrArg (fun z => some (Value.int z)) (show nar .boolean (1 : Int32) = own_fv [c0, c1] from by simp only [own_fv, own_fok, own_b0, own_b1, if_neg hc20_255, if_neg hc26_256, if_neg hc38_271, if_neg hc20_275, if_pos hc26_276, if_pos hc32_277, if_neg hc38_278, reduceIte, Bool.false_eq_true]), N279, e279⟩)
            · skip
              refine own_icmpYes X274 hx hby 32 41 d4_32 (feq hc32_277).2 (by decide) (by decide) ?_
              refine own_iconst X274 hx hby 0 d4_41 rfl ?_
              exact own_retN X274 hx hlk (t := .boolean) Bd.returns (by simp) (hb hby d4_42) (by decide) (by decide) (⟨congrArg (fun z => some (Value.int z)) (show nar .boolean (0 : Int32) = own_fv [c0, c1] from by simp only [own_fv, own_fok, own_b0, own_b1, if_neg hc20_255, if_neg hc26_256, if_neg hc38_271, if_neg hc20_275, if_pos hc26_276, if_neg hc32_277, reduceIte, Bool.false_eq_true]), N274, e274⟩)
          · skip
            refine own_icmpYes X274 hx hby 26 35 d4_26 (flt hc26_276).2.1 (by decide) (by decide) ?_
            refine own_iloadN X274 hx hby d4_35 rfl ?_
            refine own_bipush X274 hx hby 127 d4_36 rfl ?_
            by_cases hc38_281 : c1 = (127 : Int32)
            · skip
              refine own_icmpNo X274 hx hby d4_38 (teq hc38_281).2 ?_
              refine own_iconst X274 hx hby 0 d4_41 rfl ?_
              exact own_retN X274 hx hlk (t := .boolean) Bd.returns (by simp) (hb hby d4_42) (by decide) (by decide) (⟨congrArg (fun z => some (Value.int z)) (show nar .boolean (0 : Int32) = own_fv [c0, c1] from by simp only [own_fv, own_fok, own_b0, own_b1, if_neg hc20_255, if_neg hc26_256, if_neg hc38_271, if_neg hc20_275, if_neg hc26_276, if_pos hc38_281, reduceIte, Bool.false_eq_true]), N274, e274⟩)
            · skip
              refine own_icmpYes X274 hx hby 38 43 d4_38 (feq hc38_281).2 (by decide) (by decide) ?_
              refine own_iinc X274 hx hby d4_43 rfl (l' := #[.val (.ref a1), .val (.int ((1 : Int32) + (1 : Int32))), .val (.int c1)]) rfl ?_
              refine own_eq (U' := (T274.setTop (mkF m 46 #[.val (.ref a1), .val (.int (2 : Int32)), .val (.int c1)] []))) (by rw [show ((1 : Int32) + (1 : Int32)) = (2 : Int32) by decide]) ?_
              refine own_goto X274 hx hby 46 2 d4_46 (by decide) (by decide) ?_
              refine own_iloadN X274 hx hby d4_2 rfl ?_
              refine own_aloadN X274 hx hby d4_3 rfl rfl ?_
              obtain ⟨cq282, kq282, q282a, q282b, q282c⟩ := isOf hZ e274 E1
              obtain ⟨_, _, ⟨T282, L282, k282, n282⟩, -, X282, ⟨Lc282, hQ282, l282, y282, z282⟩, st282⟩ := X274.virtualBack hx (y := mN_10) (z := mN_10) hown (mvT hZ (own_w hw 26 rfl)) (mvT hZ (own_w hw 27 rfl)) (notFace_of_selects (args := #[]) (mvT hZ (own_w hw 29 rfl))) (mvT hZ (own_w hw 29 rfl)) (mvT hZ (own_w hw 28 rfl)) (by decide) (backOf (W := 1) (rmlen2 l Z a0 hw [] a1 c0 c1 g1 h0 n0 Z0 T1 SC hg1) hZ (own_w hw 30 rfl) (own_w hw 2 rfl) (by decide) (by decide)) q282a q282c (g := (mkF m 4 #[.val (.ref a1), .val (.int (2 : Int32)), .val (.int c1)] [(.ref a1), (.int (2 : Int32))])) rfl (by rw [hml]; rfl) (Steps.refl _) (argsL := []) (rest := [(.int (2 : Int32))]) (lenOf pd_14 rfl) rfl (by show 2 * 0 + _ ≤ _; exact Nat.le_of_eq rfl) (hb hby d4_4) (fun _ _ => ⟨rfl, e274, (by decide : 0 + 0 ≤ _), (by decide : 0 + 0 ≤ _)⟩)
              dsimp only [Pt.U, Pt.locs, Pt.cells, Pt.slots] at X282 l282 y282 z282 st282 hQ282
              subst l282 y282 z282
              obtain ⟨rfl, Nq282, e282⟩ := hQ282
              have N282 := Fr.app N274 Nq282
              refine own_of (U' := (T282.setTop (mkF m 7 #[.val (.ref a1), .val (.int (2 : Int32)), .val (.int c1)] [(.int (2 : Int32)), (.int (2 : Int32))]))) (fun _ k => st282.trans k) ?_
              have hc7_283 : ¬ ((2 : Int32) < (2 : Int32)) := by decide
              refine own_icmpYes X282 hx hby 7 49 d4_7 (flt hc7_283).2.1 (by decide) (by decide) ?_
              refine own_iconst X282 hx hby 1 d4_49 rfl ?_
              exact own_retN X282 hx hlk (t := .boolean) Bd.returns (by simp) (hb hby d4_50) (by decide) (by decide) (⟨congrArg (fun z => some (Value.int z)) (show nar .boolean (1 : Int32) = own_fv [c0, c1] from by simp only [own_fv, own_fok, own_b0, own_b1, if_neg hc20_255, if_neg hc26_256, if_neg hc38_271, if_neg hc20_275, if_neg hc26_276, if_neg hc38_281, reduceIte, Bool.false_eq_true]), N282, e282⟩)
theorem ef_fv3 (m : MethodId) (x0 : Addr) : entryFrame m #[(.ref x0)] 3 = mkF m 0 #[.val (.ref x0), .unset, .unset] [] := by first | (simp [entryFrame, mkF, argsToLocals, Value.category]; done) | rfl
set_option maxRecDepth 65536 in
set_option maxHeartbeats 40000000 in
theorem rmfv3 (l : Launch) (Z : State) (a0 : Array Value) (hw : ∀ d ∈ tables_1, d.before a0 Z = true) (ws : List Jvm.Cond) (a1 : Addr) (c0 c1 c2 : Int32) (g1 : Int32) (rS : Value) (h0 : Heap) (n0 : Nat) (Z0 : n0 ≤ h0.size) (T1 : own_Str Z h0 a1 (3 : Int32) (6 : Int32) [c0, c1, c2]) (hb0 : 0 ≤ c0.toInt ∧ c0.toInt < 65536) (hb1 : 0 ≤ c1.toInt ∧ c1.toInt < 65536) (hb2 : 0 ≤ c2.toInt ∧ c2.toInt < 65536) (SC : Sta Z h0 "java/lang/String" "COMPACT_STRINGS" "Z" (.int g1)) (hg1 : ¬ (g1 = (0 : Int32))) (SA : Sta Z h0 "java/lang/StringUTF16" "$assertionsDisabled" "Z" (.int (1 : Int32))) (SHI : Sta Z h0 "java/lang/StringUTF16" "HI_BYTE_SHIFT" "I" (.int (0 : Int32))) (SLO : Sta Z h0 "java/lang/StringUTF16" "LO_BYTE_SHIFT" "I" (.int (8 : Int32))) (SF : Sta Z h0 "jdk/internal/util/Preconditions" "SIOOBE_FORMATTER" "Ljava/util/function/BiFunction;" rS) (hrS : rS.isRef = true) :
    MetFree l mN_20 (head1 (Jvm.Cond.code mN_20 prog_27_method_3_code 3 (some .boolean) :: ws) ({ frames := 5, cells := 0, slots := 0, locals := 66 } : Room)) (fun a U => a = #[(.ref a1)] ∧ Z.Warmed39 U.vm ∧ U.heap = h0) (fun _ _ _ _ _ => True) (fun _ U o U' => ∃ v L, o = .returned v ∧ (Qv (own_fv [c0, c1, c2]) h0 n0) v U'.heap L ∧ FrameEnd U o U' L ({ frames := 5, cells := 0, slots := 0, locals := 66 } : Room).cells ({ frames := 5, cells := 0, slots := 0, locals := 66 } : Room).slots) := by
  refine MetFree.of_bodySF (plainFor_of_name pn_4) hisR ?_
  intro p e s m args below meth c s₁ Bd hml0 hP hK
  obtain ⟨rfl, hZ, hh⟩ := hP
  have hx := Bd.exec
  have hby := Bd.bytes
  have hml : c.maxLocals = 3 := hml0
  have hown : s.vm.findClass "com/example/svyazka/svyazka/http/Syntax" = some m.cls := findClass_of_methodNamed Bd.named
  have hnm := (name_of_methodNamed Bd.named Bd.method).1
  have hlk := Bd.notSynchronized
  have X0 : Stand p l e ({ frames := 5, cells := 0, slots := 0, locals := 66 } : Room) s m #[(.ref a1)] below meth c s₁ [] 0 0 := Stand.of_body Bd
  have e0 : s₁.heap = h0 := by rw [← hh, Bd.state]; rfl
  have N0 := Fr.nil n0
  show own_Ends p e below s FrameEnd (Qv (own_fv [c0, c1, c2]) h0 n0) 0 0 (s₁.setTop (entryFrame m #[(.ref a1)] 3))
  refine own_of (U' := (s₁.setTop (mkF m 0 #[.val (.ref a1), .unset, .unset] []))) (fun _ k => castTop (ef_fv3 m a1) k) ?_
  have E1 := T1.1
  refine own_iconst X0 hx hby 0 d4_0 rfl ?_
  refine own_istoreN X0 hx hby d4_1 (l' := #[.val (.ref a1), .val (.int (0 : Int32)), .unset]) rfl ?_
  refine own_iloadN X0 hx hby d4_2 rfl ?_
  refine own_aloadN X0 hx hby d4_3 rfl rfl ?_
  obtain ⟨cq284, kq284, q284a, q284b, q284c⟩ := isOf hZ e0 E1
  obtain ⟨_, _, ⟨T284, L284, k284, n284⟩, -, X284, ⟨Lc284, hQ284, l284, y284, z284⟩, st284⟩ := X0.virtualBack hx (y := mN_10) (z := mN_10) hown (mvT hZ (own_w hw 26 rfl)) (mvT hZ (own_w hw 27 rfl)) (notFace_of_selects (args := #[]) (mvT hZ (own_w hw 29 rfl))) (mvT hZ (own_w hw 29 rfl)) (mvT hZ (own_w hw 28 rfl)) (by decide) (backOf (W := 1) (rmlen3 l Z a0 hw [] a1 c0 c1 c2 g1 h0 n0 Z0 T1 SC hg1) hZ (own_w hw 30 rfl) (own_w hw 2 rfl) (by decide) (by decide)) q284a q284c (g := (mkF m 4 #[.val (.ref a1), .val (.int (0 : Int32)), .unset] [(.ref a1), (.int (0 : Int32))])) rfl (by rw [hml]; rfl) (Steps.refl _) (argsL := []) (rest := [(.int (0 : Int32))]) (lenOf pd_14 rfl) rfl (by show 2 * 0 + _ ≤ _; exact Nat.le_of_eq rfl) (hb hby d4_4) (fun _ _ => ⟨rfl, e0, (by decide : 0 + 0 ≤ _), (by decide : 0 + 0 ≤ _)⟩)
  dsimp only [Pt.U, Pt.locs, Pt.cells, Pt.slots] at X284 l284 y284 z284 st284 hQ284
  subst l284 y284 z284
  obtain ⟨rfl, Nq284, e284⟩ := hQ284
  have N284 := Fr.app N0 Nq284
  refine own_of (U' := (T284.setTop (mkF m 7 #[.val (.ref a1), .val (.int (0 : Int32)), .unset] [(.int (3 : Int32)), (.int (0 : Int32))]))) (fun _ k => st284.trans k) ?_
  have hc7_285 : (0 : Int32) < (3 : Int32) := by decide
  refine own_icmpNo X284 hx hby d4_7 (tlt hc7_285).2.1 ?_
  refine own_aloadN X284 hx hby d4_10 rfl rfl ?_
  refine own_iloadN X284 hx hby d4_11 rfl ?_
  obtain ⟨cq286, kq286, q286a, q286b, q286c⟩ := isOf hZ e284 E1
  obtain ⟨_, _, ⟨T286, L286, k286, n286⟩, -, X286, ⟨Lc286, hQ286, l286, y286, z286⟩, st286⟩ := X284.virtualBack hx (y := mN_7) (z := mN_7) hown (mvT hZ (own_w hw 51 rfl)) (mvT hZ (own_w hw 52 rfl)) (notFace_of_selects (args := #[]) (mvT hZ (own_w hw 54 rfl))) (mvT hZ (own_w hw 54 rfl)) (mvT hZ (own_w hw 53 rfl)) (by decide) (backOf (W := 0) (rmch3_0 l Z a0 hw [] a1 c0 c1 c2 g1 rS h0 n0 Z0 T1 hb0 hb1 hb2 SC hg1 SA SHI SLO SF hrS) hZ (own_w hw 55 rfl) (own_w hw 2 rfl) (by decide) (by decide)) q286a q286c (g := (mkF m 12 #[.val (.ref a1), .val (.int (0 : Int32)), .unset] [(.int (0 : Int32)), (.ref a1)])) rfl (by rw [hml]; rfl) (Steps.refl _) (argsL := [(.int (0 : Int32))]) (rest := []) (lenOf pd_15 rfl) rfl (by show 2 * 0 + _ ≤ _; exact Nat.le_of_eq rfl) (hb hby d4_12) (fun _ _ => ⟨rfl, e284, (by decide : 0 + 0 ≤ _), (by decide : 0 + 0 ≤ _)⟩)
  dsimp only [Pt.U, Pt.locs, Pt.cells, Pt.slots] at X286 l286 y286 z286 st286 hQ286
  subst l286 y286 z286
  obtain ⟨rfl, Nq286, e286⟩ := hQ286
  have N286 := Fr.app N284 Nq286
  refine own_of (U' := (T286.setTop (mkF m 15 #[.val (.ref a1), .val (.int (0 : Int32)), .unset] [(.int c0)]))) (fun _ k => st286.trans k) ?_
  refine own_istoreN X286 hx hby d4_15 (l' := #[.val (.ref a1), .val (.int (0 : Int32)), .val (.int c0)]) rfl ?_
  refine own_iloadN X286 hx hby d4_16 rfl ?_
  refine own_sipush X286 hx hby 255 d4_17 rfl ?_
  by_cases hc20_287 : (255 : Int32) < c0
  · skip
    refine own_icmpYes X286 hx hby 20 41 d4_20 (tlt hc20_287).2.2.1 (by decide) (by decide) ?_
    refine own_iconst X286 hx hby 0 d4_41 rfl ?_
    exact own_retN X286 hx hlk (t := .boolean) Bd.returns (by simp) (hb hby d4_42) (by decide) (by decide) (⟨congrArg (fun z => some (Value.int z)) (show nar .boolean (0 : Int32) = own_fv [c0, c1, c2] from by simp only [own_fv, own_fok, own_b0, own_b1, if_pos hc20_287, reduceIte, Bool.false_eq_true]), N286, e286⟩)
  · skip
    refine own_icmpNo X286 hx hby d4_20 (flt hc20_287).2.2.1 ?_
    refine own_iloadN X286 hx hby d4_23 rfl ?_
    refine own_bipush X286 hx hby 32 d4_24 rfl ?_
    by_cases hc26_288 : c0 < (32 : Int32)
    · skip
      refine own_icmpNo X286 hx hby d4_26 (tlt hc26_288).2.1 ?_
      refine own_iloadN X286 hx hby d4_29 rfl ?_
      refine own_bipush X286 hx hby 9 d4_30 rfl ?_
      by_cases hc32_289 : c0 = (9 : Int32)
      · skip
        refine own_icmpNo X286 hx hby d4_32 (teq hc32_289).2 ?_
        refine own_iloadN X286 hx hby d4_35 rfl ?_
        refine own_bipush X286 hx hby 127 d4_36 rfl ?_
        by_cases hc38_290 : c0 = (127 : Int32)
        · skip
          refine own_icmpNo X286 hx hby d4_38 (teq hc38_290).2 ?_
          refine own_iconst X286 hx hby 0 d4_41 rfl ?_
          exact own_retN X286 hx hlk (t := .boolean) Bd.returns (by simp) (hb hby d4_42) (by decide) (by decide) (⟨congrArg (fun z => some (Value.int z)) (show nar .boolean (0 : Int32) = own_fv [c0, c1, c2] from by simp only [own_fv, own_fok, own_b0, own_b1, if_neg hc20_287, if_pos hc26_288, if_pos hc32_289, if_pos hc38_290, reduceIte, Bool.false_eq_true]), N286, e286⟩)
        · skip
          refine own_icmpYes X286 hx hby 38 43 d4_38 (feq hc38_290).2 (by decide) (by decide) ?_
          refine own_iinc X286 hx hby d4_43 rfl (l' := #[.val (.ref a1), .val (.int ((0 : Int32) + (1 : Int32))), .val (.int c0)]) rfl ?_
          refine own_eq (U' := (T286.setTop (mkF m 46 #[.val (.ref a1), .val (.int (1 : Int32)), .val (.int c0)] []))) (by rw [show ((0 : Int32) + (1 : Int32)) = (1 : Int32) by decide]) ?_
          refine own_goto X286 hx hby 46 2 d4_46 (by decide) (by decide) ?_
          refine own_iloadN X286 hx hby d4_2 rfl ?_
          refine own_aloadN X286 hx hby d4_3 rfl rfl ?_
          obtain ⟨cq291, kq291, q291a, q291b, q291c⟩ := isOf hZ e286 E1
          obtain ⟨_, _, ⟨T291, L291, k291, n291⟩, -, X291, ⟨Lc291, hQ291, l291, y291, z291⟩, st291⟩ := X286.virtualBack hx (y := mN_10) (z := mN_10) hown (mvT hZ (own_w hw 26 rfl)) (mvT hZ (own_w hw 27 rfl)) (notFace_of_selects (args := #[]) (mvT hZ (own_w hw 29 rfl))) (mvT hZ (own_w hw 29 rfl)) (mvT hZ (own_w hw 28 rfl)) (by decide) (backOf (W := 1) (rmlen3 l Z a0 hw [] a1 c0 c1 c2 g1 h0 n0 Z0 T1 SC hg1) hZ (own_w hw 30 rfl) (own_w hw 2 rfl) (by decide) (by decide)) q291a q291c (g := (mkF m 4 #[.val (.ref a1), .val (.int (1 : Int32)), .val (.int c0)] [(.ref a1), (.int (1 : Int32))])) rfl (by rw [hml]; rfl) (Steps.refl _) (argsL := []) (rest := [(.int (1 : Int32))]) (lenOf pd_14 rfl) rfl (by show 2 * 0 + _ ≤ _; exact Nat.le_of_eq rfl) (hb hby d4_4) (fun _ _ => ⟨rfl, e286, (by decide : 0 + 0 ≤ _), (by decide : 0 + 0 ≤ _)⟩)
          dsimp only [Pt.U, Pt.locs, Pt.cells, Pt.slots] at X291 l291 y291 z291 st291 hQ291
          subst l291 y291 z291
          obtain ⟨rfl, Nq291, e291⟩ := hQ291
          have N291 := Fr.app N286 Nq291
          refine own_of (U' := (T291.setTop (mkF m 7 #[.val (.ref a1), .val (.int (1 : Int32)), .val (.int c0)] [(.int (3 : Int32)), (.int (1 : Int32))]))) (fun _ k => st291.trans k) ?_
          have hc7_292 : (1 : Int32) < (3 : Int32) := by decide
          refine own_icmpNo X291 hx hby d4_7 (tlt hc7_292).2.1 ?_
          refine own_aloadN X291 hx hby d4_10 rfl rfl ?_
          refine own_iloadN X291 hx hby d4_11 rfl ?_
          obtain ⟨cq293, kq293, q293a, q293b, q293c⟩ := isOf hZ e291 E1
          obtain ⟨_, _, ⟨T293, L293, k293, n293⟩, -, X293, ⟨Lc293, hQ293, l293, y293, z293⟩, st293⟩ := X291.virtualBack hx (y := mN_7) (z := mN_7) hown (mvT hZ (own_w hw 51 rfl)) (mvT hZ (own_w hw 52 rfl)) (notFace_of_selects (args := #[]) (mvT hZ (own_w hw 54 rfl))) (mvT hZ (own_w hw 54 rfl)) (mvT hZ (own_w hw 53 rfl)) (by decide) (backOf (W := 0) (rmch3_1 l Z a0 hw [] a1 c0 c1 c2 g1 rS h0 n0 Z0 T1 hb0 hb1 hb2 SC hg1 SA SHI SLO SF hrS) hZ (own_w hw 55 rfl) (own_w hw 2 rfl) (by decide) (by decide)) q293a q293c (g := (mkF m 12 #[.val (.ref a1), .val (.int (1 : Int32)), .val (.int c0)] [(.int (1 : Int32)), (.ref a1)])) rfl (by rw [hml]; rfl) (Steps.refl _) (argsL := [(.int (1 : Int32))]) (rest := []) (lenOf pd_15 rfl) rfl (by show 2 * 0 + _ ≤ _; exact Nat.le_of_eq rfl) (hb hby d4_12) (fun _ _ => ⟨rfl, e291, (by decide : 0 + 0 ≤ _), (by decide : 0 + 0 ≤ _)⟩)
          dsimp only [Pt.U, Pt.locs, Pt.cells, Pt.slots] at X293 l293 y293 z293 st293 hQ293
          subst l293 y293 z293
          obtain ⟨rfl, Nq293, e293⟩ := hQ293
          have N293 := Fr.app N291 Nq293
          refine own_of (U' := (T293.setTop (mkF m 15 #[.val (.ref a1), .val (.int (1 : Int32)), .val (.int c0)] [(.int c1)]))) (fun _ k => st293.trans k) ?_
          refine own_istoreN X293 hx hby d4_15 (l' := #[.val (.ref a1), .val (.int (1 : Int32)), .val (.int c1)]) rfl ?_
          refine own_iloadN X293 hx hby d4_16 rfl ?_
          refine own_sipush X293 hx hby 255 d4_17 rfl ?_
          by_cases hc20_294 : (255 : Int32) < c1
          · skip
            refine own_icmpYes X293 hx hby 20 41 d4_20 (tlt hc20_294).2.2.1 (by decide) (by decide) ?_
            refine own_iconst X293 hx hby 0 d4_41 rfl ?_
            exact own_retN X293 hx hlk (t := .boolean) Bd.returns (by simp) (hb hby d4_42) (by decide) (by decide) (⟨congrArg (fun z => some (Value.int z)) (show nar .boolean (0 : Int32) = own_fv [c0, c1, c2] from by simp only [own_fv, own_fok, own_b0, own_b1, if_neg hc20_287, if_pos hc26_288, if_pos hc32_289, if_neg hc38_290, if_pos hc20_294, reduceIte, Bool.false_eq_true]), N293, e293⟩)
          · skip
            refine own_icmpNo X293 hx hby d4_20 (flt hc20_294).2.2.1 ?_
            refine own_iloadN X293 hx hby d4_23 rfl ?_
            refine own_bipush X293 hx hby 32 d4_24 rfl ?_
            by_cases hc26_295 : c1 < (32 : Int32)
            · skip
              refine own_icmpNo X293 hx hby d4_26 (tlt hc26_295).2.1 ?_
              refine own_iloadN X293 hx hby d4_29 rfl ?_
              refine own_bipush X293 hx hby 9 d4_30 rfl ?_
              by_cases hc32_296 : c1 = (9 : Int32)
              · skip
                refine own_icmpNo X293 hx hby d4_32 (teq hc32_296).2 ?_
                refine own_iloadN X293 hx hby d4_35 rfl ?_
                refine own_bipush X293 hx hby 127 d4_36 rfl ?_
                by_cases hc38_297 : c1 = (127 : Int32)
                · skip
                  refine own_icmpNo X293 hx hby d4_38 (teq hc38_297).2 ?_
                  refine own_iconst X293 hx hby 0 d4_41 rfl ?_
                  exact own_retN X293 hx hlk (t := .boolean) Bd.returns (by simp) (hb hby d4_42) (by decide) (by decide) (⟨congrArg (fun z => some (Value.int z)) (show nar .boolean (0 : Int32) = own_fv [c0, c1, c2] from by simp only [own_fv, own_fok, own_b0, own_b1, if_neg hc20_287, if_pos hc26_288, if_pos hc32_289, if_neg hc38_290, if_neg hc20_294, if_pos hc26_295, if_pos hc32_296, if_pos hc38_297, reduceIte, Bool.false_eq_true]), N293, e293⟩)
                · skip
                  refine own_icmpYes X293 hx hby 38 43 d4_38 (feq hc38_297).2 (by decide) (by decide) ?_
                  refine own_iinc X293 hx hby d4_43 rfl (l' := #[.val (.ref a1), .val (.int ((1 : Int32) + (1 : Int32))), .val (.int c1)]) rfl ?_
                  refine own_eq (U' := (T293.setTop (mkF m 46 #[.val (.ref a1), .val (.int (2 : Int32)), .val (.int c1)] []))) (by rw [show ((1 : Int32) + (1 : Int32)) = (2 : Int32) by decide]) ?_
                  refine own_goto X293 hx hby 46 2 d4_46 (by decide) (by decide) ?_
                  refine own_iloadN X293 hx hby d4_2 rfl ?_
                  refine own_aloadN X293 hx hby d4_3 rfl rfl ?_
                  obtain ⟨cq298, kq298, q298a, q298b, q298c⟩ := isOf hZ e293 E1
                  obtain ⟨_, _, ⟨T298, L298, k298, n298⟩, -, X298, ⟨Lc298, hQ298, l298, y298, z298⟩, st298⟩ := X293.virtualBack hx (y := mN_10) (z := mN_10) hown (mvT hZ (own_w hw 26 rfl)) (mvT hZ (own_w hw 27 rfl)) (notFace_of_selects (args := #[]) (mvT hZ (own_w hw 29 rfl))) (mvT hZ (own_w hw 29 rfl)) (mvT hZ (own_w hw 28 rfl)) (by decide) (backOf (W := 1) (rmlen3 l Z a0 hw [] a1 c0 c1 c2 g1 h0 n0 Z0 T1 SC hg1) hZ (own_w hw 30 rfl) (own_w hw 2 rfl) (by decide) (by decide)) q298a q298c (g := (mkF m 4 #[.val (.ref a1), .val (.int (2 : Int32)), .val (.int c1)] [(.ref a1), (.int (2 : Int32))])) rfl (by rw [hml]; rfl) (Steps.refl _) (argsL := []) (rest := [(.int (2 : Int32))]) (lenOf pd_14 rfl) rfl (by show 2 * 0 + _ ≤ _; exact Nat.le_of_eq rfl) (hb hby d4_4) (fun _ _ => ⟨rfl, e293, (by decide : 0 + 0 ≤ _), (by decide : 0 + 0 ≤ _)⟩)
                  dsimp only [Pt.U, Pt.locs, Pt.cells, Pt.slots] at X298 l298 y298 z298 st298 hQ298
                  subst l298 y298 z298
                  obtain ⟨rfl, Nq298, e298⟩ := hQ298
                  have N298 := Fr.app N293 Nq298
                  refine own_of (U' := (T298.setTop (mkF m 7 #[.val (.ref a1), .val (.int (2 : Int32)), .val (.int c1)] [(.int (3 : Int32)), (.int (2 : Int32))]))) (fun _ k => st298.trans k) ?_
                  have hc7_299 : (2 : Int32) < (3 : Int32) := by decide
                  refine own_icmpNo X298 hx hby d4_7 (tlt hc7_299).2.1 ?_
                  refine own_aloadN X298 hx hby d4_10 rfl rfl ?_
                  refine own_iloadN X298 hx hby d4_11 rfl ?_
                  obtain ⟨cq300, kq300, q300a, q300b, q300c⟩ := isOf hZ e298 E1
                  obtain ⟨_, _, ⟨T300, L300, k300, n300⟩, -, X300, ⟨Lc300, hQ300, l300, y300, z300⟩, st300⟩ := X298.virtualBack hx (y := mN_7) (z := mN_7) hown (mvT hZ (own_w hw 51 rfl)) (mvT hZ (own_w hw 52 rfl)) (notFace_of_selects (args := #[]) (mvT hZ (own_w hw 54 rfl))) (mvT hZ (own_w hw 54 rfl)) (mvT hZ (own_w hw 53 rfl)) (by decide) (backOf (W := 0) (rmch3_2 l Z a0 hw [] a1 c0 c1 c2 g1 rS h0 n0 Z0 T1 hb0 hb1 hb2 SC hg1 SA SHI SLO SF hrS) hZ (own_w hw 55 rfl) (own_w hw 2 rfl) (by decide) (by decide)) q300a q300c (g := (mkF m 12 #[.val (.ref a1), .val (.int (2 : Int32)), .val (.int c1)] [(.int (2 : Int32)), (.ref a1)])) rfl (by rw [hml]; rfl) (Steps.refl _) (argsL := [(.int (2 : Int32))]) (rest := []) (lenOf pd_15 rfl) rfl (by show 2 * 0 + _ ≤ _; exact Nat.le_of_eq rfl) (hb hby d4_12) (fun _ _ => ⟨rfl, e298, (by decide : 0 + 0 ≤ _), (by decide : 0 + 0 ≤ _)⟩)
                  dsimp only [Pt.U, Pt.locs, Pt.cells, Pt.slots] at X300 l300 y300 z300 st300 hQ300
                  subst l300 y300 z300
                  obtain ⟨rfl, Nq300, e300⟩ := hQ300
                  have N300 := Fr.app N298 Nq300
                  refine own_of (U' := (T300.setTop (mkF m 15 #[.val (.ref a1), .val (.int (2 : Int32)), .val (.int c1)] [(.int c2)]))) (fun _ k => st300.trans k) ?_
                  refine own_istoreN X300 hx hby d4_15 (l' := #[.val (.ref a1), .val (.int (2 : Int32)), .val (.int c2)]) rfl ?_
                  refine own_iloadN X300 hx hby d4_16 rfl ?_
                  refine own_sipush X300 hx hby 255 d4_17 rfl ?_
                  by_cases hc20_301 : (255 : Int32) < c2
                  · skip
                    refine own_icmpYes X300 hx hby 20 41 d4_20 (tlt hc20_301).2.2.1 (by decide) (by decide) ?_
                    refine own_iconst X300 hx hby 0 d4_41 rfl ?_
                    exact own_retN X300 hx hlk (t := .boolean) Bd.returns (by simp) (hb hby d4_42) (by decide) (by decide) (⟨congrArg (fun z => some (Value.int z)) (show nar .boolean (0 : Int32) = own_fv [c0, c1, c2] from by simp only [own_fv, own_fok, own_b0, own_b1, if_neg hc20_287, if_pos hc26_288, if_pos hc32_289, if_neg hc38_290, if_neg hc20_294, if_pos hc26_295, if_pos hc32_296, if_neg hc38_297, if_pos hc20_301, reduceIte, Bool.false_eq_true]), N300, e300⟩)
                  · skip
                    refine own_icmpNo X300 hx hby d4_20 (flt hc20_301).2.2.1 ?_
                    refine own_iloadN X300 hx hby d4_23 rfl ?_
                    refine own_bipush X300 hx hby 32 d4_24 rfl ?_
                    by_cases hc26_302 : c2 < (32 : Int32)
                    · skip
                      refine own_icmpNo X300 hx hby d4_26 (tlt hc26_302).2.1 ?_
                      refine own_iloadN X300 hx hby d4_29 rfl ?_
                      refine own_bipush X300 hx hby 9 d4_30 rfl ?_
                      by_cases hc32_303 : c2 = (9 : Int32)
                      · skip
                        refine own_icmpNo X300 hx hby d4_32 (teq hc32_303).2 ?_
                        refine own_iloadN X300 hx hby d4_35 rfl ?_
                        refine own_bipush X300 hx hby 127 d4_36 rfl ?_
                        by_cases hc38_304 : c2 = (127 : Int32)
                        · skip
                          refine own_icmpNo X300 hx hby d4_38 (teq hc38_304).2 ?_
                          refine own_iconst X300 hx hby 0 d4_41 rfl ?_
                          exact own_retN X300 hx hlk (t := .boolean) Bd.returns (by simp) (hb hby d4_42) (by decide) (by decide) (⟨congrArg (fun z => some (Value.int z)) (show nar .boolean (0 : Int32) = own_fv [c0, c1, c2] from by simp only [own_fv, own_fok, own_b0, own_b1, if_neg hc20_287, if_pos hc26_288, if_pos hc32_289, if_neg hc38_290, if_neg hc20_294, if_pos hc26_295, if_pos hc32_296, if_neg hc38_297, if_neg hc20_301, if_pos hc26_302, if_pos hc32_303, if_pos hc38_304, reduceIte, Bool.false_eq_true]), N300, e300⟩)
                        · skip
                          refine own_icmpYes X300 hx hby 38 43 d4_38 (feq hc38_304).2 (by decide) (by decide) ?_
                          refine own_iinc X300 hx hby d4_43 rfl (l' := #[.val (.ref a1), .val (.int ((2 : Int32) + (1 : Int32))), .val (.int c2)]) rfl ?_
                          refine own_eq (U' := (T300.setTop (mkF m 46 #[.val (.ref a1), .val (.int (3 : Int32)), .val (.int c2)] []))) (by rw [show ((2 : Int32) + (1 : Int32)) = (3 : Int32) by decide]) ?_
                          refine own_goto X300 hx hby 46 2 d4_46 (by decide) (by decide) ?_
                          refine own_iloadN X300 hx hby d4_2 rfl ?_
                          refine own_aloadN X300 hx hby d4_3 rfl rfl ?_
                          obtain ⟨cq305, kq305, q305a, q305b, q305c⟩ := isOf hZ e300 E1
                          obtain ⟨_, _, ⟨T305, L305, k305, n305⟩, -, X305, ⟨Lc305, hQ305, l305, y305, z305⟩, st305⟩ := X300.virtualBack hx (y := mN_10) (z := mN_10) hown (mvT hZ (own_w hw 26 rfl)) (mvT hZ (own_w hw 27 rfl)) (notFace_of_selects (args := #[]) (mvT hZ (own_w hw 29 rfl))) (mvT hZ (own_w hw 29 rfl)) (mvT hZ (own_w hw 28 rfl)) (by decide) (backOf (W := 1) (rmlen3 l Z a0 hw [] a1 c0 c1 c2 g1 h0 n0 Z0 T1 SC hg1) hZ (own_w hw 30 rfl) (own_w hw 2 rfl) (by decide) (by decide)) q305a q305c (g := (mkF m 4 #[.val (.ref a1), .val (.int (3 : Int32)), .val (.int c2)] [(.ref a1), (.int (3 : Int32))])) rfl (by rw [hml]; rfl) (Steps.refl _) (argsL := []) (rest := [(.int (3 : Int32))]) (lenOf pd_14 rfl) rfl (by show 2 * 0 + _ ≤ _; exact Nat.le_of_eq rfl) (hb hby d4_4) (fun _ _ => ⟨rfl, e300, (by decide : 0 + 0 ≤ _), (by decide : 0 + 0 ≤ _)⟩)
                          dsimp only [Pt.U, Pt.locs, Pt.cells, Pt.slots] at X305 l305 y305 z305 st305 hQ305
                          subst l305 y305 z305
                          obtain ⟨rfl, Nq305, e305⟩ := hQ305
                          have N305 := Fr.app N300 Nq305
                          refine own_of (U' := (T305.setTop (mkF m 7 #[.val (.ref a1), .val (.int (3 : Int32)), .val (.int c2)] [(.int (3 : Int32)), (.int (3 : Int32))]))) (fun _ k => st305.trans k) ?_
                          have hc7_306 : ¬ ((3 : Int32) < (3 : Int32)) := by decide
                          refine own_icmpYes X305 hx hby 7 49 d4_7 (flt hc7_306).2.1 (by decide) (by decide) ?_
                          refine own_iconst X305 hx hby 1 d4_49 rfl ?_
                          exact own_retN X305 hx hlk (t := .boolean) Bd.returns (by simp) (hb hby d4_50) (by decide) (by decide) (⟨congrArg (fun z => some (Value.int z)) (show nar .boolean (1 : Int32) = own_fv [c0, c1, c2] from by simp only [own_fv, own_fok, own_b0, own_b1, if_neg hc20_287, if_pos hc26_288, if_pos hc32_289, if_neg hc38_290, if_neg hc20_294, if_pos hc26_295, if_pos hc32_296, if_neg hc38_297, if_neg hc20_301, if_pos hc26_302, if_pos hc32_303, if_neg hc38_304, reduceIte, Bool.false_eq_true]), N305, e305⟩)
                      · skip
                        refine own_icmpYes X300 hx hby 32 41 d4_32 (feq hc32_303).2 (by decide) (by decide) ?_
                        refine own_iconst X300 hx hby 0 d4_41 rfl ?_
                        exact own_retN X300 hx hlk (t := .boolean) Bd.returns (by simp) (hb hby d4_42) (by decide) (by decide) (⟨congrArg (fun z => some (Value.int z)) (show nar .boolean (0 : Int32) = own_fv [c0, c1, c2] from by simp only [own_fv, own_fok, own_b0, own_b1, if_neg hc20_287, if_pos hc26_288, if_pos hc32_289, if_neg hc38_290, if_neg hc20_294, if_pos hc26_295, if_pos hc32_296, if_neg hc38_297, if_neg hc20_301, if_pos hc26_302, if_neg hc32_303, reduceIte, Bool.false_eq_true]), N300, e300⟩)
                    · skip
                      refine own_icmpYes X300 hx hby 26 35 d4_26 (flt hc26_302).2.1 (by decide) (by decide) ?_
                      refine own_iloadN X300 hx hby d4_35 rfl ?_
                      refine own_bipush X300 hx hby 127 d4_36 rfl ?_
                      by_cases hc38_307 : c2 = (127 : Int32)
                      · skip
                        refine own_icmpNo X300 hx hby d4_38 (teq hc38_307).2 ?_
                        refine own_iconst X300 hx hby 0 d4_41 rfl ?_
                        exact own_retN X300 hx hlk (t := .boolean) Bd.returns (by simp) (hb hby d4_42) (by decide) (by decide) (⟨congrArg (fun z => some (Value.int z)) (show nar .boolean (0 : Int32) = own_fv [c0, c1, c2] from by simp only [own_fv, own_fok, own_b0, own_b1, if_neg hc20_287, if_pos hc26_288, if_pos hc32_289, if_neg hc38_290, if_neg hc20_294, if_pos hc26_295, if_pos hc32_296, if_neg hc38_297, if_neg hc20_301, if_neg hc26_302, if_pos hc38_307, reduceIte, Bool.false_eq_true]), N300, e300⟩)
                      · skip
                        refine own_icmpYes X300 hx hby 38 43 d4_38 (feq hc38_307).2 (by decide) (by decide) ?_
                        refine own_iinc X300 hx hby d4_43 rfl (l' := #[.val (.ref a1), .val (.int ((2 : Int32) + (1 : Int32))), .val (.int c2)]) rfl ?_
                        refine own_eq (U' := (T300.setTop (mkF m 46 #[.val (.ref a1), .val (.int (3 : Int32)), .val (.int c2)] []))) (by rw [show ((2 : Int32) + (1 : Int32)) = (3 : Int32) by decide]) ?_
                        refine own_goto X300 hx hby 46 2 d4_46 (by decide) (by decide) ?_
                        refine own_iloadN X300 hx hby d4_2 rfl ?_
                        refine own_aloadN X300 hx hby d4_3 rfl rfl ?_
                        obtain ⟨cq308, kq308, q308a, q308b, q308c⟩ := isOf hZ e300 E1
                        obtain ⟨_, _, ⟨T308, L308, k308, n308⟩, -, X308, ⟨Lc308, hQ308, l308, y308, z308⟩, st308⟩ := X300.virtualBack hx (y := mN_10) (z := mN_10) hown (mvT hZ (own_w hw 26 rfl)) (mvT hZ (own_w hw 27 rfl)) (notFace_of_selects (args := #[]) (mvT hZ (own_w hw 29 rfl))) (mvT hZ (own_w hw 29 rfl)) (mvT hZ (own_w hw 28 rfl)) (by decide) (backOf (W := 1) (rmlen3 l Z a0 hw [] a1 c0 c1 c2 g1 h0 n0 Z0 T1 SC hg1) hZ (own_w hw 30 rfl) (own_w hw 2 rfl) (by decide) (by decide)) q308a q308c (g := (mkF m 4 #[.val (.ref a1), .val (.int (3 : Int32)), .val (.int c2)] [(.ref a1), (.int (3 : Int32))])) rfl (by rw [hml]; rfl) (Steps.refl _) (argsL := []) (rest := [(.int (3 : Int32))]) (lenOf pd_14 rfl) rfl (by show 2 * 0 + _ ≤ _; exact Nat.le_of_eq rfl) (hb hby d4_4) (fun _ _ => ⟨rfl, e300, (by decide : 0 + 0 ≤ _), (by decide : 0 + 0 ≤ _)⟩)
                        dsimp only [Pt.U, Pt.locs, Pt.cells, Pt.slots] at X308 l308 y308 z308 st308 hQ308
                        subst l308 y308 z308
                        obtain ⟨rfl, Nq308, e308⟩ := hQ308
                        have N308 := Fr.app N300 Nq308
                        refine own_of (U' := (T308.setTop (mkF m 7 #[.val (.ref a1), .val (.int (3 : Int32)), .val (.int c2)] [(.int (3 : Int32)), (.int (3 : Int32))]))) (fun _ k => st308.trans k) ?_
                        have hc7_309 : ¬ ((3 : Int32) < (3 : Int32)) := by decide
                        refine own_icmpYes X308 hx hby 7 49 d4_7 (flt hc7_309).2.1 (by decide) (by decide) ?_
                        refine own_iconst X308 hx hby 1 d4_49 rfl ?_
                        exact own_retN X308 hx hlk (t := .boolean) Bd.returns (by simp) (hb hby d4_50) (by decide) (by decide) (⟨congrArg (fun z => some (Value.int z)) (show nar .boolean (1 : Int32) = own_fv [c0, c1, c2] from by simp only [own_fv, own_fok, own_b0, own_b1, if_neg hc20_287, if_pos hc26_288, if_pos hc32_289, if_neg hc38_290, if_neg hc20_294, if_pos hc26_295, if_pos hc32_296, if_neg hc38_297, if_neg hc20_301, if_neg hc26_302, if_neg hc38_307, reduceIte, Bool.false_eq_true]), N308, e308⟩)
              · skip
                refine own_icmpYes X293 hx hby 32 41 d4_32 (feq hc32_296).2 (by decide) (by decide) ?_
                refine own_iconst X293 hx hby 0 d4_41 rfl ?_
                exact own_retN X293 hx hlk (t := .boolean) Bd.returns (by simp) (hb hby d4_42) (by decide) (by decide) (⟨congrArg (fun z => some (Value.int z)) (show nar .boolean (0 : Int32) = own_fv [c0, c1, c2] from by simp only [own_fv, own_fok, own_b0, own_b1, if_neg hc20_287, if_pos hc26_288, if_pos hc32_289, if_neg hc38_290, if_neg hc20_294, if_pos hc26_295, if_neg hc32_296, reduceIte, Bool.false_eq_true]), N293, e293⟩)
            · skip
              refine own_icmpYes X293 hx hby 26 35 d4_26 (flt hc26_295).2.1 (by decide) (by decide) ?_
              refine own_iloadN X293 hx hby d4_35 rfl ?_
              refine own_bipush X293 hx hby 127 d4_36 rfl ?_
              by_cases hc38_310 : c1 = (127 : Int32)
              · skip
                refine own_icmpNo X293 hx hby d4_38 (teq hc38_310).2 ?_
                refine own_iconst X293 hx hby 0 d4_41 rfl ?_
                exact own_retN X293 hx hlk (t := .boolean) Bd.returns (by simp) (hb hby d4_42) (by decide) (by decide) (⟨congrArg (fun z => some (Value.int z)) (show nar .boolean (0 : Int32) = own_fv [c0, c1, c2] from by simp only [own_fv, own_fok, own_b0, own_b1, if_neg hc20_287, if_pos hc26_288, if_pos hc32_289, if_neg hc38_290, if_neg hc20_294, if_neg hc26_295, if_pos hc38_310, reduceIte, Bool.false_eq_true]), N293, e293⟩)
              · skip
                refine own_icmpYes X293 hx hby 38 43 d4_38 (feq hc38_310).2 (by decide) (by decide) ?_
                refine own_iinc X293 hx hby d4_43 rfl (l' := #[.val (.ref a1), .val (.int ((1 : Int32) + (1 : Int32))), .val (.int c1)]) rfl ?_
                refine own_eq (U' := (T293.setTop (mkF m 46 #[.val (.ref a1), .val (.int (2 : Int32)), .val (.int c1)] []))) (by rw [show ((1 : Int32) + (1 : Int32)) = (2 : Int32) by decide]) ?_
                refine own_goto X293 hx hby 46 2 d4_46 (by decide) (by decide) ?_
                refine own_iloadN X293 hx hby d4_2 rfl ?_
                refine own_aloadN X293 hx hby d4_3 rfl rfl ?_
                obtain ⟨cq311, kq311, q311a, q311b, q311c⟩ := isOf hZ e293 E1
                obtain ⟨_, _, ⟨T311, L311, k311, n311⟩, -, X311, ⟨Lc311, hQ311, l311, y311, z311⟩, st311⟩ := X293.virtualBack hx (y := mN_10) (z := mN_10) hown (mvT hZ (own_w hw 26 rfl)) (mvT hZ (own_w hw 27 rfl)) (notFace_of_selects (args := #[]) (mvT hZ (own_w hw 29 rfl))) (mvT hZ (own_w hw 29 rfl)) (mvT hZ (own_w hw 28 rfl)) (by decide) (backOf (W := 1) (rmlen3 l Z a0 hw [] a1 c0 c1 c2 g1 h0 n0 Z0 T1 SC hg1) hZ (own_w hw 30 rfl) (own_w hw 2 rfl) (by decide) (by decide)) q311a q311c (g := (mkF m 4 #[.val (.ref a1), .val (.int (2 : Int32)), .val (.int c1)] [(.ref a1), (.int (2 : Int32))])) rfl (by rw [hml]; rfl) (Steps.refl _) (argsL := []) (rest := [(.int (2 : Int32))]) (lenOf pd_14 rfl) rfl (by show 2 * 0 + _ ≤ _; exact Nat.le_of_eq rfl) (hb hby d4_4) (fun _ _ => ⟨rfl, e293, (by decide : 0 + 0 ≤ _), (by decide : 0 + 0 ≤ _)⟩)
                dsimp only [Pt.U, Pt.locs, Pt.cells, Pt.slots] at X311 l311 y311 z311 st311 hQ311
                subst l311 y311 z311
                obtain ⟨rfl, Nq311, e311⟩ := hQ311
                have N311 := Fr.app N293 Nq311
                refine own_of (U' := (T311.setTop (mkF m 7 #[.val (.ref a1), .val (.int (2 : Int32)), .val (.int c1)] [(.int (3 : Int32)), (.int (2 : Int32))]))) (fun _ k => st311.trans k) ?_
                have hc7_312 : (2 : Int32) < (3 : Int32) := by decide
                refine own_icmpNo X311 hx hby d4_7 (tlt hc7_312).2.1 ?_
                refine own_aloadN X311 hx hby d4_10 rfl rfl ?_
                refine own_iloadN X311 hx hby d4_11 rfl ?_
                obtain ⟨cq313, kq313, q313a, q313b, q313c⟩ := isOf hZ e311 E1
                obtain ⟨_, _, ⟨T313, L313, k313, n313⟩, -, X313, ⟨Lc313, hQ313, l313, y313, z313⟩, st313⟩ := X311.virtualBack hx (y := mN_7) (z := mN_7) hown (mvT hZ (own_w hw 51 rfl)) (mvT hZ (own_w hw 52 rfl)) (notFace_of_selects (args := #[]) (mvT hZ (own_w hw 54 rfl))) (mvT hZ (own_w hw 54 rfl)) (mvT hZ (own_w hw 53 rfl)) (by decide) (backOf (W := 0) (rmch3_2 l Z a0 hw [] a1 c0 c1 c2 g1 rS h0 n0 Z0 T1 hb0 hb1 hb2 SC hg1 SA SHI SLO SF hrS) hZ (own_w hw 55 rfl) (own_w hw 2 rfl) (by decide) (by decide)) q313a q313c (g := (mkF m 12 #[.val (.ref a1), .val (.int (2 : Int32)), .val (.int c1)] [(.int (2 : Int32)), (.ref a1)])) rfl (by rw [hml]; rfl) (Steps.refl _) (argsL := [(.int (2 : Int32))]) (rest := []) (lenOf pd_15 rfl) rfl (by show 2 * 0 + _ ≤ _; exact Nat.le_of_eq rfl) (hb hby d4_12) (fun _ _ => ⟨rfl, e311, (by decide : 0 + 0 ≤ _), (by decide : 0 + 0 ≤ _)⟩)
                dsimp only [Pt.U, Pt.locs, Pt.cells, Pt.slots] at X313 l313 y313 z313 st313 hQ313
                subst l313 y313 z313
                obtain ⟨rfl, Nq313, e313⟩ := hQ313
                have N313 := Fr.app N311 Nq313
                refine own_of (U' := (T313.setTop (mkF m 15 #[.val (.ref a1), .val (.int (2 : Int32)), .val (.int c1)] [(.int c2)]))) (fun _ k => st313.trans k) ?_
                refine own_istoreN X313 hx hby d4_15 (l' := #[.val (.ref a1), .val (.int (2 : Int32)), .val (.int c2)]) rfl ?_
                refine own_iloadN X313 hx hby d4_16 rfl ?_
                refine own_sipush X313 hx hby 255 d4_17 rfl ?_
                by_cases hc20_314 : (255 : Int32) < c2
                · skip
                  refine own_icmpYes X313 hx hby 20 41 d4_20 (tlt hc20_314).2.2.1 (by decide) (by decide) ?_
                  refine own_iconst X313 hx hby 0 d4_41 rfl ?_
                  exact own_retN X313 hx hlk (t := .boolean) Bd.returns (by simp) (hb hby d4_42) (by decide) (by decide) (⟨congrArg (fun z => some (Value.int z)) (show nar .boolean (0 : Int32) = own_fv [c0, c1, c2] from by simp only [own_fv, own_fok, own_b0, own_b1, if_neg hc20_287, if_pos hc26_288, if_pos hc32_289, if_neg hc38_290, if_neg hc20_294, if_neg hc26_295, if_neg hc38_310, if_pos hc20_314, reduceIte, Bool.false_eq_true]), N313, e313⟩)
                · skip
                  refine own_icmpNo X313 hx hby d4_20 (flt hc20_314).2.2.1 ?_
                  refine own_iloadN X313 hx hby d4_23 rfl ?_
                  refine own_bipush X313 hx hby 32 d4_24 rfl ?_
                  by_cases hc26_315 : c2 < (32 : Int32)
                  · skip
                    refine own_icmpNo X313 hx hby d4_26 (tlt hc26_315).2.1 ?_
                    refine own_iloadN X313 hx hby d4_29 rfl ?_
                    refine own_bipush X313 hx hby 9 d4_30 rfl ?_
                    by_cases hc32_316 : c2 = (9 : Int32)
                    · skip
                      refine own_icmpNo X313 hx hby d4_32 (teq hc32_316).2 ?_
                      refine own_iloadN X313 hx hby d4_35 rfl ?_
                      refine own_bipush X313 hx hby 127 d4_36 rfl ?_
                      by_cases hc38_317 : c2 = (127 : Int32)
                      · skip
                        refine own_icmpNo X313 hx hby d4_38 (teq hc38_317).2 ?_
                        refine own_iconst X313 hx hby 0 d4_41 rfl ?_
                        exact own_retN X313 hx hlk (t := .boolean) Bd.returns (by simp) (hb hby d4_42) (by decide) (by decide) (⟨congrArg (fun z => some (Value.int z)) (show nar .boolean (0 : Int32) = own_fv [c0, c1, c2] from by simp only [own_fv, own_fok, own_b0, own_b1, if_neg hc20_287, if_pos hc26_288, if_pos hc32_289, if_neg hc38_290, if_neg hc20_294, if_neg hc26_295, if_neg hc38_310, if_neg hc20_314, if_pos hc26_315, if_pos hc32_316, if_pos hc38_317, reduceIte, Bool.false_eq_true]), N313, e313⟩)
                      · skip
                        refine own_icmpYes X313 hx hby 38 43 d4_38 (feq hc38_317).2 (by decide) (by decide) ?_
                        refine own_iinc X313 hx hby d4_43 rfl (l' := #[.val (.ref a1), .val (.int ((2 : Int32) + (1 : Int32))), .val (.int c2)]) rfl ?_
                        refine own_eq (U' := (T313.setTop (mkF m 46 #[.val (.ref a1), .val (.int (3 : Int32)), .val (.int c2)] []))) (by rw [show ((2 : Int32) + (1 : Int32)) = (3 : Int32) by decide]) ?_
                        refine own_goto X313 hx hby 46 2 d4_46 (by decide) (by decide) ?_
                        refine own_iloadN X313 hx hby d4_2 rfl ?_
                        refine own_aloadN X313 hx hby d4_3 rfl rfl ?_
                        obtain ⟨cq318, kq318, q318a, q318b, q318c⟩ := isOf hZ e313 E1
                        obtain ⟨_, _, ⟨T318, L318, k318, n318⟩, -, X318, ⟨Lc318, hQ318, l318, y318, z318⟩, st318⟩ := X313.virtualBack hx (y := mN_10) (z := mN_10) hown (mvT hZ (own_w hw 26 rfl)) (mvT hZ (own_w hw 27 rfl)) (notFace_of_selects (args := #[]) (mvT hZ (own_w hw 29 rfl))) (mvT hZ (own_w hw 29 rfl)) (mvT hZ (own_w hw 28 rfl)) (by decide) (backOf (W := 1) (rmlen3 l Z a0 hw [] a1 c0 c1 c2 g1 h0 n0 Z0 T1 SC hg1) hZ (own_w hw 30 rfl) (own_w hw 2 rfl) (by decide) (by decide)) q318a q318c (g := (mkF m 4 #[.val (.ref a1), .val (.int (3 : Int32)), .val (.int c2)] [(.ref a1), (.int (3 : Int32))])) rfl (by rw [hml]; rfl) (Steps.refl _) (argsL := []) (rest := [(.int (3 : Int32))]) (lenOf pd_14 rfl) rfl (by show 2 * 0 + _ ≤ _; exact Nat.le_of_eq rfl) (hb hby d4_4) (fun _ _ => ⟨rfl, e313, (by decide : 0 + 0 ≤ _), (by decide : 0 + 0 ≤ _)⟩)
                        dsimp only [Pt.U, Pt.locs, Pt.cells, Pt.slots] at X318 l318 y318 z318 st318 hQ318
                        subst l318 y318 z318
                        obtain ⟨rfl, Nq318, e318⟩ := hQ318
                        have N318 := Fr.app N313 Nq318
                        refine own_of (U' := (T318.setTop (mkF m 7 #[.val (.ref a1), .val (.int (3 : Int32)), .val (.int c2)] [(.int (3 : Int32)), (.int (3 : Int32))]))) (fun _ k => st318.trans k) ?_
                        have hc7_319 : ¬ ((3 : Int32) < (3 : Int32)) := by decide
                        refine own_icmpYes X318 hx hby 7 49 d4_7 (flt hc7_319).2.1 (by decide) (by decide) ?_
                        refine own_iconst X318 hx hby 1 d4_49 rfl ?_
                        exact own_retN X318 hx hlk (t := .boolean) Bd.returns (by simp) (hb hby d4_50) (by decide) (by decide) (⟨congrArg (fun z => some (Value.int z)) (show nar .boolean (1 : Int32) = own_fv [c0, c1, c2] from by simp only [own_fv, own_fok, own_b0, own_b1, if_neg hc20_287, if_pos hc26_288, if_pos hc32_289, if_neg hc38_290, if_neg hc20_294, if_neg hc26_295, if_neg hc38_310, if_neg hc20_314, if_pos hc26_315, if_pos hc32_316, if_neg hc38_317, reduceIte, Bool.false_eq_true]), N318, e318⟩)
                    · skip
                      refine own_icmpYes X313 hx hby 32 41 d4_32 (feq hc32_316).2 (by decide) (by decide) ?_
                      refine own_iconst X313 hx hby 0 d4_41 rfl ?_
                      exact own_retN X313 hx hlk (t := .boolean) Bd.returns (by simp) (hb hby d4_42) (by decide) (by decide) (⟨congrArg (fun z => some (Value.int z)) (show nar .boolean (0 : Int32) = own_fv [c0, c1, c2] from by simp only [own_fv, own_fok, own_b0, own_b1, if_neg hc20_287, if_pos hc26_288, if_pos hc32_289, if_neg hc38_290, if_neg hc20_294, if_neg hc26_295, if_neg hc38_310, if_neg hc20_314, if_pos hc26_315, if_neg hc32_316, reduceIte, Bool.false_eq_true]), N313, e313⟩)
                  · skip
                    refine own_icmpYes X313 hx hby 26 35 d4_26 (flt hc26_315).2.1 (by decide) (by decide) ?_
                    refine own_iloadN X313 hx hby d4_35 rfl ?_
                    refine own_bipush X313 hx hby 127 d4_36 rfl ?_
                    by_cases hc38_320 : c2 = (127 : Int32)
                    · skip
                      refine own_icmpNo X313 hx hby d4_38 (teq hc38_320).2 ?_
                      refine own_iconst X313 hx hby 0 d4_41 rfl ?_
                      exact own_retN X313 hx hlk (t := .boolean) Bd.returns (by simp) (hb hby d4_42) (by decide) (by decide) (⟨congrArg (fun z => some (Value.int z)) (show nar .boolean (0 : Int32) = own_fv [c0, c1, c2] from by simp only [own_fv, own_fok, own_b0, own_b1, if_neg hc20_287, if_pos hc26_288, if_pos hc32_289, if_neg hc38_290, if_neg hc20_294, if_neg hc26_295, if_neg hc38_310, if_neg hc20_314, if_neg hc26_315, if_pos hc38_320, reduceIte, Bool.false_eq_true]), N313, e313⟩)
                    · skip
                      refine own_icmpYes X313 hx hby 38 43 d4_38 (feq hc38_320).2 (by decide) (by decide) ?_
                      refine own_iinc X313 hx hby d4_43 rfl (l' := #[.val (.ref a1), .val (.int ((2 : Int32) + (1 : Int32))), .val (.int c2)]) rfl ?_
                      refine own_eq (U' := (T313.setTop (mkF m 46 #[.val (.ref a1), .val (.int (3 : Int32)), .val (.int c2)] []))) (by rw [show ((2 : Int32) + (1 : Int32)) = (3 : Int32) by decide]) ?_
                      refine own_goto X313 hx hby 46 2 d4_46 (by decide) (by decide) ?_
                      refine own_iloadN X313 hx hby d4_2 rfl ?_
                      refine own_aloadN X313 hx hby d4_3 rfl rfl ?_
                      obtain ⟨cq321, kq321, q321a, q321b, q321c⟩ := isOf hZ e313 E1
                      obtain ⟨_, _, ⟨T321, L321, k321, n321⟩, -, X321, ⟨Lc321, hQ321, l321, y321, z321⟩, st321⟩ := X313.virtualBack hx (y := mN_10) (z := mN_10) hown (mvT hZ (own_w hw 26 rfl)) (mvT hZ (own_w hw 27 rfl)) (notFace_of_selects (args := #[]) (mvT hZ (own_w hw 29 rfl))) (mvT hZ (own_w hw 29 rfl)) (mvT hZ (own_w hw 28 rfl)) (by decide) (backOf (W := 1) (rmlen3 l Z a0 hw [] a1 c0 c1 c2 g1 h0 n0 Z0 T1 SC hg1) hZ (own_w hw 30 rfl) (own_w hw 2 rfl) (by decide) (by decide)) q321a q321c (g := (mkF m 4 #[.val (.ref a1), .val (.int (3 : Int32)), .val (.int c2)] [(.ref a1), (.int (3 : Int32))])) rfl (by rw [hml]; rfl) (Steps.refl _) (argsL := []) (rest := [(.int (3 : Int32))]) (lenOf pd_14 rfl) rfl (by show 2 * 0 + _ ≤ _; exact Nat.le_of_eq rfl) (hb hby d4_4) (fun _ _ => ⟨rfl, e313, (by decide : 0 + 0 ≤ _), (by decide : 0 + 0 ≤ _)⟩)
                      dsimp only [Pt.U, Pt.locs, Pt.cells, Pt.slots] at X321 l321 y321 z321 st321 hQ321
                      subst l321 y321 z321
                      obtain ⟨rfl, Nq321, e321⟩ := hQ321
                      have N321 := Fr.app N313 Nq321
                      refine own_of (U' := (T321.setTop (mkF m 7 #[.val (.ref a1), .val (.int (3 : Int32)), .val (.int c2)] [(.int (3 : Int32)), (.int (3 : Int32))]))) (fun _ k => st321.trans k) ?_
                      have hc7_322 : ¬ ((3 : Int32) < (3 : Int32)) := by decide
                      refine own_icmpYes X321 hx hby 7 49 d4_7 (flt hc7_322).2.1 (by decide) (by decide) ?_
                      refine own_iconst X321 hx hby 1 d4_49 rfl ?_
                      exact own_retN X321 hx hlk (t := .boolean) Bd.returns (by simp) (hb hby d4_50) (by decide) (by decide) (⟨congrArg (fun z => some (Value.int z)) (show nar .boolean (1 : Int32) = own_fv [c0, c1, c2] from by simp only [own_fv, own_fok, own_b0, own_b1, if_neg hc20_287, if_pos hc26_288, if_pos hc32_289, if_neg hc38_290, if_neg hc20_294, if_neg hc26_295, if_neg hc38_310, if_neg hc20_314, if_neg hc26_315, if_neg hc38_320, reduceIte, Bool.false_eq_true]), N321, e321⟩)
      · skip
        refine own_icmpYes X286 hx hby 32 41 d4_32 (feq hc32_289).2 (by decide) (by decide) ?_
        refine own_iconst X286 hx hby 0 d4_41 rfl ?_
        exact own_retN X286 hx hlk (t := .boolean) Bd.returns (by simp) (hb hby d4_42) (by decide) (by decide) (⟨congrArg (fun z => some (Value.int z)) (show nar .boolean (0 : Int32) = own_fv [c0, c1, c2] from by simp only [own_fv, own_fok, own_b0, own_b1, if_neg hc20_287, if_pos hc26_288, if_neg hc32_289, reduceIte, Bool.false_eq_true]), N286, e286⟩)
    · skip
      refine own_icmpYes X286 hx hby 26 35 d4_26 (flt hc26_288).2.1 (by decide) (by decide) ?_
      refine own_iloadN X286 hx hby d4_35 rfl ?_
      refine own_bipush X286 hx hby 127 d4_36 rfl ?_
      by_cases hc38_323 : c0 = (127 : Int32)
      · skip
        refine own_icmpNo X286 hx hby d4_38 (teq hc38_323).2 ?_
        refine own_iconst X286 hx hby 0 d4_41 rfl ?_
        exact own_retN X286 hx hlk (t := .boolean) Bd.returns (by simp) (hb hby d4_42) (by decide) (by decide) (⟨congrArg (fun z => some (Value.int z)) (show nar .boolean (0 : Int32) = own_fv [c0, c1, c2] from by simp only [own_fv, own_fok, own_b0, own_b1, if_neg hc20_287, if_neg hc26_288, if_pos hc38_323, reduceIte, Bool.false_eq_true]), N286, e286⟩)
      · skip
        refine own_icmpYes X286 hx hby 38 43 d4_38 (feq hc38_323).2 (by decide) (by decide) ?_
        refine own_iinc X286 hx hby d4_43 rfl (l' := #[.val (.ref a1), .val (.int ((0 : Int32) + (1 : Int32))), .val (.int c0)]) rfl ?_
        refine own_eq (U' := (T286.setTop (mkF m 46 #[.val (.ref a1), .val (.int (1 : Int32)), .val (.int c0)] []))) (by rw [show ((0 : Int32) + (1 : Int32)) = (1 : Int32) by decide]) ?_
        refine own_goto X286 hx hby 46 2 d4_46 (by decide) (by decide) ?_
        refine own_iloadN X286 hx hby d4_2 rfl ?_
        refine own_aloadN X286 hx hby d4_3 rfl rfl ?_
        obtain ⟨cq324, kq324, q324a, q324b, q324c⟩ := isOf hZ e286 E1
        obtain ⟨_, _, ⟨T324, L324, k324, n324⟩, -, X324, ⟨Lc324, hQ324, l324, y324, z324⟩, st324⟩ := X286.virtualBack hx (y := mN_10) (z := mN_10) hown (mvT hZ (own_w hw 26 rfl)) (mvT hZ (own_w hw 27 rfl)) (notFace_of_selects (args := #[]) (mvT hZ (own_w hw 29 rfl))) (mvT hZ (own_w hw 29 rfl)) (mvT hZ (own_w hw 28 rfl)) (by decide) (backOf (W := 1) (rmlen3 l Z a0 hw [] a1 c0 c1 c2 g1 h0 n0 Z0 T1 SC hg1) hZ (own_w hw 30 rfl) (own_w hw 2 rfl) (by decide) (by decide)) q324a q324c (g := (mkF m 4 #[.val (.ref a1), .val (.int (1 : Int32)), .val (.int c0)] [(.ref a1), (.int (1 : Int32))])) rfl (by rw [hml]; rfl) (Steps.refl _) (argsL := []) (rest := [(.int (1 : Int32))]) (lenOf pd_14 rfl) rfl (by show 2 * 0 + _ ≤ _; exact Nat.le_of_eq rfl) (hb hby d4_4) (fun _ _ => ⟨rfl, e286, (by decide : 0 + 0 ≤ _), (by decide : 0 + 0 ≤ _)⟩)
        dsimp only [Pt.U, Pt.locs, Pt.cells, Pt.slots] at X324 l324 y324 z324 st324 hQ324
        subst l324 y324 z324
        obtain ⟨rfl, Nq324, e324⟩ := hQ324
        have N324 := Fr.app N286 Nq324
        refine own_of (U' := (T324.setTop (mkF m 7 #[.val (.ref a1), .val (.int (1 : Int32)), .val (.int c0)] [(.int (3 : Int32)), (.int (1 : Int32))]))) (fun _ k => st324.trans k) ?_
        have hc7_325 : (1 : Int32) < (3 : Int32) := by decide
        refine own_icmpNo X324 hx hby d4_7 (tlt hc7_325).2.1 ?_
        refine own_aloadN X324 hx hby d4_10 rfl rfl ?_
        refine own_iloadN X324 hx hby d4_11 rfl ?_
        obtain ⟨cq326, kq326, q326a, q326b, q326c⟩ := isOf hZ e324 E1
        obtain ⟨_, _, ⟨T326, L326, k326, n326⟩, -, X326, ⟨Lc326, hQ326, l326, y326, z326⟩, st326⟩ := X324.virtualBack hx (y := mN_7) (z := mN_7) hown (mvT hZ (own_w hw 51 rfl)) (mvT hZ (own_w hw 52 rfl)) (notFace_of_selects (args := #[]) (mvT hZ (own_w hw 54 rfl))) (mvT hZ (own_w hw 54 rfl)) (mvT hZ (own_w hw 53 rfl)) (by decide) (backOf (W := 0) (rmch3_1 l Z a0 hw [] a1 c0 c1 c2 g1 rS h0 n0 Z0 T1 hb0 hb1 hb2 SC hg1 SA SHI SLO SF hrS) hZ (own_w hw 55 rfl) (own_w hw 2 rfl) (by decide) (by decide)) q326a q326c (g := (mkF m 12 #[.val (.ref a1), .val (.int (1 : Int32)), .val (.int c0)] [(.int (1 : Int32)), (.ref a1)])) rfl (by rw [hml]; rfl) (Steps.refl _) (argsL := [(.int (1 : Int32))]) (rest := []) (lenOf pd_15 rfl) rfl (by show 2 * 0 + _ ≤ _; exact Nat.le_of_eq rfl) (hb hby d4_12) (fun _ _ => ⟨rfl, e324, (by decide : 0 + 0 ≤ _), (by decide : 0 + 0 ≤ _)⟩)
        dsimp only [Pt.U, Pt.locs, Pt.cells, Pt.slots] at X326 l326 y326 z326 st326 hQ326
        subst l326 y326 z326
        obtain ⟨rfl, Nq326, e326⟩ := hQ326
        have N326 := Fr.app N324 Nq326
        refine own_of (U' := (T326.setTop (mkF m 15 #[.val (.ref a1), .val (.int (1 : Int32)), .val (.int c0)] [(.int c1)]))) (fun _ k => st326.trans k) ?_
        refine own_istoreN X326 hx hby d4_15 (l' := #[.val (.ref a1), .val (.int (1 : Int32)), .val (.int c1)]) rfl ?_
        refine own_iloadN X326 hx hby d4_16 rfl ?_
        refine own_sipush X326 hx hby 255 d4_17 rfl ?_
        by_cases hc20_327 : (255 : Int32) < c1
        · skip
          refine own_icmpYes X326 hx hby 20 41 d4_20 (tlt hc20_327).2.2.1 (by decide) (by decide) ?_
          refine own_iconst X326 hx hby 0 d4_41 rfl ?_
          exact own_retN X326 hx hlk (t := .boolean) Bd.returns (by simp) (hb hby d4_42) (by decide) (by decide) (⟨congrArg (fun z => some (Value.int z)) (show nar .boolean (0 : Int32) = own_fv [c0, c1, c2] from by simp only [own_fv, own_fok, own_b0, own_b1, if_neg hc20_287, if_neg hc26_288, if_neg hc38_323, if_pos hc20_327, reduceIte, Bool.false_eq_true]), N326, e326⟩)
        · skip
          refine own_icmpNo X326 hx hby d4_20 (flt hc20_327).2.2.1 ?_
          refine own_iloadN X326 hx hby d4_23 rfl ?_
          refine own_bipush X326 hx hby 32 d4_24 rfl ?_
          by_cases hc26_328 : c1 < (32 : Int32)
          · skip
            refine own_icmpNo X326 hx hby d4_26 (tlt hc26_328).2.1 ?_
            refine own_iloadN X326 hx hby d4_29 rfl ?_
            refine own_bipush X326 hx hby 9 d4_30 rfl ?_
            by_cases hc32_329 : c1 = (9 : Int32)
            · skip
              refine own_icmpNo X326 hx hby d4_32 (teq hc32_329).2 ?_
              refine own_iloadN X326 hx hby d4_35 rfl ?_
              refine own_bipush X326 hx hby 127 d4_36 rfl ?_
              by_cases hc38_330 : c1 = (127 : Int32)
              · skip
                refine own_icmpNo X326 hx hby d4_38 (teq hc38_330).2 ?_
                refine own_iconst X326 hx hby 0 d4_41 rfl ?_
                exact own_retN X326 hx hlk (t := .boolean) Bd.returns (by simp) (hb hby d4_42) (by decide) (by decide) (⟨congrArg (fun z => some (Value.int z)) (show nar .boolean (0 : Int32) = own_fv [c0, c1, c2] from by simp only [own_fv, own_fok, own_b0, own_b1, if_neg hc20_287, if_neg hc26_288, if_neg hc38_323, if_neg hc20_327, if_pos hc26_328, if_pos hc32_329, if_pos hc38_330, reduceIte, Bool.false_eq_true]), N326, e326⟩)
              · skip
                refine own_icmpYes X326 hx hby 38 43 d4_38 (feq hc38_330).2 (by decide) (by decide) ?_
                refine own_iinc X326 hx hby d4_43 rfl (l' := #[.val (.ref a1), .val (.int ((1 : Int32) + (1 : Int32))), .val (.int c1)]) rfl ?_
                refine own_eq (U' := (T326.setTop (mkF m 46 #[.val (.ref a1), .val (.int (2 : Int32)), .val (.int c1)] []))) (by rw [show ((1 : Int32) + (1 : Int32)) = (2 : Int32) by decide]) ?_
                refine own_goto X326 hx hby 46 2 d4_46 (by decide) (by decide) ?_
                refine own_iloadN X326 hx hby d4_2 rfl ?_
                refine own_aloadN X326 hx hby d4_3 rfl rfl ?_
                obtain ⟨cq331, kq331, q331a, q331b, q331c⟩ := isOf hZ e326 E1
                obtain ⟨_, _, ⟨T331, L331, k331, n331⟩, -, X331, ⟨Lc331, hQ331, l331, y331, z331⟩, st331⟩ := X326.virtualBack hx (y := mN_10) (z := mN_10) hown (mvT hZ (own_w hw 26 rfl)) (mvT hZ (own_w hw 27 rfl)) (notFace_of_selects (args := #[]) (mvT hZ (own_w hw 29 rfl))) (mvT hZ (own_w hw 29 rfl)) (mvT hZ (own_w hw 28 rfl)) (by decide) (backOf (W := 1) (rmlen3 l Z a0 hw [] a1 c0 c1 c2 g1 h0 n0 Z0 T1 SC hg1) hZ (own_w hw 30 rfl) (own_w hw 2 rfl) (by decide) (by decide)) q331a q331c (g := (mkF m 4 #[.val (.ref a1), .val (.int (2 : Int32)), .val (.int c1)] [(.ref a1), (.int (2 : Int32))])) rfl (by rw [hml]; rfl) (Steps.refl _) (argsL := []) (rest := [(.int (2 : Int32))]) (lenOf pd_14 rfl) rfl (by show 2 * 0 + _ ≤ _; exact Nat.le_of_eq rfl) (hb hby d4_4) (fun _ _ => ⟨rfl, e326, (by decide : 0 + 0 ≤ _), (by decide : 0 + 0 ≤ _)⟩)
                dsimp only [Pt.U, Pt.locs, Pt.cells, Pt.slots] at X331 l331 y331 z331 st331 hQ331
                subst l331 y331 z331
                obtain ⟨rfl, Nq331, e331⟩ := hQ331
                have N331 := Fr.app N326 Nq331
                refine own_of (U' := (T331.setTop (mkF m 7 #[.val (.ref a1), .val (.int (2 : Int32)), .val (.int c1)] [(.int (3 : Int32)), (.int (2 : Int32))]))) (fun _ k => st331.trans k) ?_
                have hc7_332 : (2 : Int32) < (3 : Int32) := by decide
                refine own_icmpNo X331 hx hby d4_7 (tlt hc7_332).2.1 ?_
                refine own_aloadN X331 hx hby d4_10 rfl rfl ?_
                refine own_iloadN X331 hx hby d4_11 rfl ?_
                obtain ⟨cq333, kq333, q333a, q333b, q333c⟩ := isOf hZ e331 E1
                obtain ⟨_, _, ⟨T333, L333, k333, n333⟩, -, X333, ⟨Lc333, hQ333, l333, y333, z333⟩, st333⟩ := X331.virtualBack hx (y := mN_7) (z := mN_7) hown (mvT hZ (own_w hw 51 rfl)) (mvT hZ (own_w hw 52 rfl)) (notFace_of_selects (args := #[]) (mvT hZ (own_w hw 54 rfl))) (mvT hZ (own_w hw 54 rfl)) (mvT hZ (own_w hw 53 rfl)) (by decide) (backOf (W := 0) (rmch3_2 l Z a0 hw [] a1 c0 c1 c2 g1 rS h0 n0 Z0 T1 hb0 hb1 hb2 SC hg1 SA SHI SLO SF hrS) hZ (own_w hw 55 rfl) (own_w hw 2 rfl) (by decide) (by decide)) q333a q333c (g := (mkF m 12 #[.val (.ref a1), .val (.int (2 : Int32)), .val (.int c1)] [(.int (2 : Int32)), (.ref a1)])) rfl (by rw [hml]; rfl) (Steps.refl _) (argsL := [(.int (2 : Int32))]) (rest := []) (lenOf pd_15 rfl) rfl (by show 2 * 0 + _ ≤ _; exact Nat.le_of_eq rfl) (hb hby d4_12) (fun _ _ => ⟨rfl, e331, (by decide : 0 + 0 ≤ _), (by decide : 0 + 0 ≤ _)⟩)
                dsimp only [Pt.U, Pt.locs, Pt.cells, Pt.slots] at X333 l333 y333 z333 st333 hQ333
                subst l333 y333 z333
                obtain ⟨rfl, Nq333, e333⟩ := hQ333
                have N333 := Fr.app N331 Nq333
                refine own_of (U' := (T333.setTop (mkF m 15 #[.val (.ref a1), .val (.int (2 : Int32)), .val (.int c1)] [(.int c2)]))) (fun _ k => st333.trans k) ?_
                refine own_istoreN X333 hx hby d4_15 (l' := #[.val (.ref a1), .val (.int (2 : Int32)), .val (.int c2)]) rfl ?_
                refine own_iloadN X333 hx hby d4_16 rfl ?_
                refine own_sipush X333 hx hby 255 d4_17 rfl ?_
                by_cases hc20_334 : (255 : Int32) < c2
                · skip
                  refine own_icmpYes X333 hx hby 20 41 d4_20 (tlt hc20_334).2.2.1 (by decide) (by decide) ?_
                  refine own_iconst X333 hx hby 0 d4_41 rfl ?_
                  exact own_retN X333 hx hlk (t := .boolean) Bd.returns (by simp) (hb hby d4_42) (by decide) (by decide) (⟨congrArg (fun z => some (Value.int z)) (show nar .boolean (0 : Int32) = own_fv [c0, c1, c2] from by simp only [own_fv, own_fok, own_b0, own_b1, if_neg hc20_287, if_neg hc26_288, if_neg hc38_323, if_neg hc20_327, if_pos hc26_328, if_pos hc32_329, if_neg hc38_330, if_pos hc20_334, reduceIte, Bool.false_eq_true]), N333, e333⟩)
                · skip
                  refine own_icmpNo X333 hx hby d4_20 (flt hc20_334).2.2.1 ?_
                  refine own_iloadN X333 hx hby d4_23 rfl ?_
                  refine own_bipush X333 hx hby 32 d4_24 rfl ?_
                  by_cases hc26_335 : c2 < (32 : Int32)
                  · skip
                    refine own_icmpNo X333 hx hby d4_26 (tlt hc26_335).2.1 ?_
                    refine own_iloadN X333 hx hby d4_29 rfl ?_
                    refine own_bipush X333 hx hby 9 d4_30 rfl ?_
                    by_cases hc32_336 : c2 = (9 : Int32)
                    · skip
                      refine own_icmpNo X333 hx hby d4_32 (teq hc32_336).2 ?_
                      refine own_iloadN X333 hx hby d4_35 rfl ?_
                      refine own_bipush X333 hx hby 127 d4_36 rfl ?_
                      by_cases hc38_337 : c2 = (127 : Int32)
                      · skip
                        refine own_icmpNo X333 hx hby d4_38 (teq hc38_337).2 ?_
                        refine own_iconst X333 hx hby 0 d4_41 rfl ?_
                        exact own_retN X333 hx hlk (t := .boolean) Bd.returns (by simp) (hb hby d4_42) (by decide) (by decide) (⟨congrArg (fun z => some (Value.int z)) (show nar .boolean (0 : Int32) = own_fv [c0, c1, c2] from by simp only [own_fv, own_fok, own_b0, own_b1, if_neg hc20_287, if_neg hc26_288, if_neg hc38_323, if_neg hc20_327, if_pos hc26_328, if_pos hc32_329, if_neg hc38_330, if_neg hc20_334, if_pos hc26_335, if_pos hc32_336, if_pos hc38_337, reduceIte, Bool.false_eq_true]), N333, e333⟩)
                      · skip
                        refine own_icmpYes X333 hx hby 38 43 d4_38 (feq hc38_337).2 (by decide) (by decide) ?_
                        refine own_iinc X333 hx hby d4_43 rfl (l' := #[.val (.ref a1), .val (.int ((2 : Int32) + (1 : Int32))), .val (.int c2)]) rfl ?_
                        refine own_eq (U' := (T333.setTop (mkF m 46 #[.val (.ref a1), .val (.int (3 : Int32)), .val (.int c2)] []))) (by rw [show ((2 : Int32) + (1 : Int32)) = (3 : Int32) by decide]) ?_
                        refine own_goto X333 hx hby 46 2 d4_46 (by decide) (by decide) ?_
                        refine own_iloadN X333 hx hby d4_2 rfl ?_
                        refine own_aloadN X333 hx hby d4_3 rfl rfl ?_
                        obtain ⟨cq338, kq338, q338a, q338b, q338c⟩ := isOf hZ e333 E1
                        obtain ⟨_, _, ⟨T338, L338, k338, n338⟩, -, X338, ⟨Lc338, hQ338, l338, y338, z338⟩, st338⟩ := X333.virtualBack hx (y := mN_10) (z := mN_10) hown (mvT hZ (own_w hw 26 rfl)) (mvT hZ (own_w hw 27 rfl)) (notFace_of_selects (args := #[]) (mvT hZ (own_w hw 29 rfl))) (mvT hZ (own_w hw 29 rfl)) (mvT hZ (own_w hw 28 rfl)) (by decide) (backOf (W := 1) (rmlen3 l Z a0 hw [] a1 c0 c1 c2 g1 h0 n0 Z0 T1 SC hg1) hZ (own_w hw 30 rfl) (own_w hw 2 rfl) (by decide) (by decide)) q338a q338c (g := (mkF m 4 #[.val (.ref a1), .val (.int (3 : Int32)), .val (.int c2)] [(.ref a1), (.int (3 : Int32))])) rfl (by rw [hml]; rfl) (Steps.refl _) (argsL := []) (rest := [(.int (3 : Int32))]) (lenOf pd_14 rfl) rfl (by show 2 * 0 + _ ≤ _; exact Nat.le_of_eq rfl) (hb hby d4_4) (fun _ _ => ⟨rfl, e333, (by decide : 0 + 0 ≤ _), (by decide : 0 + 0 ≤ _)⟩)
                        dsimp only [Pt.U, Pt.locs, Pt.cells, Pt.slots] at X338 l338 y338 z338 st338 hQ338
                        subst l338 y338 z338
                        obtain ⟨rfl, Nq338, e338⟩ := hQ338
                        have N338 := Fr.app N333 Nq338
                        refine own_of (U' := (T338.setTop (mkF m 7 #[.val (.ref a1), .val (.int (3 : Int32)), .val (.int c2)] [(.int (3 : Int32)), (.int (3 : Int32))]))) (fun _ k => st338.trans k) ?_
                        have hc7_339 : ¬ ((3 : Int32) < (3 : Int32)) := by decide
                        refine own_icmpYes X338 hx hby 7 49 d4_7 (flt hc7_339).2.1 (by decide) (by decide) ?_
                        refine own_iconst X338 hx hby 1 d4_49 rfl ?_
                        exact own_retN X338 hx hlk (t := .boolean) Bd.returns (by simp) (hb hby d4_50) (by decide) (by decide) (⟨congrArg (fun z => some (Value.int z)) (show nar .boolean (1 : Int32) = own_fv [c0, c1, c2] from by simp only [own_fv, own_fok, own_b0, own_b1, if_neg hc20_287, if_neg hc26_288, if_neg hc38_323, if_neg hc20_327, if_pos hc26_328, if_pos hc32_329, if_neg hc38_330, if_neg hc20_334, if_pos hc26_335, if_pos hc32_336, if_neg hc38_337, reduceIte, Bool.false_eq_true]), N338, e338⟩)
                    · skip
                      refine own_icmpYes X333 hx hby 32 41 d4_32 (feq hc32_336).2 (by decide) (by decide) ?_
                      refine own_iconst X333 hx hby 0 d4_41 rfl ?_
                      exact own_retN X333 hx hlk (t := .boolean) Bd.returns (by simp) (hb hby d4_42) (by decide) (by decide) (⟨congrArg (fun z => some (Value.int z)) (show nar .boolean (0 : Int32) = own_fv [c0, c1, c2] from by simp only [own_fv, own_fok, own_b0, own_b1, if_neg hc20_287, if_neg hc26_288, if_neg hc38_323, if_neg hc20_327, if_pos hc26_328, if_pos hc32_329, if_neg hc38_330, if_neg hc20_334, if_pos hc26_335, if_neg hc32_336, reduceIte, Bool.false_eq_true]), N333, e333⟩)
                  · skip
                    refine own_icmpYes X333 hx hby 26 35 d4_26 (flt hc26_335).2.1 (by decide) (by decide) ?_
                    refine own_iloadN X333 hx hby d4_35 rfl ?_
                    refine own_bipush X333 hx hby 127 d4_36 rfl ?_
                    by_cases hc38_340 : c2 = (127 : Int32)
                    · skip
                      refine own_icmpNo X333 hx hby d4_38 (teq hc38_340).2 ?_
                      refine own_iconst X333 hx hby 0 d4_41 rfl ?_
                      exact own_retN X333 hx hlk (t := .boolean) Bd.returns (by simp) (hb hby d4_42) (by decide) (by decide) (⟨congrArg (fun z => some (Value.int z)) (show nar .boolean (0 : Int32) = own_fv [c0, c1, c2] from by simp only [own_fv, own_fok, own_b0, own_b1, if_neg hc20_287, if_neg hc26_288, if_neg hc38_323, if_neg hc20_327, if_pos hc26_328, if_pos hc32_329, if_neg hc38_330, if_neg hc20_334, if_neg hc26_335, if_pos hc38_340, reduceIte, Bool.false_eq_true]), N333, e333⟩)
                    · skip
                      refine own_icmpYes X333 hx hby 38 43 d4_38 (feq hc38_340).2 (by decide) (by decide) ?_
                      refine own_iinc X333 hx hby d4_43 rfl (l' := #[.val (.ref a1), .val (.int ((2 : Int32) + (1 : Int32))), .val (.int c2)]) rfl ?_
                      refine own_eq (U' := (T333.setTop (mkF m 46 #[.val (.ref a1), .val (.int (3 : Int32)), .val (.int c2)] []))) (by rw [show ((2 : Int32) + (1 : Int32)) = (3 : Int32) by decide]) ?_
                      refine own_goto X333 hx hby 46 2 d4_46 (by decide) (by decide) ?_
                      refine own_iloadN X333 hx hby d4_2 rfl ?_
                      refine own_aloadN X333 hx hby d4_3 rfl rfl ?_
                      obtain ⟨cq341, kq341, q341a, q341b, q341c⟩ := isOf hZ e333 E1
                      obtain ⟨_, _, ⟨T341, L341, k341, n341⟩, -, X341, ⟨Lc341, hQ341, l341, y341, z341⟩, st341⟩ := X333.virtualBack hx (y := mN_10) (z := mN_10) hown (mvT hZ (own_w hw 26 rfl)) (mvT hZ (own_w hw 27 rfl)) (notFace_of_selects (args := #[]) (mvT hZ (own_w hw 29 rfl))) (mvT hZ (own_w hw 29 rfl)) (mvT hZ (own_w hw 28 rfl)) (by decide) (backOf (W := 1) (rmlen3 l Z a0 hw [] a1 c0 c1 c2 g1 h0 n0 Z0 T1 SC hg1) hZ (own_w hw 30 rfl) (own_w hw 2 rfl) (by decide) (by decide)) q341a q341c (g := (mkF m 4 #[.val (.ref a1), .val (.int (3 : Int32)), .val (.int c2)] [(.ref a1), (.int (3 : Int32))])) rfl (by rw [hml]; rfl) (Steps.refl _) (argsL := []) (rest := [(.int (3 : Int32))]) (lenOf pd_14 rfl) rfl (by show 2 * 0 + _ ≤ _; exact Nat.le_of_eq rfl) (hb hby d4_4) (fun _ _ => ⟨rfl, e333, (by decide : 0 + 0 ≤ _), (by decide : 0 + 0 ≤ _)⟩)
                      dsimp only [Pt.U, Pt.locs, Pt.cells, Pt.slots] at X341 l341 y341 z341 st341 hQ341
                      subst l341 y341 z341
                      obtain ⟨rfl, Nq341, e341⟩ := hQ341
                      have N341 := Fr.app N333 Nq341
                      refine own_of (U' := (T341.setTop (mkF m 7 #[.val (.ref a1), .val (.int (3 : Int32)), .val (.int c2)] [(.int (3 : Int32)), (.int (3 : Int32))]))) (fun _ k => st341.trans k) ?_
                      have hc7_342 : ¬ ((3 : Int32) < (3 : Int32)) := by decide
                      refine own_icmpYes X341 hx hby 7 49 d4_7 (flt hc7_342).2.1 (by decide) (by decide) ?_
                      refine own_iconst X341 hx hby 1 d4_49 rfl ?_
                      exact own_retN X341 hx hlk (t := .boolean) Bd.returns (by simp) (hb hby d4_50) (by decide) (by decide) (⟨congrArg (fun z => some (Value.int z)) (show nar .boolean (1 : Int32) = own_fv [c0, c1, c2] from by simp only [own_fv, own_fok, own_b0, own_b1, if_neg hc20_287, if_neg hc26_288, if_neg hc38_323, if_neg hc20_327, if_pos hc26_328, if_pos hc32_329, if_neg hc38_330, if_neg hc20_334, if_neg hc26_335, if_neg hc38_340, reduceIte, Bool.false_eq_true]), N341, e341⟩)
            · skip
              refine own_icmpYes X326 hx hby 32 41 d4_32 (feq hc32_329).2 (by decide) (by decide) ?_
              refine own_iconst X326 hx hby 0 d4_41 rfl ?_
              exact own_retN X326 hx hlk (t := .boolean) Bd.returns (by simp) (hb hby d4_42) (by decide) (by decide) (⟨congrArg (fun z => some (Value.int z)) (show nar .boolean (0 : Int32) = own_fv [c0, c1, c2] from by simp only [own_fv, own_fok, own_b0, own_b1, if_neg hc20_287, if_neg hc26_288, if_neg hc38_323, if_neg hc20_327, if_pos hc26_328, if_neg hc32_329, reduceIte, Bool.false_eq_true]), N326, e326⟩)
          · skip
            refine own_icmpYes X326 hx hby 26 35 d4_26 (flt hc26_328).2.1 (by decide) (by decide) ?_
            refine own_iloadN X326 hx hby d4_35 rfl ?_
            refine own_bipush X326 hx hby 127 d4_36 rfl ?_
            by_cases hc38_343 : c1 = (127 : Int32)
            · skip
              refine own_icmpNo X326 hx hby d4_38 (teq hc38_343).2 ?_
              refine own_iconst X326 hx hby 0 d4_41 rfl ?_
              exact own_retN X326 hx hlk (t := .boolean) Bd.returns (by simp) (hb hby d4_42) (by decide) (by decide) (⟨congrArg (fun z => some (Value.int z)) (show nar .boolean (0 : Int32) = own_fv [c0, c1, c2] from by simp only [own_fv, own_fok, own_b0, own_b1, if_neg hc20_287, if_neg hc26_288, if_neg hc38_323, if_neg hc20_327, if_neg hc26_328, if_pos hc38_343, reduceIte, Bool.false_eq_true]), N326, e326⟩)
            · skip
              refine own_icmpYes X326 hx hby 38 43 d4_38 (feq hc38_343).2 (by decide) (by decide) ?_
              refine own_iinc X326 hx hby d4_43 rfl (l' := #[.val (.ref a1), .val (.int ((1 : Int32) + (1 : Int32))), .val (.int c1)]) rfl ?_
              refine own_eq (U' := (T326.setTop (mkF m 46 #[.val (.ref a1), .val (.int (2 : Int32)), .val (.int c1)] []))) (by rw [show ((1 : Int32) + (1 : Int32)) = (2 : Int32) by decide]) ?_
              refine own_goto X326 hx hby 46 2 d4_46 (by decide) (by decide) ?_
              refine own_iloadN X326 hx hby d4_2 rfl ?_
              refine own_aloadN X326 hx hby d4_3 rfl rfl ?_
              obtain ⟨cq344, kq344, q344a, q344b, q344c⟩ := isOf hZ e326 E1
              obtain ⟨_, _, ⟨T344, L344, k344, n344⟩, -, X344, ⟨Lc344, hQ344, l344, y344, z344⟩, st344⟩ := X326.virtualBack hx (y := mN_10) (z := mN_10) hown (mvT hZ (own_w hw 26 rfl)) (mvT hZ (own_w hw 27 rfl)) (notFace_of_selects (args := #[]) (mvT hZ (own_w hw 29 rfl))) (mvT hZ (own_w hw 29 rfl)) (mvT hZ (own_w hw 28 rfl)) (by decide) (backOf (W := 1) (rmlen3 l Z a0 hw [] a1 c0 c1 c2 g1 h0 n0 Z0 T1 SC hg1) hZ (own_w hw 30 rfl) (own_w hw 2 rfl) (by decide) (by decide)) q344a q344c (g := (mkF m 4 #[.val (.ref a1), .val (.int (2 : Int32)), .val (.int c1)] [(.ref a1), (.int (2 : Int32))])) rfl (by rw [hml]; rfl) (Steps.refl _) (argsL := []) (rest := [(.int (2 : Int32))]) (lenOf pd_14 rfl) rfl (by show 2 * 0 + _ ≤ _; exact Nat.le_of_eq rfl) (hb hby d4_4) (fun _ _ => ⟨rfl, e326, (by decide : 0 + 0 ≤ _), (by decide : 0 + 0 ≤ _)⟩)
              dsimp only [Pt.U, Pt.locs, Pt.cells, Pt.slots] at X344 l344 y344 z344 st344 hQ344
              subst l344 y344 z344
              obtain ⟨rfl, Nq344, e344⟩ := hQ344
              have N344 := Fr.app N326 Nq344
              refine own_of (U' := (T344.setTop (mkF m 7 #[.val (.ref a1), .val (.int (2 : Int32)), .val (.int c1)] [(.int (3 : Int32)), (.int (2 : Int32))]))) (fun _ k => st344.trans k) ?_
              have hc7_345 : (2 : Int32) < (3 : Int32) := by decide
              refine own_icmpNo X344 hx hby d4_7 (tlt hc7_345).2.1 ?_
              refine own_aloadN X344 hx hby d4_10 rfl rfl ?_
              refine own_iloadN X344 hx hby d4_11 rfl ?_
              obtain ⟨cq346, kq346, q346a, q346b, q346c⟩ := isOf hZ e344 E1
              obtain ⟨_, _, ⟨T346, L346, k346, n346⟩, -, X346, ⟨Lc346, hQ346, l346, y346, z346⟩, st346⟩ := X344.virtualBack hx (y := mN_7) (z := mN_7) hown (mvT hZ (own_w hw 51 rfl)) (mvT hZ (own_w hw 52 rfl)) (notFace_of_selects (args := #[]) (mvT hZ (own_w hw 54 rfl))) (mvT hZ (own_w hw 54 rfl)) (mvT hZ (own_w hw 53 rfl)) (by decide) (backOf (W := 0) (rmch3_2 l Z a0 hw [] a1 c0 c1 c2 g1 rS h0 n0 Z0 T1 hb0 hb1 hb2 SC hg1 SA SHI SLO SF hrS) hZ (own_w hw 55 rfl) (own_w hw 2 rfl) (by decide) (by decide)) q346a q346c (g := (mkF m 12 #[.val (.ref a1), .val (.int (2 : Int32)), .val (.int c1)] [(.int (2 : Int32)), (.ref a1)])) rfl (by rw [hml]; rfl) (Steps.refl _) (argsL := [(.int (2 : Int32))]) (rest := []) (lenOf pd_15 rfl) rfl (by show 2 * 0 + _ ≤ _; exact Nat.le_of_eq rfl) (hb hby d4_12) (fun _ _ => ⟨rfl, e344, (by decide : 0 + 0 ≤ _), (by decide : 0 + 0 ≤ _)⟩)
              dsimp only [Pt.U, Pt.locs, Pt.cells, Pt.slots] at X346 l346 y346 z346 st346 hQ346
              subst l346 y346 z346
              obtain ⟨rfl, Nq346, e346⟩ := hQ346
              have N346 := Fr.app N344 Nq346
              refine own_of (U' := (T346.setTop (mkF m 15 #[.val (.ref a1), .val (.int (2 : Int32)), .val (.int c1)] [(.int c2)]))) (fun _ k => st346.trans k) ?_
              refine own_istoreN X346 hx hby d4_15 (l' := #[.val (.ref a1), .val (.int (2 : Int32)), .val (.int c2)]) rfl ?_
              refine own_iloadN X346 hx hby d4_16 rfl ?_
              refine own_sipush X346 hx hby 255 d4_17 rfl ?_
              by_cases hc20_347 : (255 : Int32) < c2
              · skip
                refine own_icmpYes X346 hx hby 20 41 d4_20 (tlt hc20_347).2.2.1 (by decide) (by decide) ?_
                refine own_iconst X346 hx hby 0 d4_41 rfl ?_
                exact own_retN X346 hx hlk (t := .boolean) Bd.returns (by simp) (hb hby d4_42) (by decide) (by decide) (⟨congrArg (fun z => some (Value.int z)) (show nar .boolean (0 : Int32) = own_fv [c0, c1, c2] from by simp only [own_fv, own_fok, own_b0, own_b1, if_neg hc20_287, if_neg hc26_288, if_neg hc38_323, if_neg hc20_327, if_neg hc26_328, if_neg hc38_343, if_pos hc20_347, reduceIte, Bool.false_eq_true]), N346, e346⟩)
              · skip
                refine own_icmpNo X346 hx hby d4_20 (flt hc20_347).2.2.1 ?_
                refine own_iloadN X346 hx hby d4_23 rfl ?_
                refine own_bipush X346 hx hby 32 d4_24 rfl ?_
                by_cases hc26_348 : c2 < (32 : Int32)
                · skip
                  refine own_icmpNo X346 hx hby d4_26 (tlt hc26_348).2.1 ?_
                  refine own_iloadN X346 hx hby d4_29 rfl ?_
                  refine own_bipush X346 hx hby 9 d4_30 rfl ?_
                  by_cases hc32_349 : c2 = (9 : Int32)
                  · skip
                    refine own_icmpNo X346 hx hby d4_32 (teq hc32_349).2 ?_
                    refine own_iloadN X346 hx hby d4_35 rfl ?_
                    refine own_bipush X346 hx hby 127 d4_36 rfl ?_
                    by_cases hc38_350 : c2 = (127 : Int32)
                    · skip
                      refine own_icmpNo X346 hx hby d4_38 (teq hc38_350).2 ?_
                      refine own_iconst X346 hx hby 0 d4_41 rfl ?_
                      exact own_retN X346 hx hlk (t := .boolean) Bd.returns (by simp) (hb hby d4_42) (by decide) (by decide) (⟨congrArg (fun z => some (Value.int z)) (show nar .boolean (0 : Int32) = own_fv [c0, c1, c2] from by simp only [own_fv, own_fok, own_b0, own_b1, if_neg hc20_287, if_neg hc26_288, if_neg hc38_323, if_neg hc20_327, if_neg hc26_328, if_neg hc38_343, if_neg hc20_347, if_pos hc26_348, if_pos hc32_349, if_pos hc38_350, reduceIte, Bool.false_eq_true]), N346, e346⟩)
                    · skip
                      refine own_icmpYes X346 hx hby 38 43 d4_38 (feq hc38_350).2 (by decide) (by decide) ?_
                      refine own_iinc X346 hx hby d4_43 rfl (l' := #[.val (.ref a1), .val (.int ((2 : Int32) + (1 : Int32))), .val (.int c2)]) rfl ?_
                      refine own_eq (U' := (T346.setTop (mkF m 46 #[.val (.ref a1), .val (.int (3 : Int32)), .val (.int c2)] []))) (by rw [show ((2 : Int32) + (1 : Int32)) = (3 : Int32) by decide]) ?_
                      refine own_goto X346 hx hby 46 2 d4_46 (by decide) (by decide) ?_
                      refine own_iloadN X346 hx hby d4_2 rfl ?_
                      refine own_aloadN X346 hx hby d4_3 rfl rfl ?_
                      obtain ⟨cq351, kq351, q351a, q351b, q351c⟩ := isOf hZ e346 E1
                      obtain ⟨_, _, ⟨T351, L351, k351, n351⟩, -, X351, ⟨Lc351, hQ351, l351, y351, z351⟩, st351⟩ := X346.virtualBack hx (y := mN_10) (z := mN_10) hown (mvT hZ (own_w hw 26 rfl)) (mvT hZ (own_w hw 27 rfl)) (notFace_of_selects (args := #[]) (mvT hZ (own_w hw 29 rfl))) (mvT hZ (own_w hw 29 rfl)) (mvT hZ (own_w hw 28 rfl)) (by decide) (backOf (W := 1) (rmlen3 l Z a0 hw [] a1 c0 c1 c2 g1 h0 n0 Z0 T1 SC hg1) hZ (own_w hw 30 rfl) (own_w hw 2 rfl) (by decide) (by decide)) q351a q351c (g := (mkF m 4 #[.val (.ref a1), .val (.int (3 : Int32)), .val (.int c2)] [(.ref a1), (.int (3 : Int32))])) rfl (by rw [hml]; rfl) (Steps.refl _) (argsL := []) (rest := [(.int (3 : Int32))]) (lenOf pd_14 rfl) rfl (by show 2 * 0 + _ ≤ _; exact Nat.le_of_eq rfl) (hb hby d4_4) (fun _ _ => ⟨rfl, e346, (by decide : 0 + 0 ≤ _), (by decide : 0 + 0 ≤ _)⟩)
                      dsimp only [Pt.U, Pt.locs, Pt.cells, Pt.slots] at X351 l351 y351 z351 st351 hQ351
                      subst l351 y351 z351
                      obtain ⟨rfl, Nq351, e351⟩ := hQ351
                      have N351 := Fr.app N346 Nq351
                      refine own_of (U' := (T351.setTop (mkF m 7 #[.val (.ref a1), .val (.int (3 : Int32)), .val (.int c2)] [(.int (3 : Int32)), (.int (3 : Int32))]))) (fun _ k => st351.trans k) ?_
                      have hc7_352 : ¬ ((3 : Int32) < (3 : Int32)) := by decide
                      refine own_icmpYes X351 hx hby 7 49 d4_7 (flt hc7_352).2.1 (by decide) (by decide) ?_
                      refine own_iconst X351 hx hby 1 d4_49 rfl ?_
                      exact own_retN X351 hx hlk (t := .boolean) Bd.returns (by simp) (hb hby d4_50) (by decide) (by decide) (⟨congrArg (fun z => some (Value.int z)) (show nar .boolean (1 : Int32) = own_fv [c0, c1, c2] from by simp only [own_fv, own_fok, own_b0, own_b1, if_neg hc20_287, if_neg hc26_288, if_neg hc38_323, if_neg hc20_327, if_neg hc26_328, if_neg hc38_343, if_neg hc20_347, if_pos hc26_348, if_pos hc32_349, if_neg hc38_350, reduceIte, Bool.false_eq_true]), N351, e351⟩)
                  · skip
                    refine own_icmpYes X346 hx hby 32 41 d4_32 (feq hc32_349).2 (by decide) (by decide) ?_
                    refine own_iconst X346 hx hby 0 d4_41 rfl ?_
                    exact own_retN X346 hx hlk (t := .boolean) Bd.returns (by simp) (hb hby d4_42) (by decide) (by decide) (⟨congrArg (fun z => some (Value.int z)) (show nar .boolean (0 : Int32) = own_fv [c0, c1, c2] from by simp only [own_fv, own_fok, own_b0, own_b1, if_neg hc20_287, if_neg hc26_288, if_neg hc38_323, if_neg hc20_327, if_neg hc26_328, if_neg hc38_343, if_neg hc20_347, if_pos hc26_348, if_neg hc32_349, reduceIte, Bool.false_eq_true]), N346, e346⟩)
                · skip
                  refine own_icmpYes X346 hx hby 26 35 d4_26 (flt hc26_348).2.1 (by decide) (by decide) ?_
                  refine own_iloadN X346 hx hby d4_35 rfl ?_
                  refine own_bipush X346 hx hby 127 d4_36 rfl ?_
                  by_cases hc38_353 : c2 = (127 : Int32)
                  · skip
                    refine own_icmpNo X346 hx hby d4_38 (teq hc38_353).2 ?_
                    refine own_iconst X346 hx hby 0 d4_41 rfl ?_
                    exact own_retN X346 hx hlk (t := .boolean) Bd.returns (by simp) (hb hby d4_42) (by decide) (by decide) (⟨congrArg (fun z => some (Value.int z)) (show nar .boolean (0 : Int32) = own_fv [c0, c1, c2] from by simp only [own_fv, own_fok, own_b0, own_b1, if_neg hc20_287, if_neg hc26_288, if_neg hc38_323, if_neg hc20_327, if_neg hc26_328, if_neg hc38_343, if_neg hc20_347, if_neg hc26_348, if_pos hc38_353, reduceIte, Bool.false_eq_true]), N346, e346⟩)
                  · skip
                    refine own_icmpYes X346 hx hby 38 43 d4_38 (feq hc38_353).2 (by decide) (by decide) ?_
                    refine own_iinc X346 hx hby d4_43 rfl (l' := #[.val (.ref a1), .val (.int ((2 : Int32) + (1 : Int32))), .val (.int c2)]) rfl ?_
                    refine own_eq (U' := (T346.setTop (mkF m 46 #[.val (.ref a1), .val (.int (3 : Int32)), .val (.int c2)] []))) (by rw [show ((2 : Int32) + (1 : Int32)) = (3 : Int32) by decide]) ?_
                    refine own_goto X346 hx hby 46 2 d4_46 (by decide) (by decide) ?_
                    refine own_iloadN X346 hx hby d4_2 rfl ?_
                    refine own_aloadN X346 hx hby d4_3 rfl rfl ?_
                    obtain ⟨cq354, kq354, q354a, q354b, q354c⟩ := isOf hZ e346 E1
                    obtain ⟨_, _, ⟨T354, L354, k354, n354⟩, -, X354, ⟨Lc354, hQ354, l354, y354, z354⟩, st354⟩ := X346.virtualBack hx (y := mN_10) (z := mN_10) hown (mvT hZ (own_w hw 26 rfl)) (mvT hZ (own_w hw 27 rfl)) (notFace_of_selects (args := #[]) (mvT hZ (own_w hw 29 rfl))) (mvT hZ (own_w hw 29 rfl)) (mvT hZ (own_w hw 28 rfl)) (by decide) (backOf (W := 1) (rmlen3 l Z a0 hw [] a1 c0 c1 c2 g1 h0 n0 Z0 T1 SC hg1) hZ (own_w hw 30 rfl) (own_w hw 2 rfl) (by decide) (by decide)) q354a q354c (g := (mkF m 4 #[.val (.ref a1), .val (.int (3 : Int32)), .val (.int c2)] [(.ref a1), (.int (3 : Int32))])) rfl (by rw [hml]; rfl) (Steps.refl _) (argsL := []) (rest := [(.int (3 : Int32))]) (lenOf pd_14 rfl) rfl (by show 2 * 0 + _ ≤ _; exact Nat.le_of_eq rfl) (hb hby d4_4) (fun _ _ => ⟨rfl, e346, (by decide : 0 + 0 ≤ _), (by decide : 0 + 0 ≤ _)⟩)
                    dsimp only [Pt.U, Pt.locs, Pt.cells, Pt.slots] at X354 l354 y354 z354 st354 hQ354
                    subst l354 y354 z354
                    obtain ⟨rfl, Nq354, e354⟩ := hQ354
                    have N354 := Fr.app N346 Nq354
                    refine own_of (U' := (T354.setTop (mkF m 7 #[.val (.ref a1), .val (.int (3 : Int32)), .val (.int c2)] [(.int (3 : Int32)), (.int (3 : Int32))]))) (fun _ k => st354.trans k) ?_
                    have hc7_355 : ¬ ((3 : Int32) < (3 : Int32)) := by decide
                    refine own_icmpYes X354 hx hby 7 49 d4_7 (flt hc7_355).2.1 (by decide) (by decide) ?_
                    refine own_iconst X354 hx hby 1 d4_49 rfl ?_
                    exact own_retN X354 hx hlk (t := .boolean) Bd.returns (by simp) (hb hby d4_50) (by decide) (by decide) (⟨congrArg (fun z => some (Value.int z)) (show nar .boolean (1 : Int32) = own_fv [c0, c1, c2] from by simp only [own_fv, own_fok, own_b0, own_b1, if_neg hc20_287, if_neg hc26_288, if_neg hc38_323, if_neg hc20_327, if_neg hc26_328, if_neg hc38_343, if_neg hc20_347, if_neg hc26_348, if_neg hc38_353, reduceIte, Bool.false_eq_true]), N354, e354⟩)
abbrev mN_21 : MethodName := ⟨"com/example/svyazka/svyazka/http/SyntaxIsFieldValuePinLaw", "ok", "(C)Z"⟩
theorem d10_0 : decode method_2_code 0 = .ok (.iload_n 0, 1) := by decide +kernel
theorem d10_1 : decode method_2_code 1 = .ok (.bipush 9, 2) := by decide +kernel
theorem d10_3 : decode method_2_code 3 = .ok (.if_icmp .ne 5, 3) := by decide +kernel
theorem d10_6 : decode method_2_code 6 = .ok (.iconst 1, 1) := by decide +kernel
theorem d10_7 : decode method_2_code 7 = .ok (.ireturn, 1) := by decide +kernel
theorem d10_8 : decode method_2_code 8 = .ok (.iload_n 0, 1) := by decide +kernel
theorem d10_9 : decode method_2_code 9 = .ok (.bipush 32, 2) := by decide +kernel
theorem d10_11 : decode method_2_code 11 = .ok (.if_icmp .lt 11, 3) := by decide +kernel
theorem d10_14 : decode method_2_code 14 = .ok (.iload_n 0, 1) := by decide +kernel
theorem d10_15 : decode method_2_code 15 = .ok (.bipush 126, 2) := by decide +kernel
theorem d10_17 : decode method_2_code 17 = .ok (.if_icmp .gt 5, 3) := by decide +kernel
theorem d10_20 : decode method_2_code 20 = .ok (.iconst 1, 1) := by decide +kernel
theorem d10_21 : decode method_2_code 21 = .ok (.ireturn, 1) := by decide +kernel
theorem d10_22 : decode method_2_code 22 = .ok (.iload_n 0, 1) := by decide +kernel
theorem d10_23 : decode method_2_code 23 = .ok (.sipush 128, 3) := by decide +kernel
theorem d10_26 : decode method_2_code 26 = .ok (.if_icmp .lt 12, 3) := by decide +kernel
theorem d10_29 : decode method_2_code 29 = .ok (.iload_n 0, 1) := by decide +kernel
theorem d10_30 : decode method_2_code 30 = .ok (.sipush 255, 3) := by decide +kernel
theorem d10_33 : decode method_2_code 33 = .ok (.if_icmp .gt 5, 3) := by decide +kernel
theorem d10_36 : decode method_2_code 36 = .ok (.iconst 1, 1) := by decide +kernel
theorem d10_37 : decode method_2_code 37 = .ok (.ireturn, 1) := by decide +kernel
theorem d10_38 : decode method_2_code 38 = .ok (.iconst 0, 1) := by decide +kernel
theorem d10_39 : decode method_2_code 39 = .ok (.ireturn, 1) := by decide +kernel
theorem pn_5 : plainName "com/example/svyazka/svyazka/http/SyntaxIsFieldValuePinLaw" = true := by first | (simp [plainName, overriddenIn]; done) | decide +kernel
theorem ef_ok (m : MethodId) (x0 : Int32) : entryFrame m #[(.int x0)] 1 = mkF m 0 #[.val (.int x0)] [] := by first | (simp [entryFrame, mkF, argsToLocals, Value.category]; done) | rfl
set_option maxRecDepth 65536 in
set_option maxHeartbeats 40000000 in
theorem rmok (l : Launch) (Z : State) (a0 : Array Value) (hw : ∀ d ∈ tables_1, d.before a0 Z = true) (ws : List Jvm.Cond) (p1 : Int32) (h0 : Heap) (n0 : Nat) (Z0 : n0 ≤ h0.size)  :
    MetFree l mN_21 (head1 (Jvm.Cond.code mN_21 method_2_code 1 (some .boolean) :: ws) ({ frames := 0, cells := 0, slots := 0, locals := 0 } : Room)) (fun a U => a = #[(.int p1)] ∧ Z.Warmed39 U.vm ∧ U.heap = h0) (fun _ _ _ _ _ => True) (fun _ U o U' => ∃ v L, o = .returned v ∧ (Qv (own_okl p1) h0 n0) v U'.heap L ∧ FrameEnd U o U' L ({ frames := 0, cells := 0, slots := 0, locals := 0 } : Room).cells ({ frames := 0, cells := 0, slots := 0, locals := 0 } : Room).slots) := by
  refine MetFree.of_bodySF (plainFor_of_name pn_5) hisR ?_
  intro p e s m args below meth c s₁ Bd hml0 hP hK
  obtain ⟨rfl, hZ, hh⟩ := hP
  have hx := Bd.exec
  have hby := Bd.bytes
  have hml : c.maxLocals = 1 := hml0
  have hown : s.vm.findClass "com/example/svyazka/svyazka/http/SyntaxIsFieldValuePinLaw" = some m.cls := findClass_of_methodNamed Bd.named
  have hnm := (name_of_methodNamed Bd.named Bd.method).1
  have hlk := Bd.notSynchronized
  have X0 : Stand p l e ({ frames := 0, cells := 0, slots := 0, locals := 0 } : Room) s m #[(.int p1)] below meth c s₁ [] 0 0 := Stand.of_body Bd
  have e0 : s₁.heap = h0 := by rw [← hh, Bd.state]; rfl
  have N0 := Fr.nil n0
  show own_Ends p e below s FrameEnd (Qv (own_okl p1) h0 n0) 0 0 (s₁.setTop (entryFrame m #[(.int p1)] 1))
  refine own_of (U' := (s₁.setTop (mkF m 0 #[.val (.int p1)] []))) (fun _ k => castTop (ef_ok m p1) k) ?_
  refine own_iloadN X0 hx hby d10_0 rfl ?_
  refine own_bipush X0 hx hby 9 d10_1 rfl ?_
  by_cases hc3_356 : p1 = (9 : Int32)
  · skip
    refine own_icmpNo X0 hx hby d10_3 (teq hc3_356).2 ?_
    refine own_iconst X0 hx hby 1 d10_6 rfl ?_
    exact own_retN X0 hx hlk (t := .boolean) Bd.returns (by simp) (hb hby d10_7) (by decide) (by decide) (⟨congrArg (fun z => some (Value.int z)) (show nar .boolean (1 : Int32) = own_okl p1 from by simp [own_okl, own_b0, own_b1, hc3_356]), N0, e0⟩)
  · skip
    refine own_icmpYes X0 hx hby 3 8 d10_3 (feq hc3_356).2 (by decide) (by decide) ?_
    refine own_iloadN X0 hx hby d10_8 rfl ?_
    refine own_bipush X0 hx hby 32 d10_9 rfl ?_
    by_cases hc11_357 : p1 < (32 : Int32)
    · skip
      refine own_icmpYes X0 hx hby 11 22 d10_11 (tlt hc11_357).1 (by decide) (by decide) ?_
      refine own_iloadN X0 hx hby d10_22 rfl ?_
      refine own_sipush X0 hx hby 128 d10_23 rfl ?_
      by_cases hc26_358 : p1 < (128 : Int32)
      · skip
        refine own_icmpYes X0 hx hby 26 38 d10_26 (tlt hc26_358).1 (by decide) (by decide) ?_
        refine own_iconst X0 hx hby 0 d10_38 rfl ?_
        exact own_retN X0 hx hlk (t := .boolean) Bd.returns (by simp) (hb hby d10_39) (by decide) (by decide) (⟨congrArg (fun z => some (Value.int z)) (show nar .boolean (0 : Int32) = own_okl p1 from by simp [own_okl, own_b0, own_b1, hc3_356, hc11_357, hc26_358]), N0, e0⟩)
      · skip
        refine own_icmpNo X0 hx hby d10_26 (flt hc26_358).1 ?_
        refine own_iloadN X0 hx hby d10_29 rfl ?_
        refine own_sipush X0 hx hby 255 d10_30 rfl ?_
        by_cases hc33_359 : (255 : Int32) < p1
        · skip
          refine own_icmpYes X0 hx hby 33 38 d10_33 (tlt hc33_359).2.2.1 (by decide) (by decide) ?_
          refine own_iconst X0 hx hby 0 d10_38 rfl ?_
          exact own_retN X0 hx hlk (t := .boolean) Bd.returns (by simp) (hb hby d10_39) (by decide) (by decide) (⟨congrArg (fun z => some (Value.int z)) (show nar .boolean (0 : Int32) = own_okl p1 from by simp [own_okl, own_b0, own_b1, hc3_356, hc11_357, hc26_358, hc33_359]), N0, e0⟩)
        · skip
          refine own_icmpNo X0 hx hby d10_33 (flt hc33_359).2.2.1 ?_
          refine own_iconst X0 hx hby 1 d10_36 rfl ?_
          exact own_retN X0 hx hlk (t := .boolean) Bd.returns (by simp) (hb hby d10_37) (by decide) (by decide) (⟨congrArg (fun z => some (Value.int z)) (show nar .boolean (1 : Int32) = own_okl p1 from by simp [own_okl, own_b0, own_b1, hc3_356, hc11_357, hc26_358, hc33_359]), N0, e0⟩)
    · skip
      refine own_icmpNo X0 hx hby d10_11 (flt hc11_357).1 ?_
      refine own_iloadN X0 hx hby d10_14 rfl ?_
      refine own_bipush X0 hx hby 126 d10_15 rfl ?_
      by_cases hc17_360 : (126 : Int32) < p1
      · skip
        refine own_icmpYes X0 hx hby 17 22 d10_17 (tlt hc17_360).2.2.1 (by decide) (by decide) ?_
        refine own_iloadN X0 hx hby d10_22 rfl ?_
        refine own_sipush X0 hx hby 128 d10_23 rfl ?_
        by_cases hc26_361 : p1 < (128 : Int32)
        · skip
          refine own_icmpYes X0 hx hby 26 38 d10_26 (tlt hc26_361).1 (by decide) (by decide) ?_
          refine own_iconst X0 hx hby 0 d10_38 rfl ?_
          exact own_retN X0 hx hlk (t := .boolean) Bd.returns (by simp) (hb hby d10_39) (by decide) (by decide) (⟨congrArg (fun z => some (Value.int z)) (show nar .boolean (0 : Int32) = own_okl p1 from by simp [own_okl, own_b0, own_b1, hc3_356, hc11_357, hc17_360, hc26_361]), N0, e0⟩)
        · skip
          refine own_icmpNo X0 hx hby d10_26 (flt hc26_361).1 ?_
          refine own_iloadN X0 hx hby d10_29 rfl ?_
          refine own_sipush X0 hx hby 255 d10_30 rfl ?_
          by_cases hc33_362 : (255 : Int32) < p1
          · skip
            refine own_icmpYes X0 hx hby 33 38 d10_33 (tlt hc33_362).2.2.1 (by decide) (by decide) ?_
            refine own_iconst X0 hx hby 0 d10_38 rfl ?_
            exact own_retN X0 hx hlk (t := .boolean) Bd.returns (by simp) (hb hby d10_39) (by decide) (by decide) (⟨congrArg (fun z => some (Value.int z)) (show nar .boolean (0 : Int32) = own_okl p1 from by simp [own_okl, own_b0, own_b1, hc3_356, hc11_357, hc17_360, hc26_361, hc33_362]), N0, e0⟩)
          · skip
            refine own_icmpNo X0 hx hby d10_33 (flt hc33_362).2.2.1 ?_
            refine own_iconst X0 hx hby 1 d10_36 rfl ?_
            exact own_retN X0 hx hlk (t := .boolean) Bd.returns (by simp) (hb hby d10_37) (by decide) (by decide) (⟨congrArg (fun z => some (Value.int z)) (show nar .boolean (1 : Int32) = own_okl p1 from by simp [own_okl, own_b0, own_b1, hc3_356, hc11_357, hc17_360, hc26_361, hc33_362]), N0, e0⟩)
      · skip
        refine own_icmpNo X0 hx hby d10_17 (flt hc17_360).2.2.1 ?_
        refine own_iconst X0 hx hby 1 d10_20 rfl ?_
        exact own_retN X0 hx hlk (t := .boolean) Bd.returns (by simp) (hb hby d10_21) (by decide) (by decide) (⟨congrArg (fun z => some (Value.int z)) (show nar .boolean (1 : Int32) = own_okl p1 from by simp [own_okl, own_b0, own_b1, hc3_356, hc11_357, hc17_360]), N0, e0⟩)
theorem pd_16 : parseMethodDescriptor "([C)V" = some ⟨[(.array .char)], none⟩ := by decide +kernel
theorem pd_17 : parseMethodDescriptor "(Ljava/lang/String;)Z" = some ⟨[(.object "java/lang/String")], some .boolean⟩ := by decide +kernel
theorem pd_18 : parseMethodDescriptor "(C)Z" = some ⟨[.char], some .boolean⟩ := by decide +kernel
theorem ef_0 (m : MethodId) (x0 : Int32) (x1 : Int32) (x2 : Int32) (x3 : Int32) : entryFrame m #[(.int x0), (.int x1), (.int x2), (.int x3)] maxLocals = mkF m 0 #[.val (.int x0), .val (.int x1), .val (.int x2), .val (.int x3), .unset, .unset, .unset, .unset, .unset, .unset] [] := by first | (simp [entryFrame, mkF, argsToLocals, Value.category, maxLocals]; done) | rfl
def Q0 (n0 : Nat) (v : Option Value) (h : Heap) (L : List Loc) : Prop := v = some (.int 1) ∧ Fr n0 L
set_option maxRecDepth 65536 in
set_option maxHeartbeats 40000000 in
theorem rm0 (l : Launch) (Z : State) (a0 : Array Value) (hw : ∀ d ∈ tables_1, d.before a0 Z = true) (ws : List Jvm.Cond) (p1 p2 p3 p4 g1 : Int32) (rS : Value) (h0 : Heap) (n0 : Nat) (Z0 : n0 ≤ h0.size) (hEL : EW Z a0 consts_1) (SC : Sta Z h0 "java/lang/String" "COMPACT_STRINGS" "Z" (.int g1)) (hg1 : ¬ (g1 = (0 : Int32))) (SA : Sta Z h0 "java/lang/StringUTF16" "$assertionsDisabled" "Z" (.int (1 : Int32))) (SHI : Sta Z h0 "java/lang/StringUTF16" "HI_BYTE_SHIFT" "I" (.int (0 : Int32))) (SLO : Sta Z h0 "java/lang/StringUTF16" "LO_BYTE_SHIFT" "I" (.int (8 : Int32))) (SF : Sta Z h0 "jdk/internal/util/Preconditions" "SIOOBE_FORMATTER" "Ljava/util/function/BiFunction;" rS) (hrS : rS.isRef = true) :
    MetFree l x (head1 (Jvm.Cond.code x code maxLocals ret :: ws) room_1) (fun a U => a = #[(.int p1), (.int p2), (.int p3), (.int p4)] ∧ Z.Warmed39 U.vm ∧ U.heap = h0 ∧ CHv Z consts_1 U.vm h0) (fun _ _ _ _ _ => True) (fun _ U o U' => ∃ v L, o = .returned v ∧ (Q0 n0) v U'.heap L ∧ ReturnedEndW U o U' L 24 1152) := by
  refine MetFree.of_bodySF (plainFor_of_name pn_5) hisR ?_
  intro p e s m args below meth c s₁ Bd hml0 hP hK
  obtain ⟨rfl, hZ, hh, HH⟩ := hP
  have hx := Bd.exec
  have hby := Bd.bytes
  have hml : c.maxLocals = 10 := hml0
  have hown : s.vm.findClass "com/example/svyazka/svyazka/http/SyntaxIsFieldValuePinLaw" = some m.cls := findClass_of_methodNamed Bd.named
  have hnm := (name_of_methodNamed Bd.named Bd.method).1
  have hlk := Bd.notSynchronized
  have X0 : Stand p l e room_1 (s.setVm s.vm) m #[(.int p1), (.int p2), (.int p3), (.int p4)] below meth c s₁ [] 0 0 := Stand.of_body Bd
  have hS := (State.WarmedH.refl s).since 0
  have hkS : 0 ≤ h0.size := Nat.zero_le _
  replace hZ : Z.Warmed39 (s.setVm s.vm).vm := hZ
  replace hown : (s.setVm s.vm).vm.findClass "com/example/svyazka/svyazka/http/SyntaxIsFieldValuePinLaw" = some m.cls := hown
  replace HH : CHv Z consts_1 s.vm h0 := HH
  have e0 : s₁.heap = h0 := by rw [← hh, Bd.state]; rfl
  have N0 := Fr.nil n0
  show own_Ends p e below s ReturnedEndW (Q0 n0) 24 1152 (s₁.setTop (entryFrame m #[(.int p1), (.int p2), (.int p3), (.int p4)] maxLocals))
  refine own_of (U' := (s₁.setTop (mkF m 0 #[.val (.int p1), .val (.int p2), .val (.int p3), .val (.int p4), .unset, .unset, .unset, .unset, .unset, .unset] []))) (fun _ k => castTop (ef_0 m p1 p2 p3 p4) k) ?_
  refine own_iloadN X0 hx hby at_0 rfl ?_
  refine own_iconst X0 hx hby 3 at_1 rfl ?_
  refine own_iand X0 hx hby at_2 ?_
  rcases own_and3 p1 with hv | hv | hv | hv
  · skip
    refine own_eq (U' := (s₁.setTop (mkF m 3 #[.val (.int p1), .val (.int p2), .val (.int p3), .val (.int p4), .unset, .unset, .unset, .unset, .unset, .unset] [(.int (0 : Int32))]))) (by rw [hv]) ?_
    refine own_istore X0 hx hby at_3 (l' := #[.val (.int p1), .val (.int p2), .val (.int p3), .val (.int p4), .val (.int (0 : Int32)), .unset, .unset, .unset, .unset, .unset]) rfl ?_
    refine own_iloadN X0 hx hby at_5 rfl ?_
    refine own_i2c X0 hx hby at_6 ?_
    obtain ⟨x1, hx1⟩ : ∃ z, z = (p2.toUInt32.toUInt16.toUInt32.toInt32) := ⟨_, rfl⟩
    refine own_eq (U' := (s₁.setTop (mkF m 7 #[.val (.int p1), .val (.int p2), .val (.int p3), .val (.int p4), .val (.int (0 : Int32)), .unset, .unset, .unset, .unset, .unset] [(.int x1)]))) (by rw [hx1]) ?_
    refine own_istore X0 hx hby at_7 (l' := #[.val (.int p1), .val (.int p2), .val (.int p3), .val (.int p4), .val (.int (0 : Int32)), .val (.int x1), .unset, .unset, .unset, .unset]) rfl ?_
    have hn_x1 : nar .char x1 = x1 := by rw [hx1]; exact own_nar_i2c p2
    have hd_x1 := own_char_bd x1
    rw [hn_x1] at hd_x1
    refine own_iloadN X0 hx hby at_9 rfl ?_
    refine own_i2c X0 hx hby at_10 ?_
    obtain ⟨x2, hx2⟩ : ∃ z, z = (p3.toUInt32.toUInt16.toUInt32.toInt32) := ⟨_, rfl⟩
    refine own_eq (U' := (s₁.setTop (mkF m 11 #[.val (.int p1), .val (.int p2), .val (.int p3), .val (.int p4), .val (.int (0 : Int32)), .val (.int x1), .unset, .unset, .unset, .unset] [(.int x2)]))) (by rw [hx2]) ?_
    refine own_istore X0 hx hby at_11 (l' := #[.val (.int p1), .val (.int p2), .val (.int p3), .val (.int p4), .val (.int (0 : Int32)), .val (.int x1), .val (.int x2), .unset, .unset, .unset]) rfl ?_
    have hn_x2 : nar .char x2 = x2 := by rw [hx2]; exact own_nar_i2c p3
    have hd_x2 := own_char_bd x2
    rw [hn_x2] at hd_x2
    refine own_iloadN X0 hx hby at_13 rfl ?_
    refine own_i2c X0 hx hby at_14 ?_
    obtain ⟨x3, hx3⟩ : ∃ z, z = (p4.toUInt32.toUInt16.toUInt32.toInt32) := ⟨_, rfl⟩
    refine own_eq (U' := (s₁.setTop (mkF m 15 #[.val (.int p1), .val (.int p2), .val (.int p3), .val (.int p4), .val (.int (0 : Int32)), .val (.int x1), .val (.int x2), .unset, .unset, .unset] [(.int x3)]))) (by rw [hx3]) ?_
    refine own_istore X0 hx hby at_15 (l' := #[.val (.int p1), .val (.int p2), .val (.int p3), .val (.int p4), .val (.int (0 : Int32)), .val (.int x1), .val (.int x2), .val (.int x3), .unset, .unset]) rfl ?_
    have hn_x3 : nar .char x3 = x3 := by rw [hx3]; exact own_nar_i2c p4
    have hd_x3 := own_char_bd x3
    rw [hn_x3] at hd_x3
    refine own_iload X0 hx hby at_17 rfl ?_
    have hc19_363 : (0 : Int32) = (0 : Int32) := by decide
    refine own_ifNo X0 hx hby at_19 ((if0 _ _).trans (teq hc19_363).2) ?_
    obtain ⟨T364, h364, X364, e364, E364, A364, D364, -, st364⟩ := newO X0 hx hZ hown (own_w hw 0 rfl) (own_w hw 1 rfl) (own_w hw 2 rfl) e0 (g := (mkF m 22 #[.val (.int p1), .val (.int p2), .val (.int p3), .val (.int p4), .val (.int (0 : Int32)), .val (.int x1), .val (.int x2), .val (.int x3), .unset, .unset] [])) rfl (hb hby at_22) (by decide) (by decide)
    obtain ⟨b364, gz364⟩ : ∃ z, z = h0.size := ⟨_, rfl⟩
    rw [← gz364] at A364 D364 st364
    have g_b364 : n0 ≤ b364 := Nat.le_trans Z0 (Nat.le_of_eq gz364.symm)
    replace Z0 := Nat.le_trans Z0 E364.1
    replace SC := SC.ext E364
    replace SA := SA.ext E364
    replace SHI := SHI.ext E364
    replace SLO := SLO.ext E364
    replace SF := SF.ext E364
    replace hkS := Nat.le_trans hkS E364.1
    replace HH := HH.ext E364
    have F364_value : Fld Z h364 b364 "java/lang/String" "value" "[B" .null := D364 (Or.inr (own_w hw 16 rfl)) (ty := (.array .byte)) (by decide)
    have F364_coder : Fld Z h364 b364 "java/lang/String" "coder" "B" (.int (0 : Int32)) := D364 (Or.inr (own_w hw 17 rfl)) (ty := .byte) (by decide)
    refine own_of (U' := (T364.setTop (mkF m 25 #[.val (.int p1), .val (.int p2), .val (.int p3), .val (.int p4), .val (.int (0 : Int32)), .val (.int x1), .val (.int x2), .val (.int x3), .unset, .unset] [(.ref b364)]))) (st364) ?_
    refine own_dup X364 hx hby at_25 rfl ?_
    refine own_iconst X364 hx hby 0 at_26 rfl ?_
    obtain ⟨T365, h365, k365, X365, e365, E365, A365, st365⟩ := newP X364 hx hZ (own_w hw 3 rfl) e364 (g := (mkF m 27 #[.val (.int p1), .val (.int p2), .val (.int p3), .val (.int p4), .val (.int (0 : Int32)), .val (.int x1), .val (.int x2), .val (.int x3), .unset, .unset] [(.int (0 : Int32)), (.ref b364), (.ref b364)])) rfl (hb hby at_27) rfl (by decide) (cap := 0) (by decide) (by decide) (by decide) (by decide)
    obtain ⟨b365, gz365⟩ : ∃ z, z = h364.size := ⟨_, rfl⟩
    rw [← gz365] at A365 st365
    have g_b365 : n0 ≤ b365 := Nat.le_trans Z0 (Nat.le_of_eq gz365.symm)
    have ne_b364_b365 : b364 ≠ b365 := Nat.ne_of_lt (Nat.lt_of_lt_of_le A364.lt (Nat.le_of_eq gz365.symm))
    replace Z0 := Nat.le_trans Z0 E365.1
    replace SC := SC.ext E365
    replace SA := SA.ext E365
    replace SHI := SHI.ext E365
    replace SLO := SLO.ext E365
    replace SF := SF.ext E365
    replace hkS := Nat.le_trans hkS E365.1
    replace HH := HH.ext E365
    replace A364 := A364.ext E365
    replace F364_value := F364_value.ext E365
    replace F364_coder := F364_coder.ext E365
    have V365 : Arv Z h365 b365 k365 .char (0 : Int32) [] (.int (0 : Int32)) := Arv.new A365 (by decide)
    refine own_of (U' := (T365.setTop (mkF m 29 #[.val (.int p1), .val (.int p2), .val (.int p3), .val (.int p4), .val (.int (0 : Int32)), .val (.int x1), .val (.int x2), .val (.int x3), .unset, .unset] [(.ref b365), (.ref b364), (.ref b364)]))) (st365) ?_
    obtain ⟨_, _, ⟨T366, L366, k366, n366⟩, -, X366, sn366, gr366, ⟨Lc366, hQ366, l366, y366, z366⟩, st366⟩ := X365.specialBackS hx (y := mN_19) rfl hown (mvT hZ (own_w hw 4 rfl)) (mvT hZ (own_w hw 5 rfl)) (mvT hZ (own_w hw 6 rfl)) (by decide) (own_backSC (W := 1) (rmsi0 l Z a0 hw [] b364 b365 k365 h365 n0 Z0 hEL A364 F364_coder F364_value V365 g_b364) hEL HH hZ (own_w hw 6 rfl) (own_w hw 2 rfl) (by decide) (by decide)) (g := (mkF m 29 #[.val (.int p1), .val (.int p2), .val (.int p3), .val (.int p4), .val (.int (0 : Int32)), .val (.int x1), .val (.int x2), .val (.int x3), .unset, .unset] [(.ref b365), (.ref b364), (.ref b364)])) rfl (by rw [hml]; rfl) (Steps.refl _) (a := b364) (argsL := [(.ref b365)]) (rest := [(.ref b364)]) (lenOf pd_16 rfl) rfl (by show 2 * 0 + _ ≤ _; exact Nat.le_of_eq rfl) (hb hby at_29) (fun _ _ => ⟨rfl, e365, (by decide : 2 + 2 ≤ _), (by decide : 4 + 4 ≤ _)⟩)
    dsimp only [Pt.U, Pt.locs, Pt.cells, Pt.slots] at X366 sn366 gr366 l366 y366 z366 st366 hQ366
    subst l366 y366 z366
    obtain ⟨X366, hS, hZ, hown⟩ := rebS hS (by rw [e365]; exact hkS) X366 sn366 gr366 hZ hown
    replace hkS : T366.heap.size ≤ T366.heap.size := Nat.le_refl _
    obtain ⟨rfl, Nq366, Kp366, Tq366⟩ := hQ366
    have N366 := Fr.app N0 Nq366
    have nst_b364 := A364.nostat
    replace Z0 := Nat.le_trans Z0 Kp366.1
    replace SC := own_staKeep SC Kp366 (nsS nst_b364 ns0)
    replace SA := own_staKeep SA Kp366 (nsS nst_b364 ns0)
    replace SHI := own_staKeep SHI Kp366 (nsS nst_b364 ns0)
    replace SLO := own_staKeep SLO Kp366 (nsS nst_b364 ns0)
    replace SF := own_staKeep SF Kp366 (nsS nst_b364 ns0)
    replace A364 := A364.keep Kp366
    replace V365 := V365.keep Kp366 (ninS (Ne.symm ne_b364_b365) nin0)
    refine own_of (U' := (T366.setTop (mkF m 32 #[.val (.int p1), .val (.int p2), .val (.int p3), .val (.int p4), .val (.int (0 : Int32)), .val (.int x1), .val (.int x2), .val (.int x3), .unset, .unset] [(.ref b364)]))) (fun _ k => st366.trans k) ?_
    refine own_astore X366 hx hby at_32 rfl (l' := #[.val (.int p1), .val (.int p2), .val (.int p3), .val (.int p4), .val (.int (0 : Int32)), .val (.int x1), .val (.int x2), .val (.int x3), .val (.ref b364), .unset]) rfl ?_
    refine own_iconst X366 hx hby 1 at_34 rfl ?_
    refine own_istore X366 hx hby at_35 (l' := #[.val (.int p1), .val (.int p2), .val (.int p3), .val (.int p4), .val (.int (0 : Int32)), .val (.int x1), .val (.int x2), .val (.int x3), .val (.ref b364), .val (.int (1 : Int32))]) rfl ?_
    refine own_goto X366 hx hby 37 185 at_37 (by decide) (by decide) ?_
    refine own_aload X366 hx hby at_185 rfl rfl ?_
    obtain ⟨_, _, ⟨T367, L367, k367, n367⟩, -, X367, ⟨Lc367, hQ367, l367, y367, z367⟩, st367⟩ := Jvm.LawKit.callS X366 hx (y := mN_20) hown (mvT hZ (own_w hw 22 rfl)) (mvT hZ (own_w hw 23 rfl)) (mvT hZ (own_w hw 24 rfl)) (mvT hZ (own_w hw 25 rfl)) (by decide) (backOf (W := 0) (rmfv0 l Z a0 hw [] b364  g1 rS T366.heap n0 Z0 Tq366  SC hg1 SA SHI SLO SF hrS) hZ (own_w hw 25 rfl) (own_w hw 24 rfl) (by decide) (by decide)) (g := (mkF m 187 #[.val (.int p1), .val (.int p2), .val (.int p3), .val (.int p4), .val (.int (0 : Int32)), .val (.int x1), .val (.int x2), .val (.int x3), .val (.ref b364), .val (.int (1 : Int32))] [(.ref b364)])) rfl (by rw [hml]; rfl) (argsL := [(.ref b364)]) (rest := []) (lenOf pd_17 rfl) rfl (by show 2 * 0 + _ ≤ _; exact Nat.le_of_eq rfl) (hb hby at_187) (fun _ _ => ⟨rfl, rfl, (by decide : 4 + 0 ≤ _), (by decide : 8 + 0 ≤ _)⟩)
    dsimp only [Pt.U, Pt.locs, Pt.cells, Pt.slots] at X367 l367 y367 z367 st367 hQ367
    subst l367 y367 z367
    obtain ⟨rfl, Nq367, e367⟩ := hQ367
    have N367 := Fr.app N366 Nq367
    refine own_of (U' := (T367.setTop (mkF m 190 #[.val (.int p1), .val (.int p2), .val (.int p3), .val (.int p4), .val (.int (0 : Int32)), .val (.int x1), .val (.int x2), .val (.int x3), .val (.ref b364), .val (.int (1 : Int32))] [(.int (own_fv []))]))) (st367) ?_
    refine own_iload X367 hx hby at_190 rfl ?_
    have hc192_368 : (own_fv []) = (1 : Int32) := rfl
    refine own_icmpNo X367 hx hby at_192 (teq hc192_368).2 ?_
    refine own_iconst X367 hx hby 1 at_195 rfl ?_
    refine own_goto X367 hx hby 196 200 at_196 (by decide) (by decide) ?_
    exact own_retNW X367 hx hlk hS (by rw [e367]; exact hkS) (t := .boolean) Bd.returns (by simp) (hb hby at_200) (by decide) (by decide) (⟨rfl, N367⟩)
  · skip
    refine own_eq (U' := (s₁.setTop (mkF m 3 #[.val (.int p1), .val (.int p2), .val (.int p3), .val (.int p4), .unset, .unset, .unset, .unset, .unset, .unset] [(.int (1 : Int32))]))) (by rw [hv]) ?_
    refine own_istore X0 hx hby at_3 (l' := #[.val (.int p1), .val (.int p2), .val (.int p3), .val (.int p4), .val (.int (1 : Int32)), .unset, .unset, .unset, .unset, .unset]) rfl ?_
    refine own_iloadN X0 hx hby at_5 rfl ?_
    refine own_i2c X0 hx hby at_6 ?_
    obtain ⟨x1, hx1⟩ : ∃ z, z = (p2.toUInt32.toUInt16.toUInt32.toInt32) := ⟨_, rfl⟩
    refine own_eq (U' := (s₁.setTop (mkF m 7 #[.val (.int p1), .val (.int p2), .val (.int p3), .val (.int p4), .val (.int (1 : Int32)), .unset, .unset, .unset, .unset, .unset] [(.int x1)]))) (by rw [hx1]) ?_
    refine own_istore X0 hx hby at_7 (l' := #[.val (.int p1), .val (.int p2), .val (.int p3), .val (.int p4), .val (.int (1 : Int32)), .val (.int x1), .unset, .unset, .unset, .unset]) rfl ?_
    have hn_x1 : nar .char x1 = x1 := by rw [hx1]; exact own_nar_i2c p2
    have hd_x1 := own_char_bd x1
    rw [hn_x1] at hd_x1
    refine own_iloadN X0 hx hby at_9 rfl ?_
    refine own_i2c X0 hx hby at_10 ?_
    obtain ⟨x2, hx2⟩ : ∃ z, z = (p3.toUInt32.toUInt16.toUInt32.toInt32) := ⟨_, rfl⟩
    refine own_eq (U' := (s₁.setTop (mkF m 11 #[.val (.int p1), .val (.int p2), .val (.int p3), .val (.int p4), .val (.int (1 : Int32)), .val (.int x1), .unset, .unset, .unset, .unset] [(.int x2)]))) (by rw [hx2]) ?_
    refine own_istore X0 hx hby at_11 (l' := #[.val (.int p1), .val (.int p2), .val (.int p3), .val (.int p4), .val (.int (1 : Int32)), .val (.int x1), .val (.int x2), .unset, .unset, .unset]) rfl ?_
    have hn_x2 : nar .char x2 = x2 := by rw [hx2]; exact own_nar_i2c p3
    have hd_x2 := own_char_bd x2
    rw [hn_x2] at hd_x2
    refine own_iloadN X0 hx hby at_13 rfl ?_
    refine own_i2c X0 hx hby at_14 ?_
    obtain ⟨x3, hx3⟩ : ∃ z, z = (p4.toUInt32.toUInt16.toUInt32.toInt32) := ⟨_, rfl⟩
    refine own_eq (U' := (s₁.setTop (mkF m 15 #[.val (.int p1), .val (.int p2), .val (.int p3), .val (.int p4), .val (.int (1 : Int32)), .val (.int x1), .val (.int x2), .unset, .unset, .unset] [(.int x3)]))) (by rw [hx3]) ?_
    refine own_istore X0 hx hby at_15 (l' := #[.val (.int p1), .val (.int p2), .val (.int p3), .val (.int p4), .val (.int (1 : Int32)), .val (.int x1), .val (.int x2), .val (.int x3), .unset, .unset]) rfl ?_
    have hn_x3 : nar .char x3 = x3 := by rw [hx3]; exact own_nar_i2c p4
    have hd_x3 := own_char_bd x3
    rw [hn_x3] at hd_x3
    refine own_iload X0 hx hby at_17 rfl ?_
    have hc19_369 : ¬ ((1 : Int32) = (0 : Int32)) := by decide
    refine own_ifYes X0 hx hby 19 40 at_19 ((if0 _ _).trans (feq hc19_369).2) (by decide) (by decide) ?_
    refine own_iload X0 hx hby at_40 rfl ?_
    refine own_iconst X0 hx hby 1 at_42 rfl ?_
    have hc43_370 : (1 : Int32) = (1 : Int32) := by decide
    refine own_icmpNo X0 hx hby at_43 (teq hc43_370).2 ?_
    obtain ⟨T371, h371, X371, e371, E371, A371, D371, -, st371⟩ := newO X0 hx hZ hown (own_w hw 0 rfl) (own_w hw 1 rfl) (own_w hw 2 rfl) e0 (g := (mkF m 46 #[.val (.int p1), .val (.int p2), .val (.int p3), .val (.int p4), .val (.int (1 : Int32)), .val (.int x1), .val (.int x2), .val (.int x3), .unset, .unset] [])) rfl (hb hby at_46) (by decide) (by decide)
    obtain ⟨b371, gz371⟩ : ∃ z, z = h0.size := ⟨_, rfl⟩
    rw [← gz371] at A371 D371 st371
    have g_b371 : n0 ≤ b371 := Nat.le_trans Z0 (Nat.le_of_eq gz371.symm)
    replace Z0 := Nat.le_trans Z0 E371.1
    replace SC := SC.ext E371
    replace SA := SA.ext E371
    replace SHI := SHI.ext E371
    replace SLO := SLO.ext E371
    replace SF := SF.ext E371
    replace hkS := Nat.le_trans hkS E371.1
    replace HH := HH.ext E371
    have F371_value : Fld Z h371 b371 "java/lang/String" "value" "[B" .null := D371 (Or.inr (own_w hw 16 rfl)) (ty := (.array .byte)) (by decide)
    have F371_coder : Fld Z h371 b371 "java/lang/String" "coder" "B" (.int (0 : Int32)) := D371 (Or.inr (own_w hw 17 rfl)) (ty := .byte) (by decide)
    refine own_of (U' := (T371.setTop (mkF m 49 #[.val (.int p1), .val (.int p2), .val (.int p3), .val (.int p4), .val (.int (1 : Int32)), .val (.int x1), .val (.int x2), .val (.int x3), .unset, .unset] [(.ref b371)]))) (st371) ?_
    refine own_dup X371 hx hby at_49 rfl ?_
    refine own_iconst X371 hx hby 1 at_50 rfl ?_
    obtain ⟨T372, h372, k372, X372, e372, E372, A372, st372⟩ := newP X371 hx hZ (own_w hw 3 rfl) e371 (g := (mkF m 51 #[.val (.int p1), .val (.int p2), .val (.int p3), .val (.int p4), .val (.int (1 : Int32)), .val (.int x1), .val (.int x2), .val (.int x3), .unset, .unset] [(.int (1 : Int32)), (.ref b371), (.ref b371)])) rfl (hb hby at_51) rfl (by decide) (cap := 1) (by decide) (by decide) (by decide) (by decide)
    obtain ⟨b372, gz372⟩ : ∃ z, z = h371.size := ⟨_, rfl⟩
    rw [← gz372] at A372 st372
    have g_b372 : n0 ≤ b372 := Nat.le_trans Z0 (Nat.le_of_eq gz372.symm)
    have ne_b371_b372 : b371 ≠ b372 := Nat.ne_of_lt (Nat.lt_of_lt_of_le A371.lt (Nat.le_of_eq gz372.symm))
    replace Z0 := Nat.le_trans Z0 E372.1
    replace SC := SC.ext E372
    replace SA := SA.ext E372
    replace SHI := SHI.ext E372
    replace SLO := SLO.ext E372
    replace SF := SF.ext E372
    replace hkS := Nat.le_trans hkS E372.1
    replace HH := HH.ext E372
    replace A371 := A371.ext E372
    replace F371_value := F371_value.ext E372
    replace F371_coder := F371_coder.ext E372
    have V372 : Arv Z h372 b372 k372 .char (1 : Int32) [(.int (0 : Int32))] (.int (0 : Int32)) := (Arv.new A372 (by decide)).pad (pad_rep [] (.int (0 : Int32)) 1)
    refine own_of (U' := (T372.setTop (mkF m 53 #[.val (.int p1), .val (.int p2), .val (.int p3), .val (.int p4), .val (.int (1 : Int32)), .val (.int x1), .val (.int x2), .val (.int x3), .unset, .unset] [(.ref b372), (.ref b371), (.ref b371)]))) (st372) ?_
    refine own_dup X372 hx hby at_53 rfl ?_
    refine own_iconst X372 hx hby 0 at_54 rfl ?_
    refine own_iload X372 hx hby at_55 rfl ?_
    obtain ⟨cl373, Ar373, qa373, Sa373, Na373, Ha373, Ga373⟩ := V372
    have hin373 : ¬ ((0 : Int32) < 0 ∨ cl373.slots.size ≤ ((0 : Int32)).toNatClampNeg) := inb_of Sa373 ⟨by decide, by decide⟩
    obtain ⟨T373, h373, X373, e373, W373, st373⟩ := stC X372 hx hZ e372 Ar373 (j := (0 : Int32)) hin373 (g := (mkF m 57 #[.val (.int p1), .val (.int p2), .val (.int p3), .val (.int p4), .val (.int (1 : Int32)), .val (.int x1), .val (.int x2), .val (.int x3), .unset, .unset] [(.int x1), (.int (0 : Int32)), (.ref b372), (.ref b372), (.ref b371), (.ref b371)])) rfl rfl (hb hby at_57)
    replace V372 : Arv Z h373 b372 k372 .char (1 : Int32) [(.int (nar .char x1))] (.int (0 : Int32)) := Arv.set Ar373 qa373 Sa373 Na373 Ha373 Ga373 (fits_nar_char _) W373 0 rfl (Nat.le_of_ble_eq_true rfl)
    replace Z0 := Nat.le_trans Z0 (Keep.of_wr W373).1
    replace SC := SC.wr W373
    replace SA := SA.wr W373
    replace SHI := SHI.wr W373
    replace SLO := SLO.wr W373
    replace SF := SF.wr W373
    replace hkS := Nat.le_trans hkS (Keep.of_wr W373).1
    replace A371 := A371.wr W373
    replace F371_value := F371_value.other W373 (Or.inl ne_b371_b372)
    replace F371_coder := F371_coder.other W373 (Or.inl ne_b371_b372)
    have N373 := Fr.snoc X373 N0 g_b372
    refine own_of (U' := (T373.setTop (mkF m 58 #[.val (.int p1), .val (.int p2), .val (.int p3), .val (.int p4), .val (.int (1 : Int32)), .val (.int x1), .val (.int x2), .val (.int x3), .unset, .unset] [(.ref b372), (.ref b371), (.ref b371)]))) (st373) ?_
    obtain ⟨_, _, ⟨T374, L374, k374, n374⟩, -, X374, ⟨Lc374, hQ374, l374, y374, z374⟩, st374⟩ := X373.specialBack hx (y := mN_19) rfl hown (mvT hZ (own_w hw 4 rfl)) (mvT hZ (own_w hw 5 rfl)) (mvT hZ (own_w hw 6 rfl)) (by decide) (backOf (W := 1) (rmsi1 l Z a0 hw [] b371 b372 k372 (nar .char x1) g1 h373 n0 Z0 A371 F371_coder F371_value V372 g_b371 (own_char_bd x1) SC hg1 SA SHI SLO) hZ (own_w hw 6 rfl) (own_w hw 2 rfl) (by decide) (by decide)) (g := (mkF m 58 #[.val (.int p1), .val (.int p2), .val (.int p3), .val (.int p4), .val (.int (1 : Int32)), .val (.int x1), .val (.int x2), .val (.int x3), .unset, .unset] [(.ref b372), (.ref b371), (.ref b371)])) rfl (by rw [hml]; rfl) (Steps.refl _) (a := b371) (argsL := [(.ref b372)]) (rest := [(.ref b371)]) (lenOf pd_16 rfl) rfl (by show 2 * 0 + _ ≤ _; exact Nat.le_of_eq rfl) (hb hby at_58) (fun _ _ => ⟨rfl, e373, (by decide : 2 + 2 ≤ _), (by decide : 5 + 3 ≤ _)⟩)
    dsimp only [Pt.U, Pt.locs, Pt.cells, Pt.slots] at X374 l374 y374 z374 st374 hQ374
    subst l374 y374 z374
    obtain ⟨rfl, Nq374, Kp374, Tq374⟩ := hQ374
    have N374 := Fr.app N373 Nq374
    have nst_b371 := A371.nostat
    replace Z0 := Nat.le_trans Z0 Kp374.1
    replace SC := own_staKeep SC Kp374 (nsS nst_b371 ns0)
    replace SA := own_staKeep SA Kp374 (nsS nst_b371 ns0)
    replace SHI := own_staKeep SHI Kp374 (nsS nst_b371 ns0)
    replace SLO := own_staKeep SLO Kp374 (nsS nst_b371 ns0)
    replace SF := own_staKeep SF Kp374 (nsS nst_b371 ns0)
    replace hkS := Nat.le_trans hkS Kp374.1
    replace A371 := A371.keep Kp374
    replace V372 := V372.keep Kp374 (ninS (Ne.symm ne_b371_b372) nin0)
    refine own_of (U' := (T374.setTop (mkF m 61 #[.val (.int p1), .val (.int p2), .val (.int p3), .val (.int p4), .val (.int (1 : Int32)), .val (.int x1), .val (.int x2), .val (.int x3), .unset, .unset] [(.ref b371)]))) (fun _ k => st374.trans k) ?_
    refine own_astore X374 hx hby at_61 rfl (l' := #[.val (.int p1), .val (.int p2), .val (.int p3), .val (.int p4), .val (.int (1 : Int32)), .val (.int x1), .val (.int x2), .val (.int x3), .val (.ref b371), .unset]) rfl ?_
    refine own_iload X374 hx hby at_63 rfl ?_
    obtain ⟨_, _, ⟨T375, L375, k375, n375⟩, -, X375, ⟨Lc375, hQ375, l375, y375, z375⟩, st375⟩ := Jvm.LawKit.callS X374 hx (y := mN_21) hown (mvT hZ (own_w hw 47 rfl)) (mvT hZ (own_w hw 48 rfl)) (mvT hZ (own_w hw 49 rfl)) (mvT hZ (own_w hw 50 rfl)) (by decide) (backOf (W := 0) (rmok l Z a0 hw [] x1 T374.heap n0 Z0 ) hZ (own_w hw 50 rfl) (own_w hw 49 rfl) (by decide) (by decide)) (g := (mkF m 65 #[.val (.int p1), .val (.int p2), .val (.int p3), .val (.int p4), .val (.int (1 : Int32)), .val (.int x1), .val (.int x2), .val (.int x3), .val (.ref b371), .unset] [(.int x1)])) rfl (by rw [hml]; rfl) (argsL := [(.int x1)]) (rest := []) (lenOf pd_18 rfl) rfl (by show 2 * 0 + _ ≤ _; exact Nat.le_of_eq rfl) (hb hby at_65) (fun _ _ => ⟨rfl, rfl, (by decide : 4 + 0 ≤ _), (by decide : 8 + 0 ≤ _)⟩)
    dsimp only [Pt.U, Pt.locs, Pt.cells, Pt.slots] at X375 l375 y375 z375 st375 hQ375
    subst l375 y375 z375
    obtain ⟨rfl, Nq375, e375⟩ := hQ375
    have N375 := Fr.app N374 Nq375
    refine own_of (U' := (T375.setTop (mkF m 68 #[.val (.int p1), .val (.int p2), .val (.int p3), .val (.int p4), .val (.int (1 : Int32)), .val (.int x1), .val (.int x2), .val (.int x3), .val (.ref b371), .unset] [(.int (own_okl x1))]))) (st375) ?_
    refine own_istore X375 hx hby at_68 (l' := #[.val (.int p1), .val (.int p2), .val (.int p3), .val (.int p4), .val (.int (1 : Int32)), .val (.int x1), .val (.int x2), .val (.int x3), .val (.ref b371), .val (.int (own_okl x1))]) rfl ?_
    refine own_goto X375 hx hby 70 185 at_70 (by decide) (by decide) ?_
    refine own_aload X375 hx hby at_185 rfl rfl ?_
    obtain ⟨_, _, ⟨T376, L376, k376, n376⟩, -, X376, ⟨Lc376, hQ376, l376, y376, z376⟩, st376⟩ := Jvm.LawKit.callS X375 hx (y := mN_20) hown (mvT hZ (own_w hw 22 rfl)) (mvT hZ (own_w hw 23 rfl)) (mvT hZ (own_w hw 24 rfl)) (mvT hZ (own_w hw 25 rfl)) (by decide) (backOf (W := 0) (rmfv1 l Z a0 hw [] b371 (nar .char x1) g1 rS T374.heap n0 Z0 Tq374 (own_char_bd x1) SC hg1 SA SHI SLO SF hrS) hZ (own_w hw 25 rfl) (own_w hw 24 rfl) (by decide) (by decide)) (g := (mkF m 187 #[.val (.int p1), .val (.int p2), .val (.int p3), .val (.int p4), .val (.int (1 : Int32)), .val (.int x1), .val (.int x2), .val (.int x3), .val (.ref b371), .val (.int (own_okl x1))] [(.ref b371)])) rfl (by rw [hml]; rfl) (argsL := [(.ref b371)]) (rest := []) (lenOf pd_17 rfl) rfl (by show 2 * 0 + _ ≤ _; exact Nat.le_of_eq rfl) (hb hby at_187) (fun _ _ => ⟨rfl, e375, (by decide : 4 + 0 ≤ _), (by decide : 8 + 0 ≤ _)⟩)
    dsimp only [Pt.U, Pt.locs, Pt.cells, Pt.slots] at X376 l376 y376 z376 st376 hQ376
    subst l376 y376 z376
    obtain ⟨rfl, Nq376, e376⟩ := hQ376
    have N376 := Fr.app N375 Nq376
    refine own_of (U' := (T376.setTop (mkF m 190 #[.val (.int p1), .val (.int p2), .val (.int p3), .val (.int p4), .val (.int (1 : Int32)), .val (.int x1), .val (.int x2), .val (.int x3), .val (.ref b371), .val (.int (own_okl x1))] [(.int (own_fv [(nar .char x1)]))]))) (st376) ?_
    refine own_iload X376 hx hby at_190 rfl ?_
    have hc192_377 : (own_fv [(nar .char x1)]) = (own_okl x1) := by rw [hn_x1, own_fv_cons hd_x1]; rcases own_okl01 x1 with q | q <;> rw [q] <;> rfl
    refine own_icmpNo X376 hx hby at_192 (teq hc192_377).2 ?_
    refine own_iconst X376 hx hby 1 at_195 rfl ?_
    refine own_goto X376 hx hby 196 200 at_196 (by decide) (by decide) ?_
    exact own_retNW X376 hx hlk hS (by rw [e376]; exact hkS) (t := .boolean) Bd.returns (by simp) (hb hby at_200) (by decide) (by decide) (⟨rfl, N376⟩)
  · skip
    refine own_eq (U' := (s₁.setTop (mkF m 3 #[.val (.int p1), .val (.int p2), .val (.int p3), .val (.int p4), .unset, .unset, .unset, .unset, .unset, .unset] [(.int (2 : Int32))]))) (by rw [hv]) ?_
    refine own_istore X0 hx hby at_3 (l' := #[.val (.int p1), .val (.int p2), .val (.int p3), .val (.int p4), .val (.int (2 : Int32)), .unset, .unset, .unset, .unset, .unset]) rfl ?_
    refine own_iloadN X0 hx hby at_5 rfl ?_
    refine own_i2c X0 hx hby at_6 ?_
    obtain ⟨x1, hx1⟩ : ∃ z, z = (p2.toUInt32.toUInt16.toUInt32.toInt32) := ⟨_, rfl⟩
    refine own_eq (U' := (s₁.setTop (mkF m 7 #[.val (.int p1), .val (.int p2), .val (.int p3), .val (.int p4), .val (.int (2 : Int32)), .unset, .unset, .unset, .unset, .unset] [(.int x1)]))) (by rw [hx1]) ?_
    refine own_istore X0 hx hby at_7 (l' := #[.val (.int p1), .val (.int p2), .val (.int p3), .val (.int p4), .val (.int (2 : Int32)), .val (.int x1), .unset, .unset, .unset, .unset]) rfl ?_
    have hn_x1 : nar .char x1 = x1 := by rw [hx1]; exact own_nar_i2c p2
    have hd_x1 := own_char_bd x1
    rw [hn_x1] at hd_x1
    refine own_iloadN X0 hx hby at_9 rfl ?_
    refine own_i2c X0 hx hby at_10 ?_
    obtain ⟨x2, hx2⟩ : ∃ z, z = (p3.toUInt32.toUInt16.toUInt32.toInt32) := ⟨_, rfl⟩
    refine own_eq (U' := (s₁.setTop (mkF m 11 #[.val (.int p1), .val (.int p2), .val (.int p3), .val (.int p4), .val (.int (2 : Int32)), .val (.int x1), .unset, .unset, .unset, .unset] [(.int x2)]))) (by rw [hx2]) ?_
    refine own_istore X0 hx hby at_11 (l' := #[.val (.int p1), .val (.int p2), .val (.int p3), .val (.int p4), .val (.int (2 : Int32)), .val (.int x1), .val (.int x2), .unset, .unset, .unset]) rfl ?_
    have hn_x2 : nar .char x2 = x2 := by rw [hx2]; exact own_nar_i2c p3
    have hd_x2 := own_char_bd x2
    rw [hn_x2] at hd_x2
    refine own_iloadN X0 hx hby at_13 rfl ?_
    refine own_i2c X0 hx hby at_14 ?_
    obtain ⟨x3, hx3⟩ : ∃ z, z = (p4.toUInt32.toUInt16.toUInt32.toInt32) := ⟨_, rfl⟩
    refine own_eq (U' := (s₁.setTop (mkF m 15 #[.val (.int p1), .val (.int p2), .val (.int p3), .val (.int p4), .val (.int (2 : Int32)), .val (.int x1), .val (.int x2), .unset, .unset, .unset] [(.int x3)]))) (by rw [hx3]) ?_
    refine own_istore X0 hx hby at_15 (l' := #[.val (.int p1), .val (.int p2), .val (.int p3), .val (.int p4), .val (.int (2 : Int32)), .val (.int x1), .val (.int x2), .val (.int x3), .unset, .unset]) rfl ?_
    have hn_x3 : nar .char x3 = x3 := by rw [hx3]; exact own_nar_i2c p4
    have hd_x3 := own_char_bd x3
    rw [hn_x3] at hd_x3
    refine own_iload X0 hx hby at_17 rfl ?_
    have hc19_378 : ¬ ((2 : Int32) = (0 : Int32)) := by decide
    refine own_ifYes X0 hx hby 19 40 at_19 ((if0 _ _).trans (feq hc19_378).2) (by decide) (by decide) ?_
    refine own_iload X0 hx hby at_40 rfl ?_
    refine own_iconst X0 hx hby 1 at_42 rfl ?_
    have hc43_379 : ¬ ((2 : Int32) = (1 : Int32)) := by decide
    refine own_icmpYes X0 hx hby 43 73 at_43 (feq hc43_379).2 (by decide) (by decide) ?_
    refine own_iload X0 hx hby at_73 rfl ?_
    refine own_iconst X0 hx hby 2 at_75 rfl ?_
    have hc76_380 : (2 : Int32) = (2 : Int32) := by decide
    refine own_icmpNo X0 hx hby at_76 (teq hc76_380).2 ?_
    obtain ⟨T381, h381, X381, e381, E381, A381, D381, -, st381⟩ := newO X0 hx hZ hown (own_w hw 0 rfl) (own_w hw 1 rfl) (own_w hw 2 rfl) e0 (g := (mkF m 79 #[.val (.int p1), .val (.int p2), .val (.int p3), .val (.int p4), .val (.int (2 : Int32)), .val (.int x1), .val (.int x2), .val (.int x3), .unset, .unset] [])) rfl (hb hby at_79) (by decide) (by decide)
    obtain ⟨b381, gz381⟩ : ∃ z, z = h0.size := ⟨_, rfl⟩
    rw [← gz381] at A381 D381 st381
    have g_b381 : n0 ≤ b381 := Nat.le_trans Z0 (Nat.le_of_eq gz381.symm)
    replace Z0 := Nat.le_trans Z0 E381.1
    replace SC := SC.ext E381
    replace SA := SA.ext E381
    replace SHI := SHI.ext E381
    replace SLO := SLO.ext E381
    replace SF := SF.ext E381
    replace hkS := Nat.le_trans hkS E381.1
    replace HH := HH.ext E381
    have F381_value : Fld Z h381 b381 "java/lang/String" "value" "[B" .null := D381 (Or.inr (own_w hw 16 rfl)) (ty := (.array .byte)) (by decide)
    have F381_coder : Fld Z h381 b381 "java/lang/String" "coder" "B" (.int (0 : Int32)) := D381 (Or.inr (own_w hw 17 rfl)) (ty := .byte) (by decide)
    refine own_of (U' := (T381.setTop (mkF m 82 #[.val (.int p1), .val (.int p2), .val (.int p3), .val (.int p4), .val (.int (2 : Int32)), .val (.int x1), .val (.int x2), .val (.int x3), .unset, .unset] [(.ref b381)]))) (st381) ?_
    refine own_dup X381 hx hby at_82 rfl ?_
    refine own_iconst X381 hx hby 2 at_83 rfl ?_
    obtain ⟨T382, h382, k382, X382, e382, E382, A382, st382⟩ := newP X381 hx hZ (own_w hw 3 rfl) e381 (g := (mkF m 84 #[.val (.int p1), .val (.int p2), .val (.int p3), .val (.int p4), .val (.int (2 : Int32)), .val (.int x1), .val (.int x2), .val (.int x3), .unset, .unset] [(.int (2 : Int32)), (.ref b381), (.ref b381)])) rfl (hb hby at_84) rfl (by decide) (cap := 2) (by decide) (by decide) (by decide) (by decide)
    obtain ⟨b382, gz382⟩ : ∃ z, z = h381.size := ⟨_, rfl⟩
    rw [← gz382] at A382 st382
    have g_b382 : n0 ≤ b382 := Nat.le_trans Z0 (Nat.le_of_eq gz382.symm)
    have ne_b381_b382 : b381 ≠ b382 := Nat.ne_of_lt (Nat.lt_of_lt_of_le A381.lt (Nat.le_of_eq gz382.symm))
    replace Z0 := Nat.le_trans Z0 E382.1
    replace SC := SC.ext E382
    replace SA := SA.ext E382
    replace SHI := SHI.ext E382
    replace SLO := SLO.ext E382
    replace SF := SF.ext E382
    replace hkS := Nat.le_trans hkS E382.1
    replace HH := HH.ext E382
    replace A381 := A381.ext E382
    replace F381_value := F381_value.ext E382
    replace F381_coder := F381_coder.ext E382
    have V382 : Arv Z h382 b382 k382 .char (2 : Int32) [(.int (0 : Int32)), (.int (0 : Int32))] (.int (0 : Int32)) := (Arv.new A382 (by decide)).pad (pad_rep [] (.int (0 : Int32)) 2)
    refine own_of (U' := (T382.setTop (mkF m 86 #[.val (.int p1), .val (.int p2), .val (.int p3), .val (.int p4), .val (.int (2 : Int32)), .val (.int x1), .val (.int x2), .val (.int x3), .unset, .unset] [(.ref b382), (.ref b381), (.ref b381)]))) (st382) ?_
    refine own_dup X382 hx hby at_86 rfl ?_
    refine own_iconst X382 hx hby 0 at_87 rfl ?_
    refine own_iload X382 hx hby at_88 rfl ?_
    obtain ⟨cl383, Ar383, qa383, Sa383, Na383, Ha383, Ga383⟩ := V382
    have hin383 : ¬ ((0 : Int32) < 0 ∨ cl383.slots.size ≤ ((0 : Int32)).toNatClampNeg) := inb_of Sa383 ⟨by decide, by decide⟩
    obtain ⟨T383, h383, X383, e383, W383, st383⟩ := stC X382 hx hZ e382 Ar383 (j := (0 : Int32)) hin383 (g := (mkF m 90 #[.val (.int p1), .val (.int p2), .val (.int p3), .val (.int p4), .val (.int (2 : Int32)), .val (.int x1), .val (.int x2), .val (.int x3), .unset, .unset] [(.int x1), (.int (0 : Int32)), (.ref b382), (.ref b382), (.ref b381), (.ref b381)])) rfl rfl (hb hby at_90)
    replace V382 : Arv Z h383 b382 k382 .char (2 : Int32) [(.int (nar .char x1)), (.int (0 : Int32))] (.int (0 : Int32)) := Arv.set Ar383 qa383 Sa383 Na383 Ha383 Ga383 (fits_nar_char _) W383 0 rfl (Nat.le_of_ble_eq_true rfl)
    replace Z0 := Nat.le_trans Z0 (Keep.of_wr W383).1
    replace SC := SC.wr W383
    replace SA := SA.wr W383
    replace SHI := SHI.wr W383
    replace SLO := SLO.wr W383
    replace SF := SF.wr W383
    replace hkS := Nat.le_trans hkS (Keep.of_wr W383).1
    replace A381 := A381.wr W383
    replace F381_value := F381_value.other W383 (Or.inl ne_b381_b382)
    replace F381_coder := F381_coder.other W383 (Or.inl ne_b381_b382)
    have N383 := Fr.snoc X383 N0 g_b382
    refine own_of (U' := (T383.setTop (mkF m 91 #[.val (.int p1), .val (.int p2), .val (.int p3), .val (.int p4), .val (.int (2 : Int32)), .val (.int x1), .val (.int x2), .val (.int x3), .unset, .unset] [(.ref b382), (.ref b381), (.ref b381)]))) (st383) ?_
    refine own_dup X383 hx hby at_91 rfl ?_
    refine own_iconst X383 hx hby 1 at_92 rfl ?_
    refine own_iload X383 hx hby at_93 rfl ?_
    obtain ⟨cl384, Ar384, qa384, Sa384, Na384, Ha384, Ga384⟩ := V382
    have hin384 : ¬ ((1 : Int32) < 0 ∨ cl384.slots.size ≤ ((1 : Int32)).toNatClampNeg) := inb_of Sa384 ⟨by decide, by decide⟩
    obtain ⟨T384, h384, X384, e384, W384, st384⟩ := stC X383 hx hZ e383 Ar384 (j := (1 : Int32)) hin384 (g := (mkF m 95 #[.val (.int p1), .val (.int p2), .val (.int p3), .val (.int p4), .val (.int (2 : Int32)), .val (.int x1), .val (.int x2), .val (.int x3), .unset, .unset] [(.int x2), (.int (1 : Int32)), (.ref b382), (.ref b382), (.ref b381), (.ref b381)])) rfl rfl (hb hby at_95)
    replace V382 : Arv Z h384 b382 k382 .char (2 : Int32) [(.int (nar .char x1)), (.int (nar .char x2))] (.int (0 : Int32)) := Arv.set Ar384 qa384 Sa384 Na384 Ha384 Ga384 (fits_nar_char _) W384 1 rfl (Nat.le_of_ble_eq_true rfl)
    replace Z0 := Nat.le_trans Z0 (Keep.of_wr W384).1
    replace SC := SC.wr W384
    replace SA := SA.wr W384
    replace SHI := SHI.wr W384
    replace SLO := SLO.wr W384
    replace SF := SF.wr W384
    replace hkS := Nat.le_trans hkS (Keep.of_wr W384).1
    replace A381 := A381.wr W384
    replace F381_value := F381_value.other W384 (Or.inl ne_b381_b382)
    replace F381_coder := F381_coder.other W384 (Or.inl ne_b381_b382)
    have N384 := Fr.snoc X384 N383 g_b382
    refine own_of (U' := (T384.setTop (mkF m 96 #[.val (.int p1), .val (.int p2), .val (.int p3), .val (.int p4), .val (.int (2 : Int32)), .val (.int x1), .val (.int x2), .val (.int x3), .unset, .unset] [(.ref b382), (.ref b381), (.ref b381)]))) (st384) ?_
    obtain ⟨_, _, ⟨T385, L385, k385, n385⟩, -, X385, ⟨Lc385, hQ385, l385, y385, z385⟩, st385⟩ := X384.specialBack hx (y := mN_19) rfl hown (mvT hZ (own_w hw 4 rfl)) (mvT hZ (own_w hw 5 rfl)) (mvT hZ (own_w hw 6 rfl)) (by decide) (backOf (W := 1) (rmsi2 l Z a0 hw [] b381 b382 k382 (nar .char x1) (nar .char x2) g1 h384 n0 Z0 A381 F381_coder F381_value V382 g_b381 (own_char_bd x1) (own_char_bd x2) SC hg1 SA SHI SLO) hZ (own_w hw 6 rfl) (own_w hw 2 rfl) (by decide) (by decide)) (g := (mkF m 96 #[.val (.int p1), .val (.int p2), .val (.int p3), .val (.int p4), .val (.int (2 : Int32)), .val (.int x1), .val (.int x2), .val (.int x3), .unset, .unset] [(.ref b382), (.ref b381), (.ref b381)])) rfl (by rw [hml]; rfl) (Steps.refl _) (a := b381) (argsL := [(.ref b382)]) (rest := [(.ref b381)]) (lenOf pd_16 rfl) rfl (by show 2 * 0 + _ ≤ _; exact Nat.le_of_eq rfl) (hb hby at_96) (fun _ _ => ⟨rfl, e384, (by decide : 2 + 2 ≤ _), (by decide : 6 + 6 ≤ _)⟩)
    dsimp only [Pt.U, Pt.locs, Pt.cells, Pt.slots] at X385 l385 y385 z385 st385 hQ385
    subst l385 y385 z385
    obtain ⟨rfl, Nq385, Kp385, Tq385⟩ := hQ385
    have N385 := Fr.app N384 Nq385
    have nst_b381 := A381.nostat
    replace Z0 := Nat.le_trans Z0 Kp385.1
    replace SC := own_staKeep SC Kp385 (nsS nst_b381 ns0)
    replace SA := own_staKeep SA Kp385 (nsS nst_b381 ns0)
    replace SHI := own_staKeep SHI Kp385 (nsS nst_b381 ns0)
    replace SLO := own_staKeep SLO Kp385 (nsS nst_b381 ns0)
    replace SF := own_staKeep SF Kp385 (nsS nst_b381 ns0)
    replace hkS := Nat.le_trans hkS Kp385.1
    replace A381 := A381.keep Kp385
    replace V382 := V382.keep Kp385 (ninS (Ne.symm ne_b381_b382) nin0)
    refine own_of (U' := (T385.setTop (mkF m 99 #[.val (.int p1), .val (.int p2), .val (.int p3), .val (.int p4), .val (.int (2 : Int32)), .val (.int x1), .val (.int x2), .val (.int x3), .unset, .unset] [(.ref b381)]))) (fun _ k => st385.trans k) ?_
    refine own_astore X385 hx hby at_99 rfl (l' := #[.val (.int p1), .val (.int p2), .val (.int p3), .val (.int p4), .val (.int (2 : Int32)), .val (.int x1), .val (.int x2), .val (.int x3), .val (.ref b381), .unset]) rfl ?_
    refine own_iload X385 hx hby at_101 rfl ?_
    obtain ⟨_, _, ⟨T386, L386, k386, n386⟩, -, X386, ⟨Lc386, hQ386, l386, y386, z386⟩, st386⟩ := Jvm.LawKit.callS X385 hx (y := mN_21) hown (mvT hZ (own_w hw 47 rfl)) (mvT hZ (own_w hw 48 rfl)) (mvT hZ (own_w hw 49 rfl)) (mvT hZ (own_w hw 50 rfl)) (by decide) (backOf (W := 0) (rmok l Z a0 hw [] x1 T385.heap n0 Z0 ) hZ (own_w hw 50 rfl) (own_w hw 49 rfl) (by decide) (by decide)) (g := (mkF m 103 #[.val (.int p1), .val (.int p2), .val (.int p3), .val (.int p4), .val (.int (2 : Int32)), .val (.int x1), .val (.int x2), .val (.int x3), .val (.ref b381), .unset] [(.int x1)])) rfl (by rw [hml]; rfl) (argsL := [(.int x1)]) (rest := []) (lenOf pd_18 rfl) rfl (by show 2 * 0 + _ ≤ _; exact Nat.le_of_eq rfl) (hb hby at_103) (fun _ _ => ⟨rfl, rfl, (by decide : 4 + 0 ≤ _), (by decide : 12 + 0 ≤ _)⟩)
    dsimp only [Pt.U, Pt.locs, Pt.cells, Pt.slots] at X386 l386 y386 z386 st386 hQ386
    subst l386 y386 z386
    obtain ⟨rfl, Nq386, e386⟩ := hQ386
    have N386 := Fr.app N385 Nq386
    refine own_of (U' := (T386.setTop (mkF m 106 #[.val (.int p1), .val (.int p2), .val (.int p3), .val (.int p4), .val (.int (2 : Int32)), .val (.int x1), .val (.int x2), .val (.int x3), .val (.ref b381), .unset] [(.int (own_okl x1))]))) (st386) ?_
    by_cases hc106_387 : (own_okl x1) = (0 : Int32)
    · skip
      refine own_ifYes X386 hx hby 106 121 at_106 ((if0 _ _).trans (teq hc106_387).1) (by decide) (by decide) ?_
      refine own_iconst X386 hx hby 0 at_121 rfl ?_
      refine own_istore X386 hx hby at_122 (l' := #[.val (.int p1), .val (.int p2), .val (.int p3), .val (.int p4), .val (.int (2 : Int32)), .val (.int x1), .val (.int x2), .val (.int x3), .val (.ref b381), .val (.int (0 : Int32))]) rfl ?_
      refine own_goto X386 hx hby 124 185 at_124 (by decide) (by decide) ?_
      refine own_aload X386 hx hby at_185 rfl rfl ?_
      obtain ⟨_, _, ⟨T388, L388, k388, n388⟩, -, X388, ⟨Lc388, hQ388, l388, y388, z388⟩, st388⟩ := Jvm.LawKit.callS X386 hx (y := mN_20) hown (mvT hZ (own_w hw 22 rfl)) (mvT hZ (own_w hw 23 rfl)) (mvT hZ (own_w hw 24 rfl)) (mvT hZ (own_w hw 25 rfl)) (by decide) (backOf (W := 0) (rmfv2 l Z a0 hw [] b381 (nar .char x1) (nar .char x2) g1 rS T385.heap n0 Z0 Tq385 (own_char_bd x1) (own_char_bd x2) SC hg1 SA SHI SLO SF hrS) hZ (own_w hw 25 rfl) (own_w hw 24 rfl) (by decide) (by decide)) (g := (mkF m 187 #[.val (.int p1), .val (.int p2), .val (.int p3), .val (.int p4), .val (.int (2 : Int32)), .val (.int x1), .val (.int x2), .val (.int x3), .val (.ref b381), .val (.int (0 : Int32))] [(.ref b381)])) rfl (by rw [hml]; rfl) (argsL := [(.ref b381)]) (rest := []) (lenOf pd_17 rfl) rfl (by show 2 * 0 + _ ≤ _; exact Nat.le_of_eq rfl) (hb hby at_187) (fun _ _ => ⟨rfl, e386, (by decide : 4 + 0 ≤ _), (by decide : 12 + 0 ≤ _)⟩)
      dsimp only [Pt.U, Pt.locs, Pt.cells, Pt.slots] at X388 l388 y388 z388 st388 hQ388
      subst l388 y388 z388
      obtain ⟨rfl, Nq388, e388⟩ := hQ388
      have N388 := Fr.app N386 Nq388
      refine own_of (U' := (T388.setTop (mkF m 190 #[.val (.int p1), .val (.int p2), .val (.int p3), .val (.int p4), .val (.int (2 : Int32)), .val (.int x1), .val (.int x2), .val (.int x3), .val (.ref b381), .val (.int (0 : Int32))] [(.int (own_fv [(nar .char x1), (nar .char x2)]))]))) (st388) ?_
      refine own_iload X388 hx hby at_190 rfl ?_
      have hc192_389 : (own_fv [(nar .char x1), (nar .char x2)]) = (0 : Int32) := by rw [hn_x1, hn_x2, own_fv_cons hd_x1, own_fv_cons hd_x2]; simp [own_fv0, hc106_387]
      refine own_icmpNo X388 hx hby at_192 (teq hc192_389).2 ?_
      refine own_iconst X388 hx hby 1 at_195 rfl ?_
      refine own_goto X388 hx hby 196 200 at_196 (by decide) (by decide) ?_
      exact own_retNW X388 hx hlk hS (by rw [e388]; exact hkS) (t := .boolean) Bd.returns (by simp) (hb hby at_200) (by decide) (by decide) (⟨rfl, N388⟩)
    · skip
      refine own_ifNo X386 hx hby at_106 ((if0 _ _).trans (feq hc106_387).1) ?_
      refine own_iload X386 hx hby at_109 rfl ?_
      obtain ⟨_, _, ⟨T390, L390, k390, n390⟩, -, X390, ⟨Lc390, hQ390, l390, y390, z390⟩, st390⟩ := Jvm.LawKit.callS X386 hx (y := mN_21) hown (mvT hZ (own_w hw 47 rfl)) (mvT hZ (own_w hw 48 rfl)) (mvT hZ (own_w hw 49 rfl)) (mvT hZ (own_w hw 50 rfl)) (by decide) (backOf (W := 0) (rmok l Z a0 hw [] x2 T385.heap n0 Z0 ) hZ (own_w hw 50 rfl) (own_w hw 49 rfl) (by decide) (by decide)) (g := (mkF m 111 #[.val (.int p1), .val (.int p2), .val (.int p3), .val (.int p4), .val (.int (2 : Int32)), .val (.int x1), .val (.int x2), .val (.int x3), .val (.ref b381), .unset] [(.int x2)])) rfl (by rw [hml]; rfl) (argsL := [(.int x2)]) (rest := []) (lenOf pd_18 rfl) rfl (by show 2 * 0 + _ ≤ _; exact Nat.le_of_eq rfl) (hb hby at_111) (fun _ _ => ⟨rfl, e386, (by decide : 4 + 0 ≤ _), (by decide : 12 + 0 ≤ _)⟩)
      dsimp only [Pt.U, Pt.locs, Pt.cells, Pt.slots] at X390 l390 y390 z390 st390 hQ390
      subst l390 y390 z390
      obtain ⟨rfl, Nq390, e390⟩ := hQ390
      have N390 := Fr.app N386 Nq390
      refine own_of (U' := (T390.setTop (mkF m 114 #[.val (.int p1), .val (.int p2), .val (.int p3), .val (.int p4), .val (.int (2 : Int32)), .val (.int x1), .val (.int x2), .val (.int x3), .val (.ref b381), .unset] [(.int (own_okl x2))]))) (st390) ?_
      by_cases hc114_391 : (own_okl x2) = (0 : Int32)
      · skip
        refine own_ifYes X390 hx hby 114 121 at_114 ((if0 _ _).trans (teq hc114_391).1) (by decide) (by decide) ?_
        refine own_iconst X390 hx hby 0 at_121 rfl ?_
        refine own_istore X390 hx hby at_122 (l' := #[.val (.int p1), .val (.int p2), .val (.int p3), .val (.int p4), .val (.int (2 : Int32)), .val (.int x1), .val (.int x2), .val (.int x3), .val (.ref b381), .val (.int (0 : Int32))]) rfl ?_
        refine own_goto X390 hx hby 124 185 at_124 (by decide) (by decide) ?_
        refine own_aload X390 hx hby at_185 rfl rfl ?_
        obtain ⟨_, _, ⟨T392, L392, k392, n392⟩, -, X392, ⟨Lc392, hQ392, l392, y392, z392⟩, st392⟩ := Jvm.LawKit.callS X390 hx (y := mN_20) hown (mvT hZ (own_w hw 22 rfl)) (mvT hZ (own_w hw 23 rfl)) (mvT hZ (own_w hw 24 rfl)) (mvT hZ (own_w hw 25 rfl)) (by decide) (backOf (W := 0) (rmfv2 l Z a0 hw [] b381 (nar .char x1) (nar .char x2) g1 rS T385.heap n0 Z0 Tq385 (own_char_bd x1) (own_char_bd x2) SC hg1 SA SHI SLO SF hrS) hZ (own_w hw 25 rfl) (own_w hw 24 rfl) (by decide) (by decide)) (g := (mkF m 187 #[.val (.int p1), .val (.int p2), .val (.int p3), .val (.int p4), .val (.int (2 : Int32)), .val (.int x1), .val (.int x2), .val (.int x3), .val (.ref b381), .val (.int (0 : Int32))] [(.ref b381)])) rfl (by rw [hml]; rfl) (argsL := [(.ref b381)]) (rest := []) (lenOf pd_17 rfl) rfl (by show 2 * 0 + _ ≤ _; exact Nat.le_of_eq rfl) (hb hby at_187) (fun _ _ => ⟨rfl, e390, (by decide : 4 + 0 ≤ _), (by decide : 12 + 0 ≤ _)⟩)
        dsimp only [Pt.U, Pt.locs, Pt.cells, Pt.slots] at X392 l392 y392 z392 st392 hQ392
        subst l392 y392 z392
        obtain ⟨rfl, Nq392, e392⟩ := hQ392
        have N392 := Fr.app N390 Nq392
        refine own_of (U' := (T392.setTop (mkF m 190 #[.val (.int p1), .val (.int p2), .val (.int p3), .val (.int p4), .val (.int (2 : Int32)), .val (.int x1), .val (.int x2), .val (.int x3), .val (.ref b381), .val (.int (0 : Int32))] [(.int (own_fv [(nar .char x1), (nar .char x2)]))]))) (st392) ?_
        refine own_iload X392 hx hby at_190 rfl ?_
        have hc192_393 : (own_fv [(nar .char x1), (nar .char x2)]) = (0 : Int32) := by rw [hn_x1, hn_x2, own_fv_cons hd_x1, own_fv_cons hd_x2]; simp [own_fv0, hc106_387, hc114_391]
        refine own_icmpNo X392 hx hby at_192 (teq hc192_393).2 ?_
        refine own_iconst X392 hx hby 1 at_195 rfl ?_
        refine own_goto X392 hx hby 196 200 at_196 (by decide) (by decide) ?_
        exact own_retNW X392 hx hlk hS (by rw [e392]; exact hkS) (t := .boolean) Bd.returns (by simp) (hb hby at_200) (by decide) (by decide) (⟨rfl, N392⟩)
      · skip
        refine own_ifNo X390 hx hby at_114 ((if0 _ _).trans (feq hc114_391).1) ?_
        refine own_iconst X390 hx hby 1 at_117 rfl ?_
        refine own_goto X390 hx hby 118 122 at_118 (by decide) (by decide) ?_
        refine own_istore X390 hx hby at_122 (l' := #[.val (.int p1), .val (.int p2), .val (.int p3), .val (.int p4), .val (.int (2 : Int32)), .val (.int x1), .val (.int x2), .val (.int x3), .val (.ref b381), .val (.int (1 : Int32))]) rfl ?_
        refine own_goto X390 hx hby 124 185 at_124 (by decide) (by decide) ?_
        refine own_aload X390 hx hby at_185 rfl rfl ?_
        obtain ⟨_, _, ⟨T394, L394, k394, n394⟩, -, X394, ⟨Lc394, hQ394, l394, y394, z394⟩, st394⟩ := Jvm.LawKit.callS X390 hx (y := mN_20) hown (mvT hZ (own_w hw 22 rfl)) (mvT hZ (own_w hw 23 rfl)) (mvT hZ (own_w hw 24 rfl)) (mvT hZ (own_w hw 25 rfl)) (by decide) (backOf (W := 0) (rmfv2 l Z a0 hw [] b381 (nar .char x1) (nar .char x2) g1 rS T385.heap n0 Z0 Tq385 (own_char_bd x1) (own_char_bd x2) SC hg1 SA SHI SLO SF hrS) hZ (own_w hw 25 rfl) (own_w hw 24 rfl) (by decide) (by decide)) (g := (mkF m 187 #[.val (.int p1), .val (.int p2), .val (.int p3), .val (.int p4), .val (.int (2 : Int32)), .val (.int x1), .val (.int x2), .val (.int x3), .val (.ref b381), .val (.int (1 : Int32))] [(.ref b381)])) rfl (by rw [hml]; rfl) (argsL := [(.ref b381)]) (rest := []) (lenOf pd_17 rfl) rfl (by show 2 * 0 + _ ≤ _; exact Nat.le_of_eq rfl) (hb hby at_187) (fun _ _ => ⟨rfl, e390, (by decide : 4 + 0 ≤ _), (by decide : 12 + 0 ≤ _)⟩)
        dsimp only [Pt.U, Pt.locs, Pt.cells, Pt.slots] at X394 l394 y394 z394 st394 hQ394
        subst l394 y394 z394
        obtain ⟨rfl, Nq394, e394⟩ := hQ394
        have N394 := Fr.app N390 Nq394
        refine own_of (U' := (T394.setTop (mkF m 190 #[.val (.int p1), .val (.int p2), .val (.int p3), .val (.int p4), .val (.int (2 : Int32)), .val (.int x1), .val (.int x2), .val (.int x3), .val (.ref b381), .val (.int (1 : Int32))] [(.int (own_fv [(nar .char x1), (nar .char x2)]))]))) (st394) ?_
        refine own_iload X394 hx hby at_190 rfl ?_
        have hc192_395 : (own_fv [(nar .char x1), (nar .char x2)]) = (1 : Int32) := by rw [hn_x1, hn_x2, own_fv_cons hd_x1, own_fv_cons hd_x2]; simp [own_fv0, hc106_387, hc114_391]
        refine own_icmpNo X394 hx hby at_192 (teq hc192_395).2 ?_
        refine own_iconst X394 hx hby 1 at_195 rfl ?_
        refine own_goto X394 hx hby 196 200 at_196 (by decide) (by decide) ?_
        exact own_retNW X394 hx hlk hS (by rw [e394]; exact hkS) (t := .boolean) Bd.returns (by simp) (hb hby at_200) (by decide) (by decide) (⟨rfl, N394⟩)
  · skip
    refine own_eq (U' := (s₁.setTop (mkF m 3 #[.val (.int p1), .val (.int p2), .val (.int p3), .val (.int p4), .unset, .unset, .unset, .unset, .unset, .unset] [(.int (3 : Int32))]))) (by rw [hv]) ?_
    refine own_istore X0 hx hby at_3 (l' := #[.val (.int p1), .val (.int p2), .val (.int p3), .val (.int p4), .val (.int (3 : Int32)), .unset, .unset, .unset, .unset, .unset]) rfl ?_
    refine own_iloadN X0 hx hby at_5 rfl ?_
    refine own_i2c X0 hx hby at_6 ?_
    obtain ⟨x1, hx1⟩ : ∃ z, z = (p2.toUInt32.toUInt16.toUInt32.toInt32) := ⟨_, rfl⟩
    refine own_eq (U' := (s₁.setTop (mkF m 7 #[.val (.int p1), .val (.int p2), .val (.int p3), .val (.int p4), .val (.int (3 : Int32)), .unset, .unset, .unset, .unset, .unset] [(.int x1)]))) (by rw [hx1]) ?_
    refine own_istore X0 hx hby at_7 (l' := #[.val (.int p1), .val (.int p2), .val (.int p3), .val (.int p4), .val (.int (3 : Int32)), .val (.int x1), .unset, .unset, .unset, .unset]) rfl ?_
    have hn_x1 : nar .char x1 = x1 := by rw [hx1]; exact own_nar_i2c p2
    have hd_x1 := own_char_bd x1
    rw [hn_x1] at hd_x1
    refine own_iloadN X0 hx hby at_9 rfl ?_
    refine own_i2c X0 hx hby at_10 ?_
    obtain ⟨x2, hx2⟩ : ∃ z, z = (p3.toUInt32.toUInt16.toUInt32.toInt32) := ⟨_, rfl⟩
    refine own_eq (U' := (s₁.setTop (mkF m 11 #[.val (.int p1), .val (.int p2), .val (.int p3), .val (.int p4), .val (.int (3 : Int32)), .val (.int x1), .unset, .unset, .unset, .unset] [(.int x2)]))) (by rw [hx2]) ?_
    refine own_istore X0 hx hby at_11 (l' := #[.val (.int p1), .val (.int p2), .val (.int p3), .val (.int p4), .val (.int (3 : Int32)), .val (.int x1), .val (.int x2), .unset, .unset, .unset]) rfl ?_
    have hn_x2 : nar .char x2 = x2 := by rw [hx2]; exact own_nar_i2c p3
    have hd_x2 := own_char_bd x2
    rw [hn_x2] at hd_x2
    refine own_iloadN X0 hx hby at_13 rfl ?_
    refine own_i2c X0 hx hby at_14 ?_
    obtain ⟨x3, hx3⟩ : ∃ z, z = (p4.toUInt32.toUInt16.toUInt32.toInt32) := ⟨_, rfl⟩
    refine own_eq (U' := (s₁.setTop (mkF m 15 #[.val (.int p1), .val (.int p2), .val (.int p3), .val (.int p4), .val (.int (3 : Int32)), .val (.int x1), .val (.int x2), .unset, .unset, .unset] [(.int x3)]))) (by rw [hx3]) ?_
    refine own_istore X0 hx hby at_15 (l' := #[.val (.int p1), .val (.int p2), .val (.int p3), .val (.int p4), .val (.int (3 : Int32)), .val (.int x1), .val (.int x2), .val (.int x3), .unset, .unset]) rfl ?_
    have hn_x3 : nar .char x3 = x3 := by rw [hx3]; exact own_nar_i2c p4
    have hd_x3 := own_char_bd x3
    rw [hn_x3] at hd_x3
    refine own_iload X0 hx hby at_17 rfl ?_
    have hc19_396 : ¬ ((3 : Int32) = (0 : Int32)) := by decide
    refine own_ifYes X0 hx hby 19 40 at_19 ((if0 _ _).trans (feq hc19_396).2) (by decide) (by decide) ?_
    refine own_iload X0 hx hby at_40 rfl ?_
    refine own_iconst X0 hx hby 1 at_42 rfl ?_
    have hc43_397 : ¬ ((3 : Int32) = (1 : Int32)) := by decide
    refine own_icmpYes X0 hx hby 43 73 at_43 (feq hc43_397).2 (by decide) (by decide) ?_
    refine own_iload X0 hx hby at_73 rfl ?_
    refine own_iconst X0 hx hby 2 at_75 rfl ?_
    have hc76_398 : ¬ ((3 : Int32) = (2 : Int32)) := by decide
    refine own_icmpYes X0 hx hby 76 127 at_76 (feq hc76_398).2 (by decide) (by decide) ?_
    obtain ⟨T399, h399, X399, e399, E399, A399, D399, -, st399⟩ := newO X0 hx hZ hown (own_w hw 0 rfl) (own_w hw 1 rfl) (own_w hw 2 rfl) e0 (g := (mkF m 127 #[.val (.int p1), .val (.int p2), .val (.int p3), .val (.int p4), .val (.int (3 : Int32)), .val (.int x1), .val (.int x2), .val (.int x3), .unset, .unset] [])) rfl (hb hby at_127) (by decide) (by decide)
    obtain ⟨b399, gz399⟩ : ∃ z, z = h0.size := ⟨_, rfl⟩
    rw [← gz399] at A399 D399 st399
    have g_b399 : n0 ≤ b399 := Nat.le_trans Z0 (Nat.le_of_eq gz399.symm)
    replace Z0 := Nat.le_trans Z0 E399.1
    replace SC := SC.ext E399
    replace SA := SA.ext E399
    replace SHI := SHI.ext E399
    replace SLO := SLO.ext E399
    replace SF := SF.ext E399
    replace hkS := Nat.le_trans hkS E399.1
    replace HH := HH.ext E399
    have F399_value : Fld Z h399 b399 "java/lang/String" "value" "[B" .null := D399 (Or.inr (own_w hw 16 rfl)) (ty := (.array .byte)) (by decide)
    have F399_coder : Fld Z h399 b399 "java/lang/String" "coder" "B" (.int (0 : Int32)) := D399 (Or.inr (own_w hw 17 rfl)) (ty := .byte) (by decide)
    refine own_of (U' := (T399.setTop (mkF m 130 #[.val (.int p1), .val (.int p2), .val (.int p3), .val (.int p4), .val (.int (3 : Int32)), .val (.int x1), .val (.int x2), .val (.int x3), .unset, .unset] [(.ref b399)]))) (st399) ?_
    refine own_dup X399 hx hby at_130 rfl ?_
    refine own_iconst X399 hx hby 3 at_131 rfl ?_
    obtain ⟨T400, h400, k400, X400, e400, E400, A400, st400⟩ := newP X399 hx hZ (own_w hw 3 rfl) e399 (g := (mkF m 132 #[.val (.int p1), .val (.int p2), .val (.int p3), .val (.int p4), .val (.int (3 : Int32)), .val (.int x1), .val (.int x2), .val (.int x3), .unset, .unset] [(.int (3 : Int32)), (.ref b399), (.ref b399)])) rfl (hb hby at_132) rfl (by decide) (cap := 3) (by decide) (by decide) (by decide) (by decide)
    obtain ⟨b400, gz400⟩ : ∃ z, z = h399.size := ⟨_, rfl⟩
    rw [← gz400] at A400 st400
    have g_b400 : n0 ≤ b400 := Nat.le_trans Z0 (Nat.le_of_eq gz400.symm)
    have ne_b399_b400 : b399 ≠ b400 := Nat.ne_of_lt (Nat.lt_of_lt_of_le A399.lt (Nat.le_of_eq gz400.symm))
    replace Z0 := Nat.le_trans Z0 E400.1
    replace SC := SC.ext E400
    replace SA := SA.ext E400
    replace SHI := SHI.ext E400
    replace SLO := SLO.ext E400
    replace SF := SF.ext E400
    replace hkS := Nat.le_trans hkS E400.1
    replace HH := HH.ext E400
    replace A399 := A399.ext E400
    replace F399_value := F399_value.ext E400
    replace F399_coder := F399_coder.ext E400
    have V400 : Arv Z h400 b400 k400 .char (3 : Int32) [(.int (0 : Int32)), (.int (0 : Int32)), (.int (0 : Int32))] (.int (0 : Int32)) := (Arv.new A400 (by decide)).pad (pad_rep [] (.int (0 : Int32)) 3)
    refine own_of (U' := (T400.setTop (mkF m 134 #[.val (.int p1), .val (.int p2), .val (.int p3), .val (.int p4), .val (.int (3 : Int32)), .val (.int x1), .val (.int x2), .val (.int x3), .unset, .unset] [(.ref b400), (.ref b399), (.ref b399)]))) (st400) ?_
    refine own_dup X400 hx hby at_134 rfl ?_
    refine own_iconst X400 hx hby 0 at_135 rfl ?_
    refine own_iload X400 hx hby at_136 rfl ?_
    obtain ⟨cl401, Ar401, qa401, Sa401, Na401, Ha401, Ga401⟩ := V400
    have hin401 : ¬ ((0 : Int32) < 0 ∨ cl401.slots.size ≤ ((0 : Int32)).toNatClampNeg) := inb_of Sa401 ⟨by decide, by decide⟩
    obtain ⟨T401, h401, X401, e401, W401, st401⟩ := stC X400 hx hZ e400 Ar401 (j := (0 : Int32)) hin401 (g := (mkF m 138 #[.val (.int p1), .val (.int p2), .val (.int p3), .val (.int p4), .val (.int (3 : Int32)), .val (.int x1), .val (.int x2), .val (.int x3), .unset, .unset] [(.int x1), (.int (0 : Int32)), (.ref b400), (.ref b400), (.ref b399), (.ref b399)])) rfl rfl (hb hby at_138)
    replace V400 : Arv Z h401 b400 k400 .char (3 : Int32) [(.int (nar .char x1)), (.int (0 : Int32)), (.int (0 : Int32))] (.int (0 : Int32)) := Arv.set Ar401 qa401 Sa401 Na401 Ha401 Ga401 (fits_nar_char _) W401 0 rfl (Nat.le_of_ble_eq_true rfl)
    replace Z0 := Nat.le_trans Z0 (Keep.of_wr W401).1
    replace SC := SC.wr W401
    replace SA := SA.wr W401
    replace SHI := SHI.wr W401
    replace SLO := SLO.wr W401
    replace SF := SF.wr W401
    replace hkS := Nat.le_trans hkS (Keep.of_wr W401).1
    replace A399 := A399.wr W401
    replace F399_value := F399_value.other W401 (Or.inl ne_b399_b400)
    replace F399_coder := F399_coder.other W401 (Or.inl ne_b399_b400)
    have N401 := Fr.snoc X401 N0 g_b400
    refine own_of (U' := (T401.setTop (mkF m 139 #[.val (.int p1), .val (.int p2), .val (.int p3), .val (.int p4), .val (.int (3 : Int32)), .val (.int x1), .val (.int x2), .val (.int x3), .unset, .unset] [(.ref b400), (.ref b399), (.ref b399)]))) (st401) ?_
    refine own_dup X401 hx hby at_139 rfl ?_
    refine own_iconst X401 hx hby 1 at_140 rfl ?_
    refine own_iload X401 hx hby at_141 rfl ?_
    obtain ⟨cl402, Ar402, qa402, Sa402, Na402, Ha402, Ga402⟩ := V400
    have hin402 : ¬ ((1 : Int32) < 0 ∨ cl402.slots.size ≤ ((1 : Int32)).toNatClampNeg) := inb_of Sa402 ⟨by decide, by decide⟩
    obtain ⟨T402, h402, X402, e402, W402, st402⟩ := stC X401 hx hZ e401 Ar402 (j := (1 : Int32)) hin402 (g := (mkF m 143 #[.val (.int p1), .val (.int p2), .val (.int p3), .val (.int p4), .val (.int (3 : Int32)), .val (.int x1), .val (.int x2), .val (.int x3), .unset, .unset] [(.int x2), (.int (1 : Int32)), (.ref b400), (.ref b400), (.ref b399), (.ref b399)])) rfl rfl (hb hby at_143)
    replace V400 : Arv Z h402 b400 k400 .char (3 : Int32) [(.int (nar .char x1)), (.int (nar .char x2)), (.int (0 : Int32))] (.int (0 : Int32)) := Arv.set Ar402 qa402 Sa402 Na402 Ha402 Ga402 (fits_nar_char _) W402 1 rfl (Nat.le_of_ble_eq_true rfl)
    replace Z0 := Nat.le_trans Z0 (Keep.of_wr W402).1
    replace SC := SC.wr W402
    replace SA := SA.wr W402
    replace SHI := SHI.wr W402
    replace SLO := SLO.wr W402
    replace SF := SF.wr W402
    replace hkS := Nat.le_trans hkS (Keep.of_wr W402).1
    replace A399 := A399.wr W402
    replace F399_value := F399_value.other W402 (Or.inl ne_b399_b400)
    replace F399_coder := F399_coder.other W402 (Or.inl ne_b399_b400)
    have N402 := Fr.snoc X402 N401 g_b400
    refine own_of (U' := (T402.setTop (mkF m 144 #[.val (.int p1), .val (.int p2), .val (.int p3), .val (.int p4), .val (.int (3 : Int32)), .val (.int x1), .val (.int x2), .val (.int x3), .unset, .unset] [(.ref b400), (.ref b399), (.ref b399)]))) (st402) ?_
    refine own_dup X402 hx hby at_144 rfl ?_
    refine own_iconst X402 hx hby 2 at_145 rfl ?_
    refine own_iload X402 hx hby at_146 rfl ?_
    obtain ⟨cl403, Ar403, qa403, Sa403, Na403, Ha403, Ga403⟩ := V400
    have hin403 : ¬ ((2 : Int32) < 0 ∨ cl403.slots.size ≤ ((2 : Int32)).toNatClampNeg) := inb_of Sa403 ⟨by decide, by decide⟩
    obtain ⟨T403, h403, X403, e403, W403, st403⟩ := stC X402 hx hZ e402 Ar403 (j := (2 : Int32)) hin403 (g := (mkF m 148 #[.val (.int p1), .val (.int p2), .val (.int p3), .val (.int p4), .val (.int (3 : Int32)), .val (.int x1), .val (.int x2), .val (.int x3), .unset, .unset] [(.int x3), (.int (2 : Int32)), (.ref b400), (.ref b400), (.ref b399), (.ref b399)])) rfl rfl (hb hby at_148)
    replace V400 : Arv Z h403 b400 k400 .char (3 : Int32) [(.int (nar .char x1)), (.int (nar .char x2)), (.int (nar .char x3))] (.int (0 : Int32)) := Arv.set Ar403 qa403 Sa403 Na403 Ha403 Ga403 (fits_nar_char _) W403 2 rfl (Nat.le_of_ble_eq_true rfl)
    replace Z0 := Nat.le_trans Z0 (Keep.of_wr W403).1
    replace SC := SC.wr W403
    replace SA := SA.wr W403
    replace SHI := SHI.wr W403
    replace SLO := SLO.wr W403
    replace SF := SF.wr W403
    replace hkS := Nat.le_trans hkS (Keep.of_wr W403).1
    replace A399 := A399.wr W403
    replace F399_value := F399_value.other W403 (Or.inl ne_b399_b400)
    replace F399_coder := F399_coder.other W403 (Or.inl ne_b399_b400)
    have N403 := Fr.snoc X403 N402 g_b400
    refine own_of (U' := (T403.setTop (mkF m 149 #[.val (.int p1), .val (.int p2), .val (.int p3), .val (.int p4), .val (.int (3 : Int32)), .val (.int x1), .val (.int x2), .val (.int x3), .unset, .unset] [(.ref b400), (.ref b399), (.ref b399)]))) (st403) ?_
    obtain ⟨_, _, ⟨T404, L404, k404, n404⟩, -, X404, ⟨Lc404, hQ404, l404, y404, z404⟩, st404⟩ := X403.specialBack hx (y := mN_19) rfl hown (mvT hZ (own_w hw 4 rfl)) (mvT hZ (own_w hw 5 rfl)) (mvT hZ (own_w hw 6 rfl)) (by decide) (backOf (W := 1) (rmsi3 l Z a0 hw [] b399 b400 k400 (nar .char x1) (nar .char x2) (nar .char x3) g1 h403 n0 Z0 A399 F399_coder F399_value V400 g_b399 (own_char_bd x1) (own_char_bd x2) (own_char_bd x3) SC hg1 SA SHI SLO) hZ (own_w hw 6 rfl) (own_w hw 2 rfl) (by decide) (by decide)) (g := (mkF m 149 #[.val (.int p1), .val (.int p2), .val (.int p3), .val (.int p4), .val (.int (3 : Int32)), .val (.int x1), .val (.int x2), .val (.int x3), .unset, .unset] [(.ref b400), (.ref b399), (.ref b399)])) rfl (by rw [hml]; rfl) (Steps.refl _) (a := b399) (argsL := [(.ref b400)]) (rest := [(.ref b399)]) (lenOf pd_16 rfl) rfl (by show 2 * 0 + _ ≤ _; exact Nat.le_of_eq rfl) (hb hby at_149) (fun _ _ => ⟨rfl, e403, (by decide : 2 + 2 ≤ _), (by decide : 7 + 9 ≤ _)⟩)
    dsimp only [Pt.U, Pt.locs, Pt.cells, Pt.slots] at X404 l404 y404 z404 st404 hQ404
    subst l404 y404 z404
    obtain ⟨rfl, Nq404, Kp404, Tq404⟩ := hQ404
    have N404 := Fr.app N403 Nq404
    have nst_b399 := A399.nostat
    replace Z0 := Nat.le_trans Z0 Kp404.1
    replace SC := own_staKeep SC Kp404 (nsS nst_b399 ns0)
    replace SA := own_staKeep SA Kp404 (nsS nst_b399 ns0)
    replace SHI := own_staKeep SHI Kp404 (nsS nst_b399 ns0)
    replace SLO := own_staKeep SLO Kp404 (nsS nst_b399 ns0)
    replace SF := own_staKeep SF Kp404 (nsS nst_b399 ns0)
    replace hkS := Nat.le_trans hkS Kp404.1
    replace A399 := A399.keep Kp404
    replace V400 := V400.keep Kp404 (ninS (Ne.symm ne_b399_b400) nin0)
    refine own_of (U' := (T404.setTop (mkF m 152 #[.val (.int p1), .val (.int p2), .val (.int p3), .val (.int p4), .val (.int (3 : Int32)), .val (.int x1), .val (.int x2), .val (.int x3), .unset, .unset] [(.ref b399)]))) (fun _ k => st404.trans k) ?_
    refine own_astore X404 hx hby at_152 rfl (l' := #[.val (.int p1), .val (.int p2), .val (.int p3), .val (.int p4), .val (.int (3 : Int32)), .val (.int x1), .val (.int x2), .val (.int x3), .val (.ref b399), .unset]) rfl ?_
    refine own_iload X404 hx hby at_154 rfl ?_
    obtain ⟨_, _, ⟨T405, L405, k405, n405⟩, -, X405, ⟨Lc405, hQ405, l405, y405, z405⟩, st405⟩ := Jvm.LawKit.callS X404 hx (y := mN_21) hown (mvT hZ (own_w hw 47 rfl)) (mvT hZ (own_w hw 48 rfl)) (mvT hZ (own_w hw 49 rfl)) (mvT hZ (own_w hw 50 rfl)) (by decide) (backOf (W := 0) (rmok l Z a0 hw [] x1 T404.heap n0 Z0 ) hZ (own_w hw 50 rfl) (own_w hw 49 rfl) (by decide) (by decide)) (g := (mkF m 156 #[.val (.int p1), .val (.int p2), .val (.int p3), .val (.int p4), .val (.int (3 : Int32)), .val (.int x1), .val (.int x2), .val (.int x3), .val (.ref b399), .unset] [(.int x1)])) rfl (by rw [hml]; rfl) (argsL := [(.int x1)]) (rest := []) (lenOf pd_18 rfl) rfl (by show 2 * 0 + _ ≤ _; exact Nat.le_of_eq rfl) (hb hby at_156) (fun _ _ => ⟨rfl, rfl, (by decide : 4 + 0 ≤ _), (by decide : 16 + 0 ≤ _)⟩)
    dsimp only [Pt.U, Pt.locs, Pt.cells, Pt.slots] at X405 l405 y405 z405 st405 hQ405
    subst l405 y405 z405
    obtain ⟨rfl, Nq405, e405⟩ := hQ405
    have N405 := Fr.app N404 Nq405
    refine own_of (U' := (T405.setTop (mkF m 159 #[.val (.int p1), .val (.int p2), .val (.int p3), .val (.int p4), .val (.int (3 : Int32)), .val (.int x1), .val (.int x2), .val (.int x3), .val (.ref b399), .unset] [(.int (own_okl x1))]))) (st405) ?_
    by_cases hc159_406 : (own_okl x1) = (0 : Int32)
    · skip
      refine own_ifYes X405 hx hby 159 182 at_159 ((if0 _ _).trans (teq hc159_406).1) (by decide) (by decide) ?_
      refine own_iconst X405 hx hby 0 at_182 rfl ?_
      refine own_istore X405 hx hby at_183 (l' := #[.val (.int p1), .val (.int p2), .val (.int p3), .val (.int p4), .val (.int (3 : Int32)), .val (.int x1), .val (.int x2), .val (.int x3), .val (.ref b399), .val (.int (0 : Int32))]) rfl ?_
      refine own_aload X405 hx hby at_185 rfl rfl ?_
      obtain ⟨_, _, ⟨T407, L407, k407, n407⟩, -, X407, ⟨Lc407, hQ407, l407, y407, z407⟩, st407⟩ := Jvm.LawKit.callS X405 hx (y := mN_20) hown (mvT hZ (own_w hw 22 rfl)) (mvT hZ (own_w hw 23 rfl)) (mvT hZ (own_w hw 24 rfl)) (mvT hZ (own_w hw 25 rfl)) (by decide) (backOf (W := 0) (rmfv3 l Z a0 hw [] b399 (nar .char x1) (nar .char x2) (nar .char x3) g1 rS T404.heap n0 Z0 Tq404 (own_char_bd x1) (own_char_bd x2) (own_char_bd x3) SC hg1 SA SHI SLO SF hrS) hZ (own_w hw 25 rfl) (own_w hw 24 rfl) (by decide) (by decide)) (g := (mkF m 187 #[.val (.int p1), .val (.int p2), .val (.int p3), .val (.int p4), .val (.int (3 : Int32)), .val (.int x1), .val (.int x2), .val (.int x3), .val (.ref b399), .val (.int (0 : Int32))] [(.ref b399)])) rfl (by rw [hml]; rfl) (argsL := [(.ref b399)]) (rest := []) (lenOf pd_17 rfl) rfl (by show 2 * 0 + _ ≤ _; exact Nat.le_of_eq rfl) (hb hby at_187) (fun _ _ => ⟨rfl, e405, (by decide : 4 + 0 ≤ _), (by decide : 16 + 0 ≤ _)⟩)
      dsimp only [Pt.U, Pt.locs, Pt.cells, Pt.slots] at X407 l407 y407 z407 st407 hQ407
      subst l407 y407 z407
      obtain ⟨rfl, Nq407, e407⟩ := hQ407
      have N407 := Fr.app N405 Nq407
      refine own_of (U' := (T407.setTop (mkF m 190 #[.val (.int p1), .val (.int p2), .val (.int p3), .val (.int p4), .val (.int (3 : Int32)), .val (.int x1), .val (.int x2), .val (.int x3), .val (.ref b399), .val (.int (0 : Int32))] [(.int (own_fv [(nar .char x1), (nar .char x2), (nar .char x3)]))]))) (st407) ?_
      refine own_iload X407 hx hby at_190 rfl ?_
      have hc192_408 : (own_fv [(nar .char x1), (nar .char x2), (nar .char x3)]) = (0 : Int32) := by rw [hn_x1, hn_x2, hn_x3, own_fv_cons hd_x1, own_fv_cons hd_x2, own_fv_cons hd_x3]; simp [own_fv0, hc159_406]
      refine own_icmpNo X407 hx hby at_192 (teq hc192_408).2 ?_
      refine own_iconst X407 hx hby 1 at_195 rfl ?_
      refine own_goto X407 hx hby 196 200 at_196 (by decide) (by decide) ?_
      exact own_retNW X407 hx hlk hS (by rw [e407]; exact hkS) (t := .boolean) Bd.returns (by simp) (hb hby at_200) (by decide) (by decide) (⟨rfl, N407⟩)
    · skip
      refine own_ifNo X405 hx hby at_159 ((if0 _ _).trans (feq hc159_406).1) ?_
      refine own_iload X405 hx hby at_162 rfl ?_
      obtain ⟨_, _, ⟨T409, L409, k409, n409⟩, -, X409, ⟨Lc409, hQ409, l409, y409, z409⟩, st409⟩ := Jvm.LawKit.callS X405 hx (y := mN_21) hown (mvT hZ (own_w hw 47 rfl)) (mvT hZ (own_w hw 48 rfl)) (mvT hZ (own_w hw 49 rfl)) (mvT hZ (own_w hw 50 rfl)) (by decide) (backOf (W := 0) (rmok l Z a0 hw [] x2 T404.heap n0 Z0 ) hZ (own_w hw 50 rfl) (own_w hw 49 rfl) (by decide) (by decide)) (g := (mkF m 164 #[.val (.int p1), .val (.int p2), .val (.int p3), .val (.int p4), .val (.int (3 : Int32)), .val (.int x1), .val (.int x2), .val (.int x3), .val (.ref b399), .unset] [(.int x2)])) rfl (by rw [hml]; rfl) (argsL := [(.int x2)]) (rest := []) (lenOf pd_18 rfl) rfl (by show 2 * 0 + _ ≤ _; exact Nat.le_of_eq rfl) (hb hby at_164) (fun _ _ => ⟨rfl, e405, (by decide : 4 + 0 ≤ _), (by decide : 16 + 0 ≤ _)⟩)
      dsimp only [Pt.U, Pt.locs, Pt.cells, Pt.slots] at X409 l409 y409 z409 st409 hQ409
      subst l409 y409 z409
      obtain ⟨rfl, Nq409, e409⟩ := hQ409
      have N409 := Fr.app N405 Nq409
      refine own_of (U' := (T409.setTop (mkF m 167 #[.val (.int p1), .val (.int p2), .val (.int p3), .val (.int p4), .val (.int (3 : Int32)), .val (.int x1), .val (.int x2), .val (.int x3), .val (.ref b399), .unset] [(.int (own_okl x2))]))) (st409) ?_
      by_cases hc167_410 : (own_okl x2) = (0 : Int32)
      · skip
        refine own_ifYes X409 hx hby 167 182 at_167 ((if0 _ _).trans (teq hc167_410).1) (by decide) (by decide) ?_
        refine own_iconst X409 hx hby 0 at_182 rfl ?_
        refine own_istore X409 hx hby at_183 (l' := #[.val (.int p1), .val (.int p2), .val (.int p3), .val (.int p4), .val (.int (3 : Int32)), .val (.int x1), .val (.int x2), .val (.int x3), .val (.ref b399), .val (.int (0 : Int32))]) rfl ?_
        refine own_aload X409 hx hby at_185 rfl rfl ?_
        obtain ⟨_, _, ⟨T411, L411, k411, n411⟩, -, X411, ⟨Lc411, hQ411, l411, y411, z411⟩, st411⟩ := Jvm.LawKit.callS X409 hx (y := mN_20) hown (mvT hZ (own_w hw 22 rfl)) (mvT hZ (own_w hw 23 rfl)) (mvT hZ (own_w hw 24 rfl)) (mvT hZ (own_w hw 25 rfl)) (by decide) (backOf (W := 0) (rmfv3 l Z a0 hw [] b399 (nar .char x1) (nar .char x2) (nar .char x3) g1 rS T404.heap n0 Z0 Tq404 (own_char_bd x1) (own_char_bd x2) (own_char_bd x3) SC hg1 SA SHI SLO SF hrS) hZ (own_w hw 25 rfl) (own_w hw 24 rfl) (by decide) (by decide)) (g := (mkF m 187 #[.val (.int p1), .val (.int p2), .val (.int p3), .val (.int p4), .val (.int (3 : Int32)), .val (.int x1), .val (.int x2), .val (.int x3), .val (.ref b399), .val (.int (0 : Int32))] [(.ref b399)])) rfl (by rw [hml]; rfl) (argsL := [(.ref b399)]) (rest := []) (lenOf pd_17 rfl) rfl (by show 2 * 0 + _ ≤ _; exact Nat.le_of_eq rfl) (hb hby at_187) (fun _ _ => ⟨rfl, e409, (by decide : 4 + 0 ≤ _), (by decide : 16 + 0 ≤ _)⟩)
        dsimp only [Pt.U, Pt.locs, Pt.cells, Pt.slots] at X411 l411 y411 z411 st411 hQ411
        subst l411 y411 z411
        obtain ⟨rfl, Nq411, e411⟩ := hQ411
        have N411 := Fr.app N409 Nq411
        refine own_of (U' := (T411.setTop (mkF m 190 #[.val (.int p1), .val (.int p2), .val (.int p3), .val (.int p4), .val (.int (3 : Int32)), .val (.int x1), .val (.int x2), .val (.int x3), .val (.ref b399), .val (.int (0 : Int32))] [(.int (own_fv [(nar .char x1), (nar .char x2), (nar .char x3)]))]))) (st411) ?_
        refine own_iload X411 hx hby at_190 rfl ?_
        have hc192_412 : (own_fv [(nar .char x1), (nar .char x2), (nar .char x3)]) = (0 : Int32) := by rw [hn_x1, hn_x2, hn_x3, own_fv_cons hd_x1, own_fv_cons hd_x2, own_fv_cons hd_x3]; simp [own_fv0, hc159_406, hc167_410]
        refine own_icmpNo X411 hx hby at_192 (teq hc192_412).2 ?_
        refine own_iconst X411 hx hby 1 at_195 rfl ?_
        refine own_goto X411 hx hby 196 200 at_196 (by decide) (by decide) ?_
        exact own_retNW X411 hx hlk hS (by rw [e411]; exact hkS) (t := .boolean) Bd.returns (by simp) (hb hby at_200) (by decide) (by decide) (⟨rfl, N411⟩)
      · skip
        refine own_ifNo X409 hx hby at_167 ((if0 _ _).trans (feq hc167_410).1) ?_
        refine own_iload X409 hx hby at_170 rfl ?_
        obtain ⟨_, _, ⟨T413, L413, k413, n413⟩, -, X413, ⟨Lc413, hQ413, l413, y413, z413⟩, st413⟩ := Jvm.LawKit.callS X409 hx (y := mN_21) hown (mvT hZ (own_w hw 47 rfl)) (mvT hZ (own_w hw 48 rfl)) (mvT hZ (own_w hw 49 rfl)) (mvT hZ (own_w hw 50 rfl)) (by decide) (backOf (W := 0) (rmok l Z a0 hw [] x3 T404.heap n0 Z0 ) hZ (own_w hw 50 rfl) (own_w hw 49 rfl) (by decide) (by decide)) (g := (mkF m 172 #[.val (.int p1), .val (.int p2), .val (.int p3), .val (.int p4), .val (.int (3 : Int32)), .val (.int x1), .val (.int x2), .val (.int x3), .val (.ref b399), .unset] [(.int x3)])) rfl (by rw [hml]; rfl) (argsL := [(.int x3)]) (rest := []) (lenOf pd_18 rfl) rfl (by show 2 * 0 + _ ≤ _; exact Nat.le_of_eq rfl) (hb hby at_172) (fun _ _ => ⟨rfl, e409, (by decide : 4 + 0 ≤ _), (by decide : 16 + 0 ≤ _)⟩)
        dsimp only [Pt.U, Pt.locs, Pt.cells, Pt.slots] at X413 l413 y413 z413 st413 hQ413
        subst l413 y413 z413
        obtain ⟨rfl, Nq413, e413⟩ := hQ413
        have N413 := Fr.app N409 Nq413
        refine own_of (U' := (T413.setTop (mkF m 175 #[.val (.int p1), .val (.int p2), .val (.int p3), .val (.int p4), .val (.int (3 : Int32)), .val (.int x1), .val (.int x2), .val (.int x3), .val (.ref b399), .unset] [(.int (own_okl x3))]))) (st413) ?_
        by_cases hc175_414 : (own_okl x3) = (0 : Int32)
        · skip
          refine own_ifYes X413 hx hby 175 182 at_175 ((if0 _ _).trans (teq hc175_414).1) (by decide) (by decide) ?_
          refine own_iconst X413 hx hby 0 at_182 rfl ?_
          refine own_istore X413 hx hby at_183 (l' := #[.val (.int p1), .val (.int p2), .val (.int p3), .val (.int p4), .val (.int (3 : Int32)), .val (.int x1), .val (.int x2), .val (.int x3), .val (.ref b399), .val (.int (0 : Int32))]) rfl ?_
          refine own_aload X413 hx hby at_185 rfl rfl ?_
          obtain ⟨_, _, ⟨T415, L415, k415, n415⟩, -, X415, ⟨Lc415, hQ415, l415, y415, z415⟩, st415⟩ := Jvm.LawKit.callS X413 hx (y := mN_20) hown (mvT hZ (own_w hw 22 rfl)) (mvT hZ (own_w hw 23 rfl)) (mvT hZ (own_w hw 24 rfl)) (mvT hZ (own_w hw 25 rfl)) (by decide) (backOf (W := 0) (rmfv3 l Z a0 hw [] b399 (nar .char x1) (nar .char x2) (nar .char x3) g1 rS T404.heap n0 Z0 Tq404 (own_char_bd x1) (own_char_bd x2) (own_char_bd x3) SC hg1 SA SHI SLO SF hrS) hZ (own_w hw 25 rfl) (own_w hw 24 rfl) (by decide) (by decide)) (g := (mkF m 187 #[.val (.int p1), .val (.int p2), .val (.int p3), .val (.int p4), .val (.int (3 : Int32)), .val (.int x1), .val (.int x2), .val (.int x3), .val (.ref b399), .val (.int (0 : Int32))] [(.ref b399)])) rfl (by rw [hml]; rfl) (argsL := [(.ref b399)]) (rest := []) (lenOf pd_17 rfl) rfl (by show 2 * 0 + _ ≤ _; exact Nat.le_of_eq rfl) (hb hby at_187) (fun _ _ => ⟨rfl, e413, (by decide : 4 + 0 ≤ _), (by decide : 16 + 0 ≤ _)⟩)
          dsimp only [Pt.U, Pt.locs, Pt.cells, Pt.slots] at X415 l415 y415 z415 st415 hQ415
          subst l415 y415 z415
          obtain ⟨rfl, Nq415, e415⟩ := hQ415
          have N415 := Fr.app N413 Nq415
          refine own_of (U' := (T415.setTop (mkF m 190 #[.val (.int p1), .val (.int p2), .val (.int p3), .val (.int p4), .val (.int (3 : Int32)), .val (.int x1), .val (.int x2), .val (.int x3), .val (.ref b399), .val (.int (0 : Int32))] [(.int (own_fv [(nar .char x1), (nar .char x2), (nar .char x3)]))]))) (st415) ?_
          refine own_iload X415 hx hby at_190 rfl ?_
          have hc192_416 : (own_fv [(nar .char x1), (nar .char x2), (nar .char x3)]) = (0 : Int32) := by rw [hn_x1, hn_x2, hn_x3, own_fv_cons hd_x1, own_fv_cons hd_x2, own_fv_cons hd_x3]; simp [own_fv0, hc159_406, hc167_410, hc175_414]
          refine own_icmpNo X415 hx hby at_192 (teq hc192_416).2 ?_
          refine own_iconst X415 hx hby 1 at_195 rfl ?_
          refine own_goto X415 hx hby 196 200 at_196 (by decide) (by decide) ?_
          exact own_retNW X415 hx hlk hS (by rw [e415]; exact hkS) (t := .boolean) Bd.returns (by simp) (hb hby at_200) (by decide) (by decide) (⟨rfl, N415⟩)
        · skip
          refine own_ifNo X413 hx hby at_175 ((if0 _ _).trans (feq hc175_414).1) ?_
          refine own_iconst X413 hx hby 1 at_178 rfl ?_
          refine own_goto X413 hx hby 179 183 at_179 (by decide) (by decide) ?_
          refine own_istore X413 hx hby at_183 (l' := #[.val (.int p1), .val (.int p2), .val (.int p3), .val (.int p4), .val (.int (3 : Int32)), .val (.int x1), .val (.int x2), .val (.int x3), .val (.ref b399), .val (.int (1 : Int32))]) rfl ?_
          refine own_aload X413 hx hby at_185 rfl rfl ?_
          obtain ⟨_, _, ⟨T417, L417, k417, n417⟩, -, X417, ⟨Lc417, hQ417, l417, y417, z417⟩, st417⟩ := Jvm.LawKit.callS X413 hx (y := mN_20) hown (mvT hZ (own_w hw 22 rfl)) (mvT hZ (own_w hw 23 rfl)) (mvT hZ (own_w hw 24 rfl)) (mvT hZ (own_w hw 25 rfl)) (by decide) (backOf (W := 0) (rmfv3 l Z a0 hw [] b399 (nar .char x1) (nar .char x2) (nar .char x3) g1 rS T404.heap n0 Z0 Tq404 (own_char_bd x1) (own_char_bd x2) (own_char_bd x3) SC hg1 SA SHI SLO SF hrS) hZ (own_w hw 25 rfl) (own_w hw 24 rfl) (by decide) (by decide)) (g := (mkF m 187 #[.val (.int p1), .val (.int p2), .val (.int p3), .val (.int p4), .val (.int (3 : Int32)), .val (.int x1), .val (.int x2), .val (.int x3), .val (.ref b399), .val (.int (1 : Int32))] [(.ref b399)])) rfl (by rw [hml]; rfl) (argsL := [(.ref b399)]) (rest := []) (lenOf pd_17 rfl) rfl (by show 2 * 0 + _ ≤ _; exact Nat.le_of_eq rfl) (hb hby at_187) (fun _ _ => ⟨rfl, e413, (by decide : 4 + 0 ≤ _), (by decide : 16 + 0 ≤ _)⟩)
          dsimp only [Pt.U, Pt.locs, Pt.cells, Pt.slots] at X417 l417 y417 z417 st417 hQ417
          subst l417 y417 z417
          obtain ⟨rfl, Nq417, e417⟩ := hQ417
          have N417 := Fr.app N413 Nq417
          refine own_of (U' := (T417.setTop (mkF m 190 #[.val (.int p1), .val (.int p2), .val (.int p3), .val (.int p4), .val (.int (3 : Int32)), .val (.int x1), .val (.int x2), .val (.int x3), .val (.ref b399), .val (.int (1 : Int32))] [(.int (own_fv [(nar .char x1), (nar .char x2), (nar .char x3)]))]))) (st417) ?_
          refine own_iload X417 hx hby at_190 rfl ?_
          have hc192_418 : (own_fv [(nar .char x1), (nar .char x2), (nar .char x3)]) = (1 : Int32) := by rw [hn_x1, hn_x2, hn_x3, own_fv_cons hd_x1, own_fv_cons hd_x2, own_fv_cons hd_x3]; simp [own_fv0, hc159_406, hc167_410, hc175_414]
          refine own_icmpNo X417 hx hby at_192 (teq hc192_418).2 ?_
          refine own_iconst X417 hx hby 1 at_195 rfl ?_
          refine own_goto X417 hx hby 196 200 at_196 (by decide) (by decide) ?_
          exact own_retNW X417 hx hlk hS (by rw [e417]; exact hkS) (t := .boolean) Bd.returns (by simp) (hb hby at_200) (by decide) (by decide) (⟨rfl, N417⟩)
set_option maxRecDepth 65536 in
set_option maxHeartbeats 40000000 in
theorem comes_1 {Post : Tables → Env → Array Value → State → Outcome → State → Prop} (hpost : ∀ tb e args s v u, (limb_1_1.after args s (.returned v) u = true ∧ limb_1_2.after args s (.returned v) u = true ∧ True) → ReturnedEndW s (.returned v) u (Jvm.fieldLocs frame_1_writes args s ++ Jvm.arrayLocs frame_1_arrays args s ++ Jvm.staticLocs frame_1_statics s) 24 1152 → Post tb e args s (.returned v) u) :
    ArmFor flags0 classFile x code maxLocals ret World_1 tables_1 room_1 Calls_1 rest_1 Pre_1 Post := by
  intro l hfl _ _ p e ha hc hk s m args below hf hA hF happ hP
  obtain ⟨hcalls, hrest, hpre⟩ := hP
  obtain ⟨-, -, -, hnamed, -, -, -, hat⟩ := (Spec.applies_iff hf).mp happ
  obtain ⟨hg, hn⟩ := and_e (Cond.before_iff.mp (show (Jvm.Cond.and given_1 narrow_1).before args s = true from hpre))
  obtain ⟨hcount, hv0⟩ := and_e hg
  obtain ⟨hi0, hv1⟩ := and_e hv0
  obtain ⟨hi1, hv2⟩ := and_e hv1
  obtain ⟨hi2, hv3⟩ := and_e hv2
  obtain ⟨w0, w1, w2, w3, rfl⟩ : ∃ w0 w1 w2 w3 : Value, args = #[w0, w1, w2, w3] := by
    have hs : args.size = 4 := by simpa [Cond.value, given_1] using hcount
    obtain ⟨L⟩ := args
    match L, hs with
    | [w0, w1, w2, w3], _ => exact ⟨w0, w1, w2, w3, rfl⟩
  have hw := fun d (hd : d ∈ tables_1) => atoms_spec (ws := Jvm.Cond.code x code maxLocals ret :: tables_1) hat d (List.mem_cons_of_mem _ hd)
  have hfit : Fit s := fun {y c} hc i hi => by
    obtain ⟨ha, rfl⟩ := Array.getElem?_eq_some_iff.mp hc
    have q := List.all_eq_true.mp ((Array.all_eq_true_iff_forall_mem.mp hF) _ (Array.getElem_mem ha)) i (List.mem_range.mpr hi)
    simpa [Array.getElem?_eq_getElem hi] using q
  obtain ⟨hsets, hown0⟩ := atoms_of _ (rest_1_c_eq ▸ (show rest_1_c.before _ s = true from hrest))
  have hr0 := Cond.before_iff.mp hown0
  obtain ⟨i0, ei0⟩ := is_v hi0
  obtain rfl : w0 = (.int i0) := Option.some.inj ei0
  obtain ⟨i1, ei1⟩ := is_v hi1
  obtain rfl : w1 = (.int i1) := Option.some.inj ei1
  obtain ⟨i2, ei2⟩ := is_v hi2
  obtain rfl : w2 = (.int i2) := Option.some.inj ei2
  obtain ⟨i3, ei3⟩ := is_v hv3
  obtain rfl : w3 = (.int i3) := Option.some.inj ei3
  obtain ⟨g1, eg1⟩ := is_v (Cond.before_iff.mp (hsets _ (List.mem_of_getElem? (i := 1) rfl)))
  have SC : Sta s s.heap "java/lang/String" "COMPACT_STRINGS" "Z" (.int g1) := Sta.start eg1 (Or.inl (hsets _ (List.mem_of_getElem? (i := 0) rfl)))
  have hg1 : ¬ (g1 = (0 : Int32)) := gotF (Cond.eq_ints eg1 (Term.int_eval 0)) (not_v (Cond.before_iff.mp (hsets _ (List.mem_of_getElem? (i := 2) rfl))))
  obtain ⟨rS, erS, hrS⟩ := isR_v (Cond.before_iff.mp (hsets _ (List.mem_of_getElem? (i := 8) rfl)))
  have SF : Sta s s.heap "jdk/internal/util/Preconditions" "SIOOBE_FORMATTER" "Ljava/util/function/BiFunction;" rS := Sta.start erS (Or.inl (hsets _ (List.mem_of_getElem? (i := 7) rfl)))
  have SA : Sta s s.heap "java/lang/StringUTF16" "$assertionsDisabled" "Z" (.int (1 : Int32)) := Sta.start (own_eqk (Cond.before_iff.mp (hsets _ (List.mem_of_getElem? (i := 12) rfl)))) (Or.inl (hsets _ (List.mem_of_getElem? (i := 11) rfl)))
  have SHI : Sta s s.heap "java/lang/StringUTF16" "HI_BYTE_SHIFT" "I" (.int (0 : Int32)) := Sta.start (own_eqk (Cond.before_iff.mp (hsets _ (List.mem_of_getElem? (i := 15) rfl)))) (Or.inl (hsets _ (List.mem_of_getElem? (i := 14) rfl)))
  have SLO : Sta s s.heap "java/lang/StringUTF16" "LO_BYTE_SHIFT" "I" (.int (8 : Int32)) := Sta.start (own_eqk (Cond.before_iff.mp (hsets _ (List.mem_of_getElem? (i := 18) rfl)))) (Or.inl (hsets _ (List.mem_of_getElem? (i := 17) rfl)))
  have hEL : EW s #[.int i0, .int i1, .int i2, .int i3] consts_1 := EW.cons (hw _ (List.mem_of_getElem? (i := 14) rfl)) (by decide +kernel) EW.nil
  have HH : CHv s consts_1 s.vm s.heap := CHv.start hEL hcalls.1 (hsets _ (List.mem_of_getElem? (i := 2) rfl)) (hw _ (List.mem_of_getElem? (i := 15) rfl)) (hw _ (List.mem_of_getElem? (i := 1) rfl))
  obtain ⟨n, o, h1, h2, h3, _, L, rfl, ⟨rfl, N⟩, hq⟩ := rm0 l s _ hw tables_1 i0 i1 i2 i3 g1 rS s.heap s.heap.size (Nat.le_refl _) hEL SC hg1 SA SHI SLO SF hrS p e ha hc hk s m _ below hf ((Spec.applies_iff_loose hf).mp happ).1 ⟨rfl, State.Warmed39.refl s, rfl, HH⟩ trivial
  exact ⟨n, _, h1, h2, h3, hpost _ _ _ _ _ _ ⟨Cond.after_iff.mpr rfl, Cond.after_iff.mpr (eq_i res_at (Term.int_eval (1)) rfl), trivial⟩ ⟨hq.1, hq.2.1, hq.2.2.1, (hq.2.2.2.sift fun y hy => Or.inr (N y hy)).mono (by decide) (by decide)⟩⟩
theorem main_1_1 : Claimed_1_1 := comes_1 fun _ _ _ _ _ _ h hF => ⟨h.1, hF⟩
theorem main_1_2 : Claimed_1_2 := comes_1 fun _ _ _ _ _ _ h hF => ⟨h.2.1, hF⟩
end Jvm.Pilot.@@N@@
namespace Jvm.Pilot.@@N@@
open Jvm Jvm.ClassFile Sem Op Lib Jvm.Free Jvm.Stand Jvm.Pilot.@@N@@.Jvm.D
/-! MADE BY PROGRAM (witnessworld.py) out of the Statement's table words and the real class files: 20 classes; the members and pool entries that the words name. The judged class is class 1, her method 2. -/
namespace start1
open Jvm.ClassFile
def u (s : String) : CpInfo := .utf8 (stringToUtf16 s)
/-- a pool by its gaps: so many unusable entries, then the entry; so many at the end -/
def gap : Nat → List CpInfo → List CpInfo
  | 0, r => r
  | n + 1, r => .unusable :: gap n r
def poolList (es : List (Nat × CpInfo)) (last : Nat) : List CpInfo := es.foldr (fun e r => gap e.1 (e.2 :: r)) (gap last [])
def pool (es : List (Nat × CpInfo)) (last : Nat) : Array CpInfo := ⟨poolList es last⟩
def fileOf (pool : Array CpInfo) (this : Nat) (attrs : Array Attribute := #[]) (ms : Array MethodInfo := #[]) (fl : Nat := 33) (sup : Nat := 0) (ifs : Array Nat := #[]) (fds : Array FieldInfo := #[]) : ClassFile where
  minorVersion := 0
  majorVersion := 65
  constantPool := pool
  accessFlags := fl
  thisClass := this
  superClass := sup
  interfaces := ifs
  fields := fds
  methods := ms
  attributes := attrs
def plain (name : String) (sup : Option ClassId) : Class where
  name := name
  kind := .ordinary
  loader := none
  accessFlags := 33
  super := sup
  interfaces := #[]
  cf := none
  fields := #[]
  methods := #[]
  instanceTypes := #[]
  staticTypes := #[]
  resolved := #[]
  callSites := []
  init := .initialized
  statics := none
  mirror := none

def pool0 : Array CpInfo := pool [(5, u "<init>"), (0, u "()V"), (1, .class_ 10), (1, u "java/lang/Object")] 113

def k0c0 : Code := { maxStack := 0, maxLocals := 1, code := object_method_1_code, exceptionTable := #[], attributes := #[] }
def k0m0 : Method := { name := "<init>", desc := "()V", sig := { parameters := [], returnType := none }, accessFlags := 1, code := some k0c0 }
/-- java/lang/Object -/
def k0 : Class := { plain "java/lang/Object" none with
  accessFlags := 33
  interfaces := #[]
  cf := some (fileOf pool0 8 #[] #[{ accessFlags := 1, nameIndex := 5, descriptorIndex := 6, attributes := #[] }] 33 0 #[] #[])
  fields := #[]
  methods := #[k0m0]
  instanceTypes := #[]
  staticTypes := #[]
  resolved := Array.replicate 124 none
  statics := none }

def pool1 : Array CpInfo := pool [(2, .class_ 4), (1, u "java/lang/Object"), (0, u "<init>"), (0, u "()V"), (0, .class_ 8), (0, u "java/lang/String"), (0, .methodref 7 10), (0, .nameAndType 5 11), (0, u "([C)V"), (0, .methodref 13 14), (0, .class_ 15), (0, .nameAndType 16 17), (0, u "com/example/svyazka/svyazka/http/SyntaxIsFieldValuePinLaw"), (0, u "ok"), (0, u "(C)Z"), (0, .methodref 19 20), (0, .class_ 21), (0, .nameAndType 22 23), (0, u "com/example/svyazka/svyazka/http/Syntax"), (0, u "isFieldValue"), (0, u "(Ljava/lang/String;)Z"), (3, u "law"), (0, u "(IIII)Z")] 2

def k1m0 : Method := { name := "<init>", desc := "()V", sig := { parameters := [], returnType := none }, accessFlags := 2, code := none }
def k1c1 : Code := { maxStack := 2, maxLocals := 1, code := method_2_code, exceptionTable := #[], attributes := #[] }
def k1m1 : Method := { name := "ok", desc := "(C)Z", sig := { parameters := [.char], returnType := some .boolean }, accessFlags := 10, code := some k1c1 }
def k1c2 : Code := { maxStack := 6, maxLocals := 10, code := code, exceptionTable := #[], attributes := #[] }
def k1m2 : Method := { name := "law", desc := "(IIII)Z", sig := { parameters := [.int, .int, .int, .int], returnType := some .boolean }, accessFlags := 9, code := some k1c2 }
/-- com/example/svyazka/svyazka/http/SyntaxIsFieldValuePinLaw -/
def k1 : Class := { plain "com/example/svyazka/svyazka/http/SyntaxIsFieldValuePinLaw" (some 0) with
  accessFlags := 49
  interfaces := #[]
  cf := some (fileOf pool1 13 #[] #[{ accessFlags := 2, nameIndex := 5, descriptorIndex := 6, attributes := #[] }, { accessFlags := 10, nameIndex := 16, descriptorIndex := 17, attributes := #[] }, { accessFlags := 9, nameIndex := 27, descriptorIndex := 28, attributes := #[] }] 49 2 #[] #[])
  fields := #[]
  methods := #[k1m0, k1m1, k1m2]
  instanceTypes := #[]
  staticTypes := #[]
  resolved := Array.replicate 31 none
  statics := none }

def pool2 : Array CpInfo := pool [(1, .class_ 2), (0, u "java/io/Serializable"), (0, .class_ 4), (0, u "java/lang/Object")] 2

/-- java/io/Serializable -/
def k2 : Class := { plain "java/io/Serializable" (some 0) with
  accessFlags := 1537
  interfaces := #[]
  cf := some (fileOf pool2 1 #[] #[] 1537 3 #[] #[])
  fields := #[]
  methods := #[]
  instanceTypes := #[]
  staticTypes := #[]
  resolved := Array.replicate 7 none
  statics := none }

def pool3 : Array CpInfo := pool [(1, .class_ 2), (0, u "java/lang/Comparable"), (0, .class_ 4), (0, u "java/lang/Object")] 7

/-- java/lang/Comparable -/
def k3 : Class := { plain "java/lang/Comparable" (some 0) with
  accessFlags := 1537
  interfaces := #[]
  cf := some (fileOf pool3 1 #[] #[] 1537 3 #[] #[])
  fields := #[]
  methods := #[]
  instanceTypes := #[]
  staticTypes := #[]
  resolved := Array.replicate 12 none
  statics := none }

def pool4 : Array CpInfo := pool [(2, .class_ 4), (1, u "java/lang/CharSequence"), (42, .class_ 48), (0, u "java/lang/CharSequence$1CodePointIterator"), (10, .class_ 60), (0, u "java/lang/CharSequence$1CharIterator"), (5, .class_ 67), (0, u "java/lang/Object")] 63

/-- java/lang/CharSequence -/
def k4 : Class := { plain "java/lang/CharSequence" (some 0) with
  accessFlags := 1537
  interfaces := #[]
  cf := some (fileOf pool4 2 #[.nestMembers #[47, 59]] #[] 1537 66 #[] #[])
  fields := #[]
  methods := #[]
  instanceTypes := #[]
  staticTypes := #[]
  resolved := Array.replicate 131 none
  statics := none }

def pool5 : Array CpInfo := pool [(1, .class_ 2), (0, u "java/lang/constant/Constable"), (0, .class_ 4), (0, u "java/lang/Object")] 6

/-- java/lang/constant/Constable -/
def k5 : Class := { plain "java/lang/constant/Constable" (some 0) with
  accessFlags := 1537
  interfaces := #[]
  cf := some (fileOf pool5 1 #[] #[] 1537 3 #[] #[])
  fields := #[]
  methods := #[]
  instanceTypes := #[]
  staticTypes := #[]
  resolved := Array.replicate 11 none
  statics := none }

def pool6 : Array CpInfo := pool [(1, .class_ 2), (0, u "java/lang/constant/ConstantDesc"), (0, .class_ 4), (0, u "java/lang/Object")] 32

/-- java/lang/constant/ConstantDesc -/
def k6 : Class := { plain "java/lang/constant/ConstantDesc" (some 0) with
  accessFlags := 1537
  interfaces := #[]
  cf := some (fileOf pool6 1 #[] #[] 1537 3 #[] #[])
  fields := #[]
  methods := #[]
  instanceTypes := #[]
  staticTypes := #[]
  resolved := Array.replicate 37 none
  statics := none }

def pool7 : Array CpInfo := pool [(1, .methodref 2 3), (0, .class_ 4), (0, .nameAndType 5 6), (0, u "java/lang/Object"), (0, u "<init>"), (0, u "()V"), (0, .string 8), (0, u ""), (0, .fieldref 10 11), (0, .class_ 12), (0, .nameAndType 13 14), (0, u "java/lang/String"), (0, u "value"), (0, u "[B"), (0, .fieldref 10 16), (0, .nameAndType 17 18), (0, u "coder"), (0, u "B"), (2, u "hash"), (0, u "I"), (2, u "hashIsZero"), (0, u "Z"), (0, .methodref 10 28), (0, .nameAndType 5 29), (0, u "([CIILjava/lang/Void;)V"), (8, .fieldref 10 39), (0, .nameAndType 40 26), (0, u "COMPACT_STRINGS"), (1, .class_ 44), (1, u "java/lang/StringUTF16"), (0, u "compress"), (1, .methodref 42 48), (0, .nameAndType 49 50), (0, u "coderFromArrayLen"), (0, u "([BI)B"), (56, .class_ 109), (1, u "java/lang/StringLatin1"), (32, u "()Z"), (34, .methodref 42 178), (0, .nameAndType 45 179), (0, u "([CII)[B"), (154, u "()I"), (0, .methodref 10 336), (0, .nameAndType 17 337), (0, u "()B"), (25, u "([BI)C"), (27, u "(II)V"), (35, u "(I)C"), (64, .methodref 10 493), (0, .nameAndType 494 142), (0, u "isLatin1"), (0, .methodref 107 496), (0, .nameAndType 497 363), (0, u "charAt"), (0, .methodref 42 496), (2, u "checkIndex"), (5, u "length"), (67, .class_ 576), (0, u "java/lang/CharSequence"), (22, u "CASE_INSENSITIVE_ORDER"), (0, u "Ljava/util/Comparator;"), (409, u "([C)V"), (42, .fieldref 1054 1055), (0, .class_ 1056), (0, .nameAndType 1057 1058), (0, u "jdk/internal/util/Preconditions"), (0, u "SIOOBE_FORMATTER"), (0, u "Ljava/util/function/BiFunction;"), (0, .methodref 1054 1060), (0, .nameAndType 501 1061), (0, u "(IILjava/util/function/BiFunction;)I"), (39, u "serialPersistentFields"), (0, u "[Ljava/io/ObjectStreamField;"), (0, .class_ 1104), (0, u "java/lang/String$CaseInsensitiveComparator"), (1, .class_ 1107), (0, u "java/io/Serializable"), (0, .class_ 1109), (0, u "java/lang/Comparable"), (0, .class_ 1111), (0, u "java/lang/constant/Constable"), (0, .class_ 1113), (0, u "java/lang/constant/ConstantDesc"), (2, u "serialVersionUID"), (0, u "J"), (3, u "REPL"), (0, u "C"), (2, u "LATIN1"), (1, u "UTF16")] 323

def k7m0 : Method := { name := "<init>", desc := "()V", sig := { parameters := [], returnType := none }, accessFlags := 1, code := none }
def k7c1 : Code := { maxStack := 5, maxLocals := 2, code := jdk_42_method_3_code, exceptionTable := #[], attributes := #[] }
def k7m1 : Method := { name := "<init>", desc := "([C)V", sig := { parameters := [(.array .char)], returnType := none }, accessFlags := 1, code := some k7c1 }
def k7c2 : Code := { maxStack := 2, maxLocals := 1, code := jdk_42_method_54_code, exceptionTable := #[], attributes := #[] }
def k7m2 : Method := { name := "length", desc := "()I", sig := { parameters := [], returnType := some .int }, accessFlags := 1, code := some k7c2 }
def k7c3 : Code := { maxStack := 2, maxLocals := 2, code := jdk_42_method_56_code, exceptionTable := #[], attributes := #[] }
def k7m3 : Method := { name := "charAt", desc := "(I)C", sig := { parameters := [.int], returnType := some .char }, accessFlags := 1, code := some k7c3 }
def k7c4 : Code := { maxStack := 4, maxLocals := 6, code := jdk_42_method_149_code, exceptionTable := #[], attributes := #[] }
def k7m4 : Method := { name := "<init>", desc := "([CIILjava/lang/Void;)V", sig := { parameters := [(.array .char), .int, .int, (.object "java/lang/Void")], returnType := none }, accessFlags := 2, code := some k7c4 }
def k7c5 : Code := { maxStack := 1, maxLocals := 1, code := jdk_42_method_152_code, exceptionTable := #[], attributes := #[] }
def k7m5 : Method := { name := "coder", desc := "()B", sig := { parameters := [], returnType := some .byte }, accessFlags := 0, code := some k7c5 }
def k7c6 : Code := { maxStack := 1, maxLocals := 1, code := jdk_42_method_154_code, exceptionTable := #[], attributes := #[] }
def k7m6 : Method := { name := "isLatin1", desc := "()Z", sig := { parameters := [], returnType := some .boolean }, accessFlags := 0, code := some k7c6 }
def k7c7 : Code := { maxStack := 3, maxLocals := 2, code := jdk_42_method_155_code, exceptionTable := #[], attributes := #[] }
def k7m7 : Method := { name := "checkIndex", desc := "(II)V", sig := { parameters := [.int, .int], returnType := none }, accessFlags := 8, code := some k7c7 }
/-- java/lang/String -/
def k7 : Class := { plain "java/lang/String" (some 0) with
  accessFlags := 49
  interfaces := #[2, 3, 4, 5, 6]
  cf := some (fileOf pool7 10 #[.nestMembers #[1103]] #[{ accessFlags := 1, nameIndex := 5, descriptorIndex := 6, attributes := #[] }, { accessFlags := 1, nameIndex := 5, descriptorIndex := 1010, attributes := #[] }, { accessFlags := 1, nameIndex := 507, descriptorIndex := 334, attributes := #[] }, { accessFlags := 1, nameIndex := 497, descriptorIndex := 427, attributes := #[] }, { accessFlags := 2, nameIndex := 5, descriptorIndex := 29, attributes := #[] }, { accessFlags := 0, nameIndex := 17, descriptorIndex := 337, attributes := #[] }, { accessFlags := 0, nameIndex := 494, descriptorIndex := 142, attributes := #[] }, { accessFlags := 8, nameIndex := 501, descriptorIndex := 391, attributes := #[] }] 49 2 #[1106, 1108, 575, 1110, 1112] #[{ accessFlags := 18, nameIndex := 13, descriptorIndex := 14, attributes := #[] }, { accessFlags := 18, nameIndex := 17, descriptorIndex := 18, attributes := #[] }, { accessFlags := 2, nameIndex := 21, descriptorIndex := 22, attributes := #[] }, { accessFlags := 2, nameIndex := 25, descriptorIndex := 26, attributes := #[] }, { accessFlags := 26, nameIndex := 1116, descriptorIndex := 1117, attributes := #[] }, { accessFlags := 24, nameIndex := 40, descriptorIndex := 26, attributes := #[] }, { accessFlags := 26, nameIndex := 1101, descriptorIndex := 1102, attributes := #[] }, { accessFlags := 26, nameIndex := 1121, descriptorIndex := 1122, attributes := #[] }, { accessFlags := 25, nameIndex := 599, descriptorIndex := 600, attributes := #[] }, { accessFlags := 24, nameIndex := 1125, descriptorIndex := 18, attributes := #[] }, { accessFlags := 24, nameIndex := 1127, descriptorIndex := 18, attributes := #[] }])
  fields := #[{ name := "value", type := (.array .byte), accessFlags := 18, slot := 0, constantValue := 0 }, { name := "coder", type := .byte, accessFlags := 18, slot := 1, constantValue := 0 }, { name := "hash", type := .int, accessFlags := 2, slot := 2, constantValue := 0 }, { name := "hashIsZero", type := .boolean, accessFlags := 2, slot := 3, constantValue := 0 }, { name := "serialVersionUID", type := .long, accessFlags := 26, slot := 0, constantValue := 0 }, { name := "COMPACT_STRINGS", type := .boolean, accessFlags := 24, slot := 1, constantValue := 0 }, { name := "serialPersistentFields", type := (.array (.object "java/io/ObjectStreamField")), accessFlags := 26, slot := 2, constantValue := 0 }, { name := "REPL", type := .char, accessFlags := 26, slot := 3, constantValue := 0 }, { name := "CASE_INSENSITIVE_ORDER", type := (.object "java/util/Comparator"), accessFlags := 25, slot := 4, constantValue := 0 }, { name := "LATIN1", type := .byte, accessFlags := 24, slot := 5, constantValue := 0 }, { name := "UTF16", type := .byte, accessFlags := 24, slot := 6, constantValue := 0 }]
  methods := #[k7m0, k7m1, k7m2, k7m3, k7m4, k7m5, k7m6, k7m7]
  instanceTypes := #[(.array .byte), .byte, .int, .boolean]
  staticTypes := #[.long, .boolean, (.array (.object "java/io/ObjectStreamField")), .char, (.object "java/util/Comparator"), .byte, .byte]
  resolved := Array.replicate 1451 none
  statics := some 0 }

def pool8 : Array CpInfo := pool [(1, .class_ 2), (0, u "com/example/svyazka/svyazka/http/Syntax"), (1, .class_ 6), (1, u "java/lang/Object"), (0, u "<init>"), (0, u "()V"), (1, .class_ 12), (1, u "java/lang/String"), (2, .methodref 10 16), (0, .nameAndType 17 18), (0, u "length"), (0, u "()I"), (0, .methodref 10 20), (0, .nameAndType 21 22), (0, u "charAt"), (0, u "(I)C"), (21, u "(Ljava/lang/String;)Z"), (110, u "TOKEN_MARKS"), (0, u "Ljava/lang/String;"), (1, u "NAME_MARKS"), (0, u "TARGET_MARKS"), (4, u "isFieldValue")] 9

def k8m0 : Method := { name := "<init>", desc := "()V", sig := { parameters := [], returnType := none }, accessFlags := 2, code := none }
def k8c1 : Code := { maxStack := 2, maxLocals := 3, code := prog_27_method_3_code, exceptionTable := #[], attributes := #[] }
def k8m1 : Method := { name := "isFieldValue", desc := "(Ljava/lang/String;)Z", sig := { parameters := [(.object "java/lang/String")], returnType := some .boolean }, accessFlags := 8, code := some k8c1 }
/-- com/example/svyazka/svyazka/http/Syntax -/
def k8 : Class := { plain "com/example/svyazka/svyazka/http/Syntax" (some 0) with
  accessFlags := 48
  interfaces := #[]
  cf := some (fileOf pool8 1 #[] #[{ accessFlags := 2, nameIndex := 7, descriptorIndex := 8, attributes := #[] }, { accessFlags := 8, nameIndex := 164, descriptorIndex := 44, attributes := #[] }] 48 4 #[] #[{ accessFlags := 26, nameIndex := 155, descriptorIndex := 156, attributes := #[] }, { accessFlags := 26, nameIndex := 158, descriptorIndex := 156, attributes := #[] }, { accessFlags := 26, nameIndex := 159, descriptorIndex := 156, attributes := #[] }])
  fields := #[{ name := "TOKEN_MARKS", type := (.object "java/lang/String"), accessFlags := 26, slot := 0, constantValue := 0 }, { name := "NAME_MARKS", type := (.object "java/lang/String"), accessFlags := 26, slot := 1, constantValue := 0 }, { name := "TARGET_MARKS", type := (.object "java/lang/String"), accessFlags := 26, slot := 2, constantValue := 0 }]
  methods := #[k8m0, k8m1]
  instanceTypes := #[]
  staticTypes := #[(.object "java/lang/String"), (.object "java/lang/String"), (.object "java/lang/String")]
  resolved := Array.replicate 174 none
  statics := none }

def pool9 : Array CpInfo := pool [(3, .class_ 4), (0, u "java/lang/String"), (1, .class_ 8), (1, u "java/lang/Object"), (0, u "<init>"), (0, u "()V"), (0, .methodref 12 13), (0, .class_ 14), (0, .nameAndType 15 16), (0, u "java/lang/StringUTF16"), (0, u "newBytesLength"), (0, u "(I)I"), (3, .integer 1073741823), (23, .fieldref 12 45), (0, .nameAndType 46 47), (0, u "$assertionsDisabled"), (0, u "Z"), (0, .methodref 12 49), (0, .nameAndType 50 51), (0, u "length"), (0, u "([B)I"), (7, .fieldref 12 60), (0, .nameAndType 61 62), (0, u "HI_BYTE_SHIFT"), (0, u "I"), (0, .fieldref 12 64), (0, .nameAndType 65 62), (0, u "LO_BYTE_SHIFT"), (1, .methodref 12 68), (0, .nameAndType 69 70), (0, u "checkIndex"), (0, u "(I[B)V"), (0, .methodref 12 72), (0, .nameAndType 73 74), (0, u "getChar"), (0, u "([BI)C"), (32, .methodref 12 108), (0, .nameAndType 109 110), (0, u "newBytesFor"), (0, u "(I)[B"), (0, .methodref 12 112), (0, .nameAndType 113 114), (0, u "putChar"), (0, u "([BII)V"), (0, .methodref 12 116), (0, .nameAndType 117 118), (0, u "compress"), (0, u "([CI[BII)I"), (0, .methodref 12 120), (0, .nameAndType 121 122), (0, u "toBytes"), (0, u "([CII)[B"), (138, u "coderFromArrayLen"), (0, u "([BI)B"), (106, .class_ 371), (1, u "java/lang/StringUTF16$LinesSpliterator"), (20, u "charAt"), (21, .methodref 3 415), (0, .nameAndType 69 416), (0, u "(II)V"), (13, u "MAX_LENGTH"), (196, .class_ 628), (0, u "java/lang/StringUTF16$CodePointsSpliterator"), (0, .class_ 630), (0, u "java/lang/StringUTF16$CharsSpliterator")] 4

def k9m0 : Method := { name := "<init>", desc := "()V", sig := { parameters := [], returnType := none }, accessFlags := 0, code := none }
def k9c1 : Code := { maxStack := 1, maxLocals := 1, code := jdk_52_method_2_code, exceptionTable := #[], attributes := #[] }
def k9m1 : Method := { name := "newBytesFor", desc := "(I)[B", sig := { parameters := [.int], returnType := some (.array .byte) }, accessFlags := 9, code := some k9c1 }
def k9c2 : Code := { maxStack := 4, maxLocals := 1, code := jdk_52_method_3_code, exceptionTable := #[], attributes := #[] }
def k9m2 : Method := { name := "newBytesLength", desc := "(I)I", sig := { parameters := [.int], returnType := some .int }, accessFlags := 9, code := some k9c2 }
def k9c3 : Code := { maxStack := 4, maxLocals := 3, code := jdk_52_method_4_code, exceptionTable := #[], attributes := #[] }
def k9m3 : Method := { name := "putChar", desc := "([BII)V", sig := { parameters := [(.array .byte), .int, .int], returnType := none }, accessFlags := 8, code := some k9c3 }
def k9c4 : Code := { maxStack := 3, maxLocals := 2, code := jdk_52_method_5_code, exceptionTable := #[], attributes := #[] }
def k9m4 : Method := { name := "getChar", desc := "([BI)C", sig := { parameters := [(.array .byte), .int], returnType := some .char }, accessFlags := 8, code := some k9c4 }
def k9c5 : Code := { maxStack := 2, maxLocals := 1, code := jdk_52_method_6_code, exceptionTable := #[], attributes := #[] }
def k9m5 : Method := { name := "length", desc := "([B)I", sig := { parameters := [(.array .byte)], returnType := some .int }, accessFlags := 9, code := some k9c5 }
def k9c6 : Code := { maxStack := 4, maxLocals := 5, code := jdk_52_method_14_code, exceptionTable := #[], attributes := #[] }
def k9m6 : Method := { name := "toBytes", desc := "([CII)[B", sig := { parameters := [(.array .char), .int, .int], returnType := some (.array .byte) }, accessFlags := 9, code := some k9c6 }
def k9c7 : Code := { maxStack := 2, maxLocals := 2, code := jdk_52_method_15_code, exceptionTable := #[], attributes := #[] }
def k9m7 : Method := { name := "coderFromArrayLen", desc := "([BI)B", sig := { parameters := [(.array .byte), .int], returnType := some .byte }, accessFlags := 8, code := some k9c7 }
def k9c8 : Code := { maxStack := 5, maxLocals := 6, code := jdk_52_method_16_code, exceptionTable := #[], attributes := #[] }
def k9m8 : Method := { name := "compress", desc := "([CII)[B", sig := { parameters := [(.array .char), .int, .int], returnType := some (.array .byte) }, accessFlags := 9, code := some k9c8 }
def k9c9 : Code := { maxStack := 3, maxLocals := 7, code := jdk_52_method_21_code, exceptionTable := #[], attributes := #[] }
def k9m9 : Method := { name := "compress", desc := "([CI[BII)I", sig := { parameters := [(.array .char), .int, (.array .byte), .int, .int], returnType := some .int }, accessFlags := 9, code := some k9c9 }
def k9c10 : Code := { maxStack := 2, maxLocals := 2, code := jdk_52_method_83_code, exceptionTable := #[], attributes := #[] }
def k9m10 : Method := { name := "charAt", desc := "([BI)C", sig := { parameters := [(.array .byte), .int], returnType := some .char }, accessFlags := 9, code := some k9c10 }
def k9c11 : Code := { maxStack := 2, maxLocals := 2, code := jdk_52_method_91_code, exceptionTable := #[], attributes := #[] }
def k9m11 : Method := { name := "checkIndex", desc := "(I[B)V", sig := { parameters := [.int, (.array .byte)], returnType := none }, accessFlags := 9, code := some k9c11 }
/-- java/lang/StringUTF16 -/
def k9 : Class := { plain "java/lang/StringUTF16" (some 0) with
  accessFlags := 48
  interfaces := #[]
  cf := some (fileOf pool9 12 #[.nestMembers #[627, 629, 369]] #[{ accessFlags := 0, nameIndex := 9, descriptorIndex := 10, attributes := #[] }, { accessFlags := 9, nameIndex := 109, descriptorIndex := 110, attributes := #[] }, { accessFlags := 9, nameIndex := 15, descriptorIndex := 16, attributes := #[] }, { accessFlags := 8, nameIndex := 113, descriptorIndex := 114, attributes := #[] }, { accessFlags := 8, nameIndex := 73, descriptorIndex := 74, attributes := #[] }, { accessFlags := 9, nameIndex := 50, descriptorIndex := 51, attributes := #[] }, { accessFlags := 9, nameIndex := 121, descriptorIndex := 122, attributes := #[] }, { accessFlags := 8, nameIndex := 261, descriptorIndex := 262, attributes := #[] }, { accessFlags := 9, nameIndex := 117, descriptorIndex := 122, attributes := #[] }, { accessFlags := 9, nameIndex := 117, descriptorIndex := 118, attributes := #[] }, { accessFlags := 9, nameIndex := 392, descriptorIndex := 74, attributes := #[] }, { accessFlags := 9, nameIndex := 69, descriptorIndex := 70, attributes := #[] }] 48 6 #[] #[{ accessFlags := 26, nameIndex := 61, descriptorIndex := 62, attributes := #[] }, { accessFlags := 26, nameIndex := 65, descriptorIndex := 62, attributes := #[] }, { accessFlags := 24, nameIndex := 430, descriptorIndex := 62, attributes := #[] }, { accessFlags := 4120, nameIndex := 46, descriptorIndex := 47, attributes := #[] }])
  fields := #[{ name := "HI_BYTE_SHIFT", type := .int, accessFlags := 26, slot := 0, constantValue := 0 }, { name := "LO_BYTE_SHIFT", type := .int, accessFlags := 26, slot := 1, constantValue := 0 }, { name := "MAX_LENGTH", type := .int, accessFlags := 24, slot := 2, constantValue := 0 }, { name := "$assertionsDisabled", type := .boolean, accessFlags := 4120, slot := 3, constantValue := 0 }]
  methods := #[k9m0, k9m1, k9m2, k9m3, k9m4, k9m5, k9m6, k9m7, k9m8, k9m9, k9m10, k9m11]
  instanceTypes := #[]
  staticTypes := #[.int, .int, .int, .boolean]
  resolved := Array.replicate 635 none
  statics := some 1 }

def pool10 : Array CpInfo := pool [(1, .class_ 2), (0, u "java/lang/String"), (1, .class_ 6), (1, u "java/lang/Object"), (0, u "<init>"), (0, u "()V"), (0, .methodref 1 10), (0, .nameAndType 11 12), (0, u "checkIndex"), (0, u "(II)V"), (1, .class_ 16), (1, u "java/lang/StringLatin1"), (36, u "([BI)C"), (67, u "$assertionsDisabled"), (0, u "Z"), (98, .class_ 223), (1, u "java/lang/StringLatin1$LinesSpliterator"), (28, u "charAt"), (137, .class_ 391), (0, u "java/lang/StringLatin1$CharsSpliterator")] 3

def k10m0 : Method := { name := "<init>", desc := "()V", sig := { parameters := [], returnType := none }, accessFlags := 0, code := none }
def k10c1 : Code := { maxStack := 2, maxLocals := 2, code := jdk_43_method_2_code, exceptionTable := #[], attributes := #[] }
def k10m1 : Method := { name := "charAt", desc := "([BI)C", sig := { parameters := [(.array .byte), .int], returnType := some .char }, accessFlags := 9, code := some k10c1 }
/-- java/lang/StringLatin1 -/
def k10 : Class := { plain "java/lang/StringLatin1" (some 0) with
  accessFlags := 48
  interfaces := #[]
  cf := some (fileOf pool10 14 #[.nestMembers #[390, 221]] #[{ accessFlags := 0, nameIndex := 7, descriptorIndex := 8, attributes := #[] }, { accessFlags := 9, nameIndex := 252, descriptorIndex := 53, attributes := #[] }] 48 4 #[] #[{ accessFlags := 4120, nameIndex := 121, descriptorIndex := 122, attributes := #[] }])
  fields := #[{ name := "$assertionsDisabled", type := .boolean, accessFlags := 4120, slot := 0, constantValue := 0 }]
  methods := #[k10m0, k10m1]
  instanceTypes := #[]
  staticTypes := #[.boolean]
  resolved := Array.replicate 395 none
  statics := none }

def pool11 : Array CpInfo := pool [(2, .class_ 4), (1, u "java/lang/Object"), (0, u "<init>"), (0, u "()V"), (17, .class_ 26), (1, u "jdk/internal/util/Preconditions"), (6, u "checkIndex"), (21, .class_ 56), (0, u "jdk/internal/util/Preconditions$4"), (57, .class_ 115), (0, u "jdk/internal/util/Preconditions$1"), (7, u "SIOOBE_FORMATTER"), (0, u "Ljava/util/function/BiFunction;"), (0, .class_ 126), (0, u "jdk/internal/util/Preconditions$2"), (3, u "AIOOBE_FORMATTER"), (0, .class_ 132), (0, u "jdk/internal/util/Preconditions$3"), (3, u "IOOBE_FORMATTER"), (41, u "(IILjava/util/function/BiFunction;)I")] 15

def k11m0 : Method := { name := "<init>", desc := "()V", sig := { parameters := [], returnType := none }, accessFlags := 1, code := none }
def k11c1 : Code := { maxStack := 3, maxLocals := 3, code := jdk_41_method_11_code, exceptionTable := #[], attributes := #[] }
def k11m1 : Method := { name := "checkIndex", desc := "(IILjava/util/function/BiFunction;)I", sig := { parameters := [.int, .int, (.object "java/util/function/BiFunction")], returnType := some .int }, accessFlags := 9, code := some k11c1 }
/-- jdk/internal/util/Preconditions -/
def k11 : Class := { plain "jdk/internal/util/Preconditions" (some 0) with
  accessFlags := 33
  interfaces := #[]
  cf := some (fileOf pool11 24 #[.nestMembers #[55, 131, 125, 114]] #[{ accessFlags := 1, nameIndex := 5, descriptorIndex := 6, attributes := #[] }, { accessFlags := 9, nameIndex := 33, descriptorIndex := 178, attributes := #[] }] 33 2 #[] #[{ accessFlags := 25, nameIndex := 123, descriptorIndex := 124, attributes := #[] }, { accessFlags := 25, nameIndex := 130, descriptorIndex := 124, attributes := #[] }, { accessFlags := 25, nameIndex := 136, descriptorIndex := 124, attributes := #[] }])
  fields := #[{ name := "SIOOBE_FORMATTER", type := (.object "java/util/function/BiFunction"), accessFlags := 25, slot := 0, constantValue := 0 }, { name := "AIOOBE_FORMATTER", type := (.object "java/util/function/BiFunction"), accessFlags := 25, slot := 1, constantValue := 0 }, { name := "IOOBE_FORMATTER", type := (.object "java/util/function/BiFunction"), accessFlags := 25, slot := 2, constantValue := 0 }]
  methods := #[k11m0, k11m1]
  instanceTypes := #[]
  staticTypes := #[(.object "java/util/function/BiFunction"), (.object "java/util/function/BiFunction"), (.object "java/util/function/BiFunction")]
  resolved := Array.replicate 194 none
  statics := some 2 }

def pool12 : Array CpInfo := pool [(9, u "<init>"), (6, .class_ 18), (1, u "java/lang/Object"), (0, u "()V"), (1, .class_ 23), (1, u "jdk/internal/util/ArraysSupport"), (0, u "LOG2_ARRAY_LONG_INDEX_SCALE"), (0, u "I"), (2, u "U"), (0, u "Ljdk/internal/misc/Unsafe;"), (8, u "BIG_ENDIAN"), (0, u "Z"), (8, u "LOG2_BYTE_BIT_SIZE"), (4, u "LOG2_ARRAY_INT_INDEX_SCALE"), (54, u "JLA"), (0, u "Ljdk/internal/access/JavaLangAccess;"), (11, u "LOG2_ARRAY_BOOLEAN_INDEX_SCALE"), (9, u "LOG2_ARRAY_BYTE_INDEX_SCALE"), (5, u "LOG2_ARRAY_CHAR_INDEX_SCALE"), (5, u "LOG2_ARRAY_SHORT_INDEX_SCALE"), (18, u "LOG2_ARRAY_FLOAT_INDEX_SCALE"), (24, u "LOG2_ARRAY_DOUBLE_INDEX_SCALE"), (89, u "T_BOOLEAN"), (2, u "T_CHAR"), (1, u "T_FLOAT"), (1, u "T_DOUBLE"), (1, u "T_BYTE"), (1, u "T_SHORT"), (1, u "T_INT"), (1, u "T_LONG"), (1, u "SOFT_MAX_ARRAY_LENGTH")] 83

def k12m0 : Method := { name := "<init>", desc := "()V", sig := { parameters := [], returnType := none }, accessFlags := 2, code := none }
/-- jdk/internal/util/ArraysSupport -/
def k12 : Class := { plain "jdk/internal/util/ArraysSupport" (some 0) with
  accessFlags := 33
  interfaces := #[]
  cf := some (fileOf pool12 21 #[] #[{ accessFlags := 2, nameIndex := 9, descriptorIndex := 19, attributes := #[] }] 33 16 #[] #[{ accessFlags := 24, nameIndex := 28, descriptorIndex := 29, attributes := #[] }, { accessFlags := 26, nameIndex := 38, descriptorIndex := 39, attributes := #[] }, { accessFlags := 25, nameIndex := 121, descriptorIndex := 25, attributes := #[] }, { accessFlags := 25, nameIndex := 131, descriptorIndex := 25, attributes := #[] }, { accessFlags := 25, nameIndex := 137, descriptorIndex := 25, attributes := #[] }, { accessFlags := 25, nameIndex := 143, descriptorIndex := 25, attributes := #[] }, { accessFlags := 25, nameIndex := 53, descriptorIndex := 25, attributes := #[] }, { accessFlags := 25, nameIndex := 24, descriptorIndex := 25, attributes := #[] }, { accessFlags := 25, nameIndex := 162, descriptorIndex := 25, attributes := #[] }, { accessFlags := 25, nameIndex := 187, descriptorIndex := 25, attributes := #[] }, { accessFlags := 26, nameIndex := 48, descriptorIndex := 25, attributes := #[] }, { accessFlags := 25, nameIndex := 277, descriptorIndex := 25, attributes := #[] }, { accessFlags := 25, nameIndex := 280, descriptorIndex := 25, attributes := #[] }, { accessFlags := 25, nameIndex := 282, descriptorIndex := 25, attributes := #[] }, { accessFlags := 25, nameIndex := 284, descriptorIndex := 25, attributes := #[] }, { accessFlags := 25, nameIndex := 286, descriptorIndex := 25, attributes := #[] }, { accessFlags := 25, nameIndex := 288, descriptorIndex := 25, attributes := #[] }, { accessFlags := 25, nameIndex := 290, descriptorIndex := 25, attributes := #[] }, { accessFlags := 25, nameIndex := 292, descriptorIndex := 25, attributes := #[] }, { accessFlags := 26, nameIndex := 108, descriptorIndex := 109, attributes := #[] }, { accessFlags := 25, nameIndex := 294, descriptorIndex := 25, attributes := #[] }])
  fields := #[{ name := "U", type := (.object "jdk/internal/misc/Unsafe"), accessFlags := 24, slot := 0, constantValue := 0 }, { name := "BIG_ENDIAN", type := .boolean, accessFlags := 26, slot := 1, constantValue := 0 }, { name := "LOG2_ARRAY_BOOLEAN_INDEX_SCALE", type := .int, accessFlags := 25, slot := 2, constantValue := 0 }, { name := "LOG2_ARRAY_BYTE_INDEX_SCALE", type := .int, accessFlags := 25, slot := 3, constantValue := 0 }, { name := "LOG2_ARRAY_CHAR_INDEX_SCALE", type := .int, accessFlags := 25, slot := 4, constantValue := 0 }, { name := "LOG2_ARRAY_SHORT_INDEX_SCALE", type := .int, accessFlags := 25, slot := 5, constantValue := 0 }, { name := "LOG2_ARRAY_INT_INDEX_SCALE", type := .int, accessFlags := 25, slot := 6, constantValue := 0 }, { name := "LOG2_ARRAY_LONG_INDEX_SCALE", type := .int, accessFlags := 25, slot := 7, constantValue := 0 }, { name := "LOG2_ARRAY_FLOAT_INDEX_SCALE", type := .int, accessFlags := 25, slot := 8, constantValue := 0 }, { name := "LOG2_ARRAY_DOUBLE_INDEX_SCALE", type := .int, accessFlags := 25, slot := 9, constantValue := 0 }, { name := "LOG2_BYTE_BIT_SIZE", type := .int, accessFlags := 26, slot := 10, constantValue := 0 }, { name := "T_BOOLEAN", type := .int, accessFlags := 25, slot := 11, constantValue := 0 }, { name := "T_CHAR", type := .int, accessFlags := 25, slot := 12, constantValue := 0 }, { name := "T_FLOAT", type := .int, accessFlags := 25, slot := 13, constantValue := 0 }, { name := "T_DOUBLE", type := .int, accessFlags := 25, slot := 14, constantValue := 0 }, { name := "T_BYTE", type := .int, accessFlags := 25, slot := 15, constantValue := 0 }, { name := "T_SHORT", type := .int, accessFlags := 25, slot := 16, constantValue := 0 }, { name := "T_INT", type := .int, accessFlags := 25, slot := 17, constantValue := 0 }, { name := "T_LONG", type := .int, accessFlags := 25, slot := 18, constantValue := 0 }, { name := "JLA", type := (.object "jdk/internal/access/JavaLangAccess"), accessFlags := 26, slot := 19, constantValue := 0 }, { name := "SOFT_MAX_ARRAY_LENGTH", type := .int, accessFlags := 25, slot := 20, constantValue := 0 }]
  methods := #[k12m0]
  instanceTypes := #[]
  staticTypes := #[(.object "jdk/internal/misc/Unsafe"), .boolean, .int, .int, .int, .int, .int, .int, .int, .int, .int, .int, .int, .int, .int, .int, .int, .int, .int, (.object "jdk/internal/access/JavaLangAccess"), .int]
  resolved := Array.replicate 378 none
  statics := none }

def pool13 : Array CpInfo := pool [(1, u "java/lang/Cloneable"), (0, .class_ 1), (0, u "java/lang/Object"), (0, .class_ 3)] 3

/-- java/lang/Cloneable -/
def k13 : Class := { plain "java/lang/Cloneable" (some 0) with
  accessFlags := 1537
  interfaces := #[]
  cf := some (fileOf pool13 2 #[] #[] 1537 4 #[] #[])
  fields := #[]
  methods := #[]
  instanceTypes := #[]
  staticTypes := #[]
  resolved := Array.replicate 8 none
  statics := none }

/-- the primitive byte -/
def k14 : Class := { plain "byte" none with kind := .primitive 'B', accessFlags := 0x411 }
/-- [B -/
def k15 : Class := { plain "[B" (some 0) with kind := .array 14 .byte, interfaces := #[13, 2], accessFlags := 1041 }

/-- the primitive char -/
def k16 : Class := { plain "char" none with kind := .primitive 'C', accessFlags := 0x411 }
/-- [C -/
def k17 : Class := { plain "[C" (some 0) with kind := .array 16 .char, interfaces := #[13, 2], accessFlags := 1041 }

/-- the primitive int -/
def k18 : Class := { plain "int" none with kind := .primitive 'I', accessFlags := 0x411 }
/-- [I -/
def k19 : Class := { plain "[I" (some 0) with kind := .array 18 .int, interfaces := #[13, 2], accessFlags := 1041 }

def heap : Heap := #[{ cls := 7, slots := #[.long 0, .int 1, .null, .int 0, .null, .int 0, .int 0], vm := .statics 7 },
  { cls := 9, slots := #[.int 0, .int 8, .int 0, .int 1], vm := .statics 9 },
  { cls := 11, slots := #[.null, .null, .null], vm := .statics 11 }]
def classes : Array Class := #[k0, k1, k2, k3, k4, k5, k6, k7, k8, k9, k10, k11, k12, k13, k14, k15, k16, k17, k18, k19]
def interned : List (Array UInt16 × Addr) := []
def slotsUsed : Nat := 14
def theMethod : MethodId := ⟨1, 2⟩
def args0 : Array Value := #[.int 1, .int 65, .int 66, .int 67]
def aboutOver (below : List Frame) : State where
  vm := { classes := classes, interned := interned.toArray }
  heap := heap
  slotsUsed := slotsUsed
  threads := #[{ frames := .invoking theMethod args0 :: below }]
def below0 : List Frame := [.native { method := ⟨0, 0⟩, args := #[] }]
def about1 : State := aboutOver below0
def p0 : Program := .bare "" "" ""
def e0 : Env := launch0.env 0 0 0
theorem w_frames : about1.frames = Frame.invoking theMethod args0 :: below0 := rfl
set_option maxRecDepth 65536 in
theorem w_args : argsFit about1.vm theMethod args0 = true := by decide +kernel
set_option maxRecDepth 65536 in
theorem w_heap : heapFits about1 = true := by decide +kernel
set_option maxRecDepth 65536 in
theorem w_runnable : about1.curStatus? = some .runnable := by decide +kernel
set_option maxRecDepth 65536 in
theorem w_alone : about1.alone = true := by decide +kernel
set_option maxRecDepth 65536 in
theorem w_named : about1.methodNamed? x = some theMethod := by decide +kernel
set_option maxRecDepth 65536 in
theorem w_hears : about1.hears theMethod below0 = true := by decide +kernel
set_option maxRecDepth 65536 in
theorem w_ripe : about1.ripe theMethod args0 below0 = true := by decide +kernel
theorem w_running : about1.status = .running := rfl
set_option maxRecDepth 65536 in
theorem w_room : about1.hasRoom e0.platform room_1 = true :=
  launch0.hasRoom_least _ room_1 (by decide +kernel) (by decide +kernel) (by decide +kernel) (by decide +kernel) (by decide +kernel) (by decide +kernel)
theorem allAtoms_all (ts : List Jvm.Cond) (a : Array Jvm.Value) (st : Jvm.State) : (allAtoms ts).before a st = ts.all (fun c => c.before a st) := by
  induction ts with
  | nil => rfl
  | cons c t ih =>
    show (Jvm.Cond.and c (allAtoms t)).before a st = _
    rw [Jvm.Cond.before_and, ih, List.all_cons]
def words1 : List Jvm.Cond := Jvm.Cond.code x code maxLocals ret :: tables_1
/-- a 'code' word, met by the world's own term for the bytes: nothing is compared byte by byte -/
theorem code_word {y : MethodName} {bytes : ByteArray} {mx : Nat} {rt : Option FieldType} {a : Array Value} {s : State} {m : MethodId} {meth : Method} {c : Code} (h1 : s.methodNamed? y = some m) (h2 : s.vm.method? m = some meth) (h3 : meth.code = some c) (h4 : c.code = bytes)
    (h5 : (c.maxLocals == mx && c.exceptionTable.isEmpty && decide (c.maxStack ≤ mostOperands) && decide (meth.sig.returnType = rt) && !meth.locks && decide (parseMethodDescriptor y.desc = some meth.sig)) = true) : (Jvm.Cond.code y bytes mx rt).before a s = true := by
  simp only [Bool.and_eq_true, beq_iff_eq, Bool.not_eq_true', decide_eq_true_eq] at h5
  obtain ⟨⟨⟨⟨⟨g1, g2⟩, g3⟩, g4⟩, g5⟩, g6⟩ := h5
  simp [Cond.before, Cond.holds, Cond.value, h1, h2, h3, h4, g1, g2, g3, g4, g5, g6]
def isCode : Jvm.Cond → Bool
  | .code _ _ _ _ => true
  | _ => false
theorem all_split {L : List Jvm.Cond} {P : Jvm.Cond → Bool} (h1 : L.all (fun c => isCode c || P c) = true) (h2 : ∀ c ∈ L.filter isCode, P c = true) : L.all P = true := by
  refine List.all_eq_true.mpr fun c hc => ?_
  have h := List.all_eq_true.mp h1 c hc
  rcases Bool.eq_false_or_eq_true (isCode c) with hi | hi
  · exact h2 c (List.mem_filter.mpr ⟨hc, hi⟩)
  · simpa [hi] using h
set_option maxRecDepth 65536 in
theorem w_c0 : (Jvm.Cond.code x code maxLocals ret).before args0 about1 = true := code_word (m := ⟨1, 2⟩) (meth := k1m2) (c := k1c2) (by decide +kernel) rfl rfl rfl (by decide +kernel)
set_option maxRecDepth 65536 in
theorem w_c1 : (Jvm.Cond.code ({ cls := "java/lang/String", name := "<init>", desc := "([C)V" } : Jvm.MethodName) jdk_42_method_3_code (2 : Nat) (Option.none : Option Jvm.ClassFile.FieldType)).before args0 about1 = true := code_word (m := ⟨7, 1⟩) (meth := k7m1) (c := k7c1) (by decide +kernel) rfl rfl rfl (by decide +kernel)
set_option maxRecDepth 65536 in
theorem w_c2 : (Jvm.Cond.code ({ cls := "java/lang/String", name := "<init>", desc := "([CIILjava/lang/Void;)V" } : Jvm.MethodName) jdk_42_method_149_code (6 : Nat) (Option.none : Option Jvm.ClassFile.FieldType)).before args0 about1 = true := code_word (m := ⟨7, 4⟩) (meth := k7m4) (c := k7c4) (by decide +kernel) rfl rfl rfl (by decide +kernel)
set_option maxRecDepth 65536 in
theorem w_c3 : (Jvm.Cond.code ({ cls := "java/lang/Object", name := "<init>", desc := "()V" } : Jvm.MethodName) object_method_1_code (1 : Nat) (Option.none : Option Jvm.ClassFile.FieldType)).before args0 about1 = true := code_word (m := ⟨0, 0⟩) (meth := k0m0) (c := k0c0) (by decide +kernel) rfl rfl rfl (by decide +kernel)
set_option maxRecDepth 65536 in
theorem w_c4 : (Jvm.Cond.code ({ cls := "com/example/svyazka/svyazka/http/Syntax", name := "isFieldValue", desc := "(Ljava/lang/String;)Z" } : Jvm.MethodName) prog_27_method_3_code (3 : Nat) (Option.some Jvm.ClassFile.FieldType.boolean)).before args0 about1 = true := code_word (m := ⟨8, 1⟩) (meth := k8m1) (c := k8c1) (by decide +kernel) rfl rfl rfl (by decide +kernel)
set_option maxRecDepth 65536 in
theorem w_c5 : (Jvm.Cond.code ({ cls := "java/lang/String", name := "length", desc := "()I" } : Jvm.MethodName) jdk_42_method_54_code (1 : Nat) (Option.some Jvm.ClassFile.FieldType.int)).before args0 about1 = true := code_word (m := ⟨7, 2⟩) (meth := k7m2) (c := k7c2) (by decide +kernel) rfl rfl rfl (by decide +kernel)
set_option maxRecDepth 65536 in
theorem w_c6 : (Jvm.Cond.code ({ cls := "java/lang/String", name := "coder", desc := "()B" } : Jvm.MethodName) jdk_42_method_152_code (1 : Nat) (Option.some Jvm.ClassFile.FieldType.byte)).before args0 about1 = true := code_word (m := ⟨7, 5⟩) (meth := k7m5) (c := k7c5) (by decide +kernel) rfl rfl rfl (by decide +kernel)
set_option maxRecDepth 65536 in
theorem w_c7 : (Jvm.Cond.code ({ cls := "java/lang/StringUTF16", name := "compress", desc := "([CII)[B" } : Jvm.MethodName) jdk_52_method_16_code (6 : Nat) (Option.some (Jvm.ClassFile.FieldType.array Jvm.ClassFile.FieldType.byte))).before args0 about1 = true := code_word (m := ⟨9, 8⟩) (meth := k9m8) (c := k9c8) (by decide +kernel) rfl rfl rfl (by decide +kernel)
set_option maxRecDepth 65536 in
theorem w_c8 : (Jvm.Cond.code ({ cls := "java/lang/StringUTF16", name := "compress", desc := "([CI[BII)I" } : Jvm.MethodName) jdk_52_method_21_code (7 : Nat) (Option.some Jvm.ClassFile.FieldType.int)).before args0 about1 = true := code_word (m := ⟨9, 9⟩) (meth := k9m9) (c := k9c9) (by decide +kernel) rfl rfl rfl (by decide +kernel)
set_option maxRecDepth 65536 in
theorem w_c9 : (Jvm.Cond.code ({ cls := "java/lang/StringUTF16", name := "coderFromArrayLen", desc := "([BI)B" } : Jvm.MethodName) jdk_52_method_15_code (2 : Nat) (Option.some Jvm.ClassFile.FieldType.byte)).before args0 about1 = true := code_word (m := ⟨9, 7⟩) (meth := k9m7) (c := k9c7) (by decide +kernel) rfl rfl rfl (by decide +kernel)
set_option maxRecDepth 65536 in
theorem w_c10 : (Jvm.Cond.code ({ cls := "com/example/svyazka/svyazka/http/SyntaxIsFieldValuePinLaw", name := "ok", desc := "(C)Z" } : Jvm.MethodName) method_2_code (1 : Nat) (Option.some Jvm.ClassFile.FieldType.boolean)).before args0 about1 = true := code_word (m := ⟨1, 1⟩) (meth := k1m1) (c := k1c1) (by decide +kernel) rfl rfl rfl (by decide +kernel)
set_option maxRecDepth 65536 in
theorem w_c11 : (Jvm.Cond.code ({ cls := "java/lang/String", name := "charAt", desc := "(I)C" } : Jvm.MethodName) jdk_42_method_56_code (2 : Nat) (Option.some Jvm.ClassFile.FieldType.char)).before args0 about1 = true := code_word (m := ⟨7, 3⟩) (meth := k7m3) (c := k7c3) (by decide +kernel) rfl rfl rfl (by decide +kernel)
set_option maxRecDepth 65536 in
theorem w_c12 : (Jvm.Cond.code ({ cls := "java/lang/String", name := "isLatin1", desc := "()Z" } : Jvm.MethodName) jdk_42_method_154_code (1 : Nat) (Option.some Jvm.ClassFile.FieldType.boolean)).before args0 about1 = true := code_word (m := ⟨7, 6⟩) (meth := k7m6) (c := k7c6) (by decide +kernel) rfl rfl rfl (by decide +kernel)
set_option maxRecDepth 65536 in
theorem w_c13 : (Jvm.Cond.code ({ cls := "java/lang/StringLatin1", name := "charAt", desc := "([BI)C" } : Jvm.MethodName) jdk_43_method_2_code (2 : Nat) (Option.some Jvm.ClassFile.FieldType.char)).before args0 about1 = true := code_word (m := ⟨10, 1⟩) (meth := k10m1) (c := k10c1) (by decide +kernel) rfl rfl rfl (by decide +kernel)
set_option maxRecDepth 65536 in
theorem w_c14 : (Jvm.Cond.code ({ cls := "java/lang/String", name := "checkIndex", desc := "(II)V" } : Jvm.MethodName) jdk_42_method_155_code (2 : Nat) (Option.none : Option Jvm.ClassFile.FieldType)).before args0 about1 = true := code_word (m := ⟨7, 7⟩) (meth := k7m7) (c := k7c7) (by decide +kernel) rfl rfl rfl (by decide +kernel)
set_option maxRecDepth 65536 in
theorem w_c15 : (Jvm.Cond.code ({ cls := "jdk/internal/util/Preconditions", name := "checkIndex", desc := "(IILjava/util/function/BiFunction;)I" } : Jvm.MethodName) jdk_41_method_11_code (3 : Nat) (Option.some Jvm.ClassFile.FieldType.int)).before args0 about1 = true := code_word (m := ⟨11, 1⟩) (meth := k11m1) (c := k11c1) (by decide +kernel) rfl rfl rfl (by decide +kernel)
set_option maxRecDepth 65536 in
theorem w_c16 : (Jvm.Cond.code ({ cls := "java/lang/StringUTF16", name := "toBytes", desc := "([CII)[B" } : Jvm.MethodName) jdk_52_method_14_code (5 : Nat) (Option.some (Jvm.ClassFile.FieldType.array Jvm.ClassFile.FieldType.byte))).before args0 about1 = true := code_word (m := ⟨9, 6⟩) (meth := k9m6) (c := k9c6) (by decide +kernel) rfl rfl rfl (by decide +kernel)
set_option maxRecDepth 65536 in
theorem w_c17 : (Jvm.Cond.code ({ cls := "java/lang/StringUTF16", name := "newBytesFor", desc := "(I)[B" } : Jvm.MethodName) jdk_52_method_2_code (1 : Nat) (Option.some (Jvm.ClassFile.FieldType.array Jvm.ClassFile.FieldType.byte))).before args0 about1 = true := code_word (m := ⟨9, 1⟩) (meth := k9m1) (c := k9c1) (by decide +kernel) rfl rfl rfl (by decide +kernel)
set_option maxRecDepth 65536 in
theorem w_c18 : (Jvm.Cond.code ({ cls := "java/lang/StringUTF16", name := "newBytesLength", desc := "(I)I" } : Jvm.MethodName) jdk_52_method_3_code (1 : Nat) (Option.some Jvm.ClassFile.FieldType.int)).before args0 about1 = true := code_word (m := ⟨9, 2⟩) (meth := k9m2) (c := k9c2) (by decide +kernel) rfl rfl rfl (by decide +kernel)
set_option maxRecDepth 65536 in
theorem w_c19 : (Jvm.Cond.code ({ cls := "java/lang/StringUTF16", name := "putChar", desc := "([BII)V" } : Jvm.MethodName) jdk_52_method_4_code (3 : Nat) (Option.none : Option Jvm.ClassFile.FieldType)).before args0 about1 = true := code_word (m := ⟨9, 3⟩) (meth := k9m3) (c := k9c3) (by decide +kernel) rfl rfl rfl (by decide +kernel)
set_option maxRecDepth 65536 in
theorem w_c20 : (Jvm.Cond.code ({ cls := "java/lang/StringUTF16", name := "getChar", desc := "([BI)C" } : Jvm.MethodName) jdk_52_method_5_code (2 : Nat) (Option.some Jvm.ClassFile.FieldType.char)).before args0 about1 = true := code_word (m := ⟨9, 4⟩) (meth := k9m4) (c := k9c4) (by decide +kernel) rfl rfl rfl (by decide +kernel)
set_option maxRecDepth 65536 in
theorem w_c21 : (Jvm.Cond.code ({ cls := "java/lang/StringUTF16", name := "charAt", desc := "([BI)C" } : Jvm.MethodName) jdk_52_method_83_code (2 : Nat) (Option.some Jvm.ClassFile.FieldType.char)).before args0 about1 = true := code_word (m := ⟨9, 10⟩) (meth := k9m10) (c := k9c10) (by decide +kernel) rfl rfl rfl (by decide +kernel)
set_option maxRecDepth 65536 in
theorem w_c22 : (Jvm.Cond.code ({ cls := "java/lang/StringUTF16", name := "checkIndex", desc := "(I[B)V" } : Jvm.MethodName) jdk_52_method_91_code (2 : Nat) (Option.none : Option Jvm.ClassFile.FieldType)).before args0 about1 = true := code_word (m := ⟨9, 11⟩) (meth := k9m11) (c := k9c11) (by decide +kernel) rfl rfl rfl (by decide +kernel)
set_option maxRecDepth 65536 in
theorem w_c23 : (Jvm.Cond.code ({ cls := "java/lang/StringUTF16", name := "length", desc := "([B)I" } : Jvm.MethodName) jdk_52_method_6_code (1 : Nat) (Option.some Jvm.ClassFile.FieldType.int)).before args0 about1 = true := code_word (m := ⟨9, 5⟩) (meth := k9m5) (c := k9c5) (by decide +kernel) rfl rfl rfl (by decide +kernel)
def codes1 : List Jvm.Cond := [Jvm.Cond.code x code maxLocals ret, Jvm.Cond.code ({ cls := "java/lang/String", name := "<init>", desc := "([C)V" } : Jvm.MethodName) jdk_42_method_3_code (2 : Nat) (Option.none : Option Jvm.ClassFile.FieldType), Jvm.Cond.code ({ cls := "java/lang/String", name := "<init>", desc := "([CIILjava/lang/Void;)V" } : Jvm.MethodName) jdk_42_method_149_code (6 : Nat) (Option.none : Option Jvm.ClassFile.FieldType), Jvm.Cond.code ({ cls := "java/lang/Object", name := "<init>", desc := "()V" } : Jvm.MethodName) object_method_1_code (1 : Nat) (Option.none : Option Jvm.ClassFile.FieldType), Jvm.Cond.code ({ cls := "com/example/svyazka/svyazka/http/Syntax", name := "isFieldValue", desc := "(Ljava/lang/String;)Z" } : Jvm.MethodName) prog_27_method_3_code (3 : Nat) (Option.some Jvm.ClassFile.FieldType.boolean), Jvm.Cond.code ({ cls := "java/lang/String", name := "length", desc := "()I" } : Jvm.MethodName) jdk_42_method_54_code (1 : Nat) (Option.some Jvm.ClassFile.FieldType.int), Jvm.Cond.code ({ cls := "java/lang/String", name := "coder", desc := "()B" } : Jvm.MethodName) jdk_42_method_152_code (1 : Nat) (Option.some Jvm.ClassFile.FieldType.byte), Jvm.Cond.code ({ cls := "java/lang/StringUTF16", name := "compress", desc := "([CII)[B" } : Jvm.MethodName) jdk_52_method_16_code (6 : Nat) (Option.some (Jvm.ClassFile.FieldType.array Jvm.ClassFile.FieldType.byte)), Jvm.Cond.code ({ cls := "java/lang/StringUTF16", name := "compress", desc := "([CI[BII)I" } : Jvm.MethodName) jdk_52_method_21_code (7 : Nat) (Option.some Jvm.ClassFile.FieldType.int), Jvm.Cond.code ({ cls := "java/lang/StringUTF16", name := "coderFromArrayLen", desc := "([BI)B" } : Jvm.MethodName) jdk_52_method_15_code (2 : Nat) (Option.some Jvm.ClassFile.FieldType.byte), Jvm.Cond.code ({ cls := "com/example/svyazka/svyazka/http/SyntaxIsFieldValuePinLaw", name := "ok", desc := "(C)Z" } : Jvm.MethodName) method_2_code (1 : Nat) (Option.some Jvm.ClassFile.FieldType.boolean), Jvm.Cond.code ({ cls := "java/lang/String", name := "charAt", desc := "(I)C" } : Jvm.MethodName) jdk_42_method_56_code (2 : Nat) (Option.some Jvm.ClassFile.FieldType.char), Jvm.Cond.code ({ cls := "java/lang/String", name := "isLatin1", desc := "()Z" } : Jvm.MethodName) jdk_42_method_154_code (1 : Nat) (Option.some Jvm.ClassFile.FieldType.boolean), Jvm.Cond.code ({ cls := "java/lang/StringLatin1", name := "charAt", desc := "([BI)C" } : Jvm.MethodName) jdk_43_method_2_code (2 : Nat) (Option.some Jvm.ClassFile.FieldType.char), Jvm.Cond.code ({ cls := "java/lang/String", name := "checkIndex", desc := "(II)V" } : Jvm.MethodName) jdk_42_method_155_code (2 : Nat) (Option.none : Option Jvm.ClassFile.FieldType), Jvm.Cond.code ({ cls := "jdk/internal/util/Preconditions", name := "checkIndex", desc := "(IILjava/util/function/BiFunction;)I" } : Jvm.MethodName) jdk_41_method_11_code (3 : Nat) (Option.some Jvm.ClassFile.FieldType.int), Jvm.Cond.code ({ cls := "java/lang/StringUTF16", name := "toBytes", desc := "([CII)[B" } : Jvm.MethodName) jdk_52_method_14_code (5 : Nat) (Option.some (Jvm.ClassFile.FieldType.array Jvm.ClassFile.FieldType.byte)), Jvm.Cond.code ({ cls := "java/lang/StringUTF16", name := "newBytesFor", desc := "(I)[B" } : Jvm.MethodName) jdk_52_method_2_code (1 : Nat) (Option.some (Jvm.ClassFile.FieldType.array Jvm.ClassFile.FieldType.byte)), Jvm.Cond.code ({ cls := "java/lang/StringUTF16", name := "newBytesLength", desc := "(I)I" } : Jvm.MethodName) jdk_52_method_3_code (1 : Nat) (Option.some Jvm.ClassFile.FieldType.int), Jvm.Cond.code ({ cls := "java/lang/StringUTF16", name := "putChar", desc := "([BII)V" } : Jvm.MethodName) jdk_52_method_4_code (3 : Nat) (Option.none : Option Jvm.ClassFile.FieldType), Jvm.Cond.code ({ cls := "java/lang/StringUTF16", name := "getChar", desc := "([BI)C" } : Jvm.MethodName) jdk_52_method_5_code (2 : Nat) (Option.some Jvm.ClassFile.FieldType.char), Jvm.Cond.code ({ cls := "java/lang/StringUTF16", name := "charAt", desc := "([BI)C" } : Jvm.MethodName) jdk_52_method_83_code (2 : Nat) (Option.some Jvm.ClassFile.FieldType.char), Jvm.Cond.code ({ cls := "java/lang/StringUTF16", name := "checkIndex", desc := "(I[B)V" } : Jvm.MethodName) jdk_52_method_91_code (2 : Nat) (Option.none : Option Jvm.ClassFile.FieldType), Jvm.Cond.code ({ cls := "java/lang/StringUTF16", name := "length", desc := "([B)I" } : Jvm.MethodName) jdk_52_method_6_code (1 : Nat) (Option.some Jvm.ClassFile.FieldType.int)]
set_option maxRecDepth 65536 in
theorem codes_eq : words1.filter isCode = codes1 := rfl
theorem w_codes : ∀ c ∈ words1.filter isCode, c.before args0 about1 = true := by
  rw [codes_eq]
  intro c hc
  simp only [codes1, List.mem_cons, List.not_mem_nil, or_false] at hc
  rcases hc with rfl | rfl | rfl | rfl | rfl | rfl | rfl | rfl | rfl | rfl | rfl | rfl | rfl | rfl | rfl | rfl | rfl | rfl | rfl | rfl | rfl | rfl | rfl | rfl
  · exact w_c0
  · exact w_c1
  · exact w_c2
  · exact w_c3
  · exact w_c4
  · exact w_c5
  · exact w_c6
  · exact w_c7
  · exact w_c8
  · exact w_c9
  · exact w_c10
  · exact w_c11
  · exact w_c12
  · exact w_c13
  · exact w_c14
  · exact w_c15
  · exact w_c16
  · exact w_c17
  · exact w_c18
  · exact w_c19
  · exact w_c20
  · exact w_c21
  · exact w_c22
  · exact w_c23
set_option maxRecDepth 65536 in
theorem w_t1 : (words1.take 24).all (fun c => isCode c || c.before args0 about1) = true := by decide +kernel
set_option maxRecDepth 65536 in
theorem w_t2 : ((words1.drop 24).take 24).all (fun c => isCode c || c.before args0 about1) = true := by decide +kernel
set_option maxRecDepth 65536 in
theorem w_t3 : (((words1.drop 24).drop 24).take 24).all (fun c => isCode c || c.before args0 about1) = true := by decide +kernel
set_option maxRecDepth 65536 in
theorem w_t4 : ((((words1.drop 24).drop 24).drop 24).take 24).all (fun c => isCode c || c.before args0 about1) = true := by decide +kernel
set_option maxRecDepth 65536 in
theorem w_t5 : ((((words1.drop 24).drop 24).drop 24).drop 24).all (fun c => isCode c || c.before args0 about1) = true := by decide +kernel
theorem w_tables : (allAtoms (Jvm.Cond.code x code maxLocals ret :: tables_1)).before args0 about1 = true := by
  rw [allAtoms_all]
  show words1.all (fun c => c.before args0 about1) = true
  refine all_split ?_ w_codes
  rw [← List.take_append_drop 24 words1, List.all_append, w_t1, ← List.take_append_drop 24 (words1.drop 24), List.all_append, w_t2, ← List.take_append_drop 24 ((words1.drop 24).drop 24), List.all_append, w_t3, ← List.take_append_drop 24 (((words1.drop 24).drop 24).drop 24), List.all_append, w_t4, w_t5]
  rfl
set_option maxRecDepth 65536 in
theorem w_rest : rest_1_c.before args0 about1 = true := by decide +kernel
set_option maxRecDepth 65536 in
theorem w_case : (Jvm.Cond.and given_1 narrow_1).before args0 about1 = true := by decide +kernel
set_option maxRecDepth 65536 in
theorem w_consts : constsHeld consts_1 about1 := Jvm.Lit.constsHeldB_iff.mp (by decide +kernel)
theorem w_applies : (headSpec (Jvm.Cond.code x code maxLocals ret :: tables_1) room_1).applies x e0.platform about1 = true :=
  (Spec.applies_iff w_frames).mpr ⟨w_running, w_runnable, w_alone, w_named, w_hears, w_ripe, w_room, w_tables⟩
theorem atStart : AtStart classFile x code maxLocals ret World_1 tables_1 room_1 Calls_1 rest_1 Pre_1 launch0 p0 e0 about1 theMethod args0 below0 :=
  ⟨lists_1, trivial, launch0.admits_env _ _ _, launch0.least_env, fairChoices_fair.cas, fairChoices_fair.clock, w_frames, w_args, w_heap, w_applies, ⟨w_consts, trivial⟩, w_rest, w_case⟩
end start1
theorem witness_1 : WitnessClaimed_1 := ⟨start1.p0, start1.e0, start1.about1, start1.theMethod, start1.args0, start1.below0, start1.atStart⟩
end Jvm.Pilot.@@N@@
