import JvmDerived
import JvmDerived.Pilot.@@N@@Statement
import JvmDerived.Pilot.@@N@@Code
set_option linter.unusedVariables false
set_option linter.unusedSimpArgs false
namespace Jvm.RoadKit
open Sem ClassFile Op Lib Jvm.Stand Jvm.Free Jvm.LawKit
section New
variable {p : Program} {l : Launch} {e : Env} {R : Room} {s : State} {m : MethodId} {args : Array Value} {below : List Frame} {meth : Method} {c : Code} {T : State} {locs : List Loc} {cells slots : Nat}
theorem retI (X : Stand p l e R s m args below meth c T locs cells slots) (hx : p.tables.exec = Jvm.exec) {pc : Nat} {Ls : Array Slot} {z : Int32} {rest : List Value} (hret : meth.sig.returnType = some .int) (hd : decode c.code pc = .ok (.ireturn, 1)) {fs : List Frame}
    (hl : ∀ (f : JFrame) (acts : List Action), f.method = m → f.locked = none → f.entered = [] → (doReturn e (T.setTop f) acts (some (.int z))).1 = T.setFrames fs) : Steps p.tables e below (T.setTop (mkF m pc Ls (.int z :: rest))) (T.setFrames fs) := by
  have hm' : T.vm.method? m = some meth := X.method'
  have hn : narrow .int (.int z) = .int z := rfl
  show Steps p.tables e below (T.setTop { method := m, pc := pc, locals := Ls, stack := _ :: rest, locked := none }) _
  jvm_step X.here [X.here.top, hx, hd, hm', hret, hn]
  first | (intro acts; rw [hl _ acts rfl rfl rfl]) | rw [hl _ _ rfl rfl rfl]
  exact Steps.refl _
end New
end Jvm.RoadKit
namespace Jvm.Pilot.@@N@@
open Jvm Jvm.ClassFile Sem Op Lib Jvm.Free Jvm.Stand Jvm.LawKit Jvm.RoadKit Bundle Jvm.Pilot.@@N@@.Jvm.D
/-! own: the rest of a run, told backwards; the contract of a body; steps and calls -/
section OwnBase
variable {p : Program} {l : Launch} {e : Env} {R : Room} {s : State} {m : MethodId} {args : Array Value} {below : List Frame} {meth : Method} {c : Code} {T : State} {locs : List Loc} {cells slots : Nat} {Z : State} {a0 : Array Value} {h : Heap} {bs : ByteArray} {pc q : Nat} {Ls : Array Slot} {S : List Value} {G : State → Prop}
abbrev PQ := Option Value → Heap → List Loc → Prop
def Cl (p : Program) (e : Env) (below : List Frame) (G : State → Prop) : Prop := ∀ (A B : State), (∀ t, Steps p.tables e below B t → Steps p.tables e below A t) → G B → G A
def Go (p : Program) (e : Env) (below : List Frame) (s : State) (C N : Nat) (Q : PQ) (A : State) : Prop :=
  ∃ s₂ o, Steps p.tables e below A s₂ ∧ s₂.status = .running ∧ Ended s₂ below o ∧ ∃ v L, o = .returned v ∧ Q v s₂.heap L ∧ FrameEnd s o s₂ L C N
theorem Go.cl {C N : Nat} {Q : PQ} : Cl p e below (Go p e below s C N Q) := fun A B k ⟨s2, o, h1, r⟩ => ⟨s2, o, k _ h1, r⟩
theorem Go.with {C N : Nat} {Q : PQ} {A : State} (k : Cl p e below (Go p e below s C N Q) → Go p e below s C N Q A) : Go p e below s C N Q A := k Go.cl
theorem Go.leave (X : Stand p l e R s m args below meth c T locs cells slots) {v : Option Value} (hv : meth.sig.returnType = none → v = none) (hlk : meth.locks = false) {C N : Nat} {Q : PQ} (hc : cells ≤ C) (hn : slots ≤ N) (q : Q v T.heap locs) {A : State}
    (k : ∀ fs, (∀ (f : JFrame) (acts : List Action), f.method = m → f.locked = none → f.entered = [] → (doReturn e (T.setTop f) acts v).1 = T.setFrames fs) → Steps p.tables e below A (T.setFrames fs)) : Go p e below s C N Q A := by
  obtain ⟨fs, hr, hrun, hended, hW, hsame⟩ := X.leave hv hlk
  exact ⟨_, _, k fs hr, hrun, hended, _, _, rfl, q, ⟨_, rfl⟩, hW, hsame.mono hc hn⟩
theorem Go.retI (X : Stand p l e R s m args below meth c T locs cells slots) (hx : p.tables.exec = Jvm.exec) (hby : c.code = bs) (hlk : meth.locks = false) {z : Int32} (hret : meth.sig.returnType = some .int) (hd : decode bs pc = .ok (.ireturn, 1)) {C N : Nat} {Q : PQ} (hc : cells ≤ C) (hn : slots ≤ N) (q : Q (some (.int z)) T.heap locs) :
    Go p e below s C N Q (T.setTop (mkF m pc Ls (.int z :: S))) :=
  Go.leave X (fun h => by rw [hret] at h; cases h) hlk hc hn q fun _ hr => Jvm.RoadKit.retI X hx hret (hb hby hd) hr
theorem Go.retN (X : Stand p l e R s m args below meth c T locs cells slots) (hx : p.tables.exec = Jvm.exec) (hby : c.code = bs) (hlk : meth.locks = false) {z : Int32} {t : FieldType} (hret : meth.sig.returnType = some t) (ht : t = .boolean ∨ t = .byte ∨ t = .char ∨ t = .short) (hd : decode bs pc = .ok (.ireturn, 1)) {C N : Nat} {Q : PQ} (hc : cells ≤ C) (hn : slots ≤ N) (hz : nar t z = z) (q : Q (some (.int z)) T.heap locs) :
    Go p e below s C N Q (T.setTop (mkF m pc Ls (.int z :: S))) :=
  Go.leave X (fun h => by rw [hret] at h; cases h) hlk hc hn q fun _ hr => Jvm.RoadKit.retN X hx hret ht (hb hby hd) (by rw [hz]; exact hr)
theorem Go.retV (X : Stand p l e R s m args below meth c T locs cells slots) (hx : p.tables.exec = Jvm.exec) (hby : c.code = bs) (hlk : meth.locks = false) (hret : meth.sig.returnType = none) (hd : decode bs pc = .ok (.return_, 1)) {C N : Nat} {Q : PQ} (hc : cells ≤ C) (hn : slots ≤ N) (q : Q none T.heap locs) :
    Go p e below s C N Q (T.setTop (mkF m pc Ls [])) :=
  Go.leave X (fun _ => rfl) hlk hc hn q fun _ hr => X.returnOut hx hret (hb hby hd) hr
theorem Go.retO (X : Stand p l e R s m args below meth c T locs cells slots) (hx : p.tables.exec = Jvm.exec) (hby : c.code = bs) (hlk : meth.locks = false) {w : Value} {t : FieldType} {i : Instr} (hret : meth.sig.returnType = some t) (hnw : narrow t w = w)
    (hi : (i = .ireturn ∧ (t = .int ∨ t = .boolean ∨ t = .byte ∨ t = .char ∨ t = .short) ∧ ∃ z, w = .int z) ∨ (i = .lreturn ∧ t = .long ∧ ∃ z, w = .long z) ∨ (i = .dreturn ∧ t = .double ∧ ∃ z, w = .double z) ∨ (i = .freturn ∧ t = .float ∧ ∃ z, w = .float z) ∨ (i = .areturn ∧ t.isReference = true ∧ w.isRef = true))
    (hd : decode bs pc = .ok (i, 1)) {C N : Nat} {Q : PQ} (hc : cells ≤ C) (hn : slots ≤ N) (q : Q (some w) T.heap locs) :
    Go p e below s C N Q (T.setTop (mkF m pc Ls (w :: S))) :=
  Go.leave X (fun h => by rw [hret] at h; cases h) hlk hc hn q fun _ hr => Jvm.RoadKit.retOut X hx hret hnw hi (hb hby hd) hr
/-- two roads meet: at a state like X's, at the heap h, with the frame g' -/
def Mx (X : Stand p l e R s m args below meth c T locs cells slots) (h : Heap) (g' : JFrame) (A : State) : Prop := ∃ T', Stand p l e R s m args below meth c T' locs cells slots ∧ T'.heap = h ∧ ∀ t, Steps p.tables e below (T'.setTop g') t → Steps p.tables e below A t
theorem Mx.cl {X : Stand p l e R s m args below meth c T locs cells slots} {g' : JFrame} : Cl p e below (Mx X h g') := fun A B k ⟨T', X', e', st⟩ => ⟨T', X', e', fun t r => k _ (st t r)⟩
theorem Mx.with {X : Stand p l e R s m args below meth c T locs cells slots} {g' : JFrame} {A : State} (k : Cl p e below (Mx X h g') → Mx X h g' A) : Mx X h g' A := k Mx.cl
theorem Mx.here {X : Stand p l e R s m args below meth c T locs cells slots} {g' : JFrame} {T' : State} (X' : Stand p l e R s m args below meth c T' locs cells slots) (e' : T'.heap = h) : Mx X h g' (T'.setTop g') := ⟨T', X', e', fun _ k => k⟩
theorem own_nar01 {z : Int32} (h : z = 0 ∨ z = 1) : nar .boolean z = z := by rcases h with rfl | rfl <;> rfl
theorem own_px (X : Stand p l e R s m args below meth c T (locs ++ []) (cells + 0) (slots + 0)) : Stand p l e R s m args below meth c T locs cells slots := by rw [List.append_nil] at X; exact X
theorem k_go (K : Cl p e below G) {A B : State} (st : ∀ t, Steps p.tables e below B t → Steps p.tables e below A t) (hr : G B) : G A := K A B st hr
theorem k_some (K : Cl p e below G) {w : Value} (hr : G (T.setTop (mkF m q Ls (w :: S)))) : G (T.setTop (mkF m q Ls ((some w).toList ++ S))) := hr
theorem k_none (K : Cl p e below G) (hr : G (T.setTop (mkF m q Ls S))) : G (T.setTop (mkF m q Ls ((none : Option Value).toList ++ S))) := hr
theorem own_irem (x y : Int32) : x - (x / y) * y = x % y := by
  apply Int32.toInt_inj.mp
  have h1 := Int32.le_toInt (x % y)
  have h2 := Int32.toInt_lt (x % y)
  rw [Int32.toInt_sub, Int32.toInt_mul, Int32.toInt_div, Int.bmod_mul_bmod, Int.sub_bmod_bmod, Int.mul_comm (x.toInt.tdiv y.toInt), ← Int.tmod_def, ← Int32.toInt_mod]
  exact Int.bmod_eq_of_le_mul_two (by omega) (by omega)
theorem m_iload (K : Cl p e below G) (h : At T m c below) (hx : p.tables.exec = Jvm.exec) (hby : c.code = bs) {k : Nat} {v : Int32} (hd : decode bs pc = .ok (.iload k, 2)) (hl : Ls[k]? = some (.val (.int v))) (hq : pc + 2 = q) (hr : G (T.setTop (mkF m q Ls (.int v :: S)))) : G (T.setTop (mkF m pc Ls S)) := by subst hq; exact K _ _ (fun t k => Jvm.Free.XS.iload h hx rfl (hb hby hd) hl k) hr
theorem m_iloadN (K : Cl p e below G) (h : At T m c below) (hx : p.tables.exec = Jvm.exec) (hby : c.code = bs) {k : Fin 4} {v : Int32} (hd : decode bs pc = .ok (.iload_n k, 1)) (hl : Ls[k.val]? = some (.val (.int v))) (hq : pc + 1 = q) (hr : G (T.setTop (mkF m q Ls (.int v :: S)))) : G (T.setTop (mkF m pc Ls S)) := by subst hq; exact K _ _ (fun t k => Jvm.Free.XS.iloadN h hx rfl (hb hby hd) hl k) hr
theorem m_istore (K : Cl p e below G) (h : At T m c below) (hx : p.tables.exec = Jvm.exec) (hby : c.code = bs) {k : Nat} {v : Int32} (l' : Array Slot) (hd : decode bs pc = .ok (.istore k, 2)) (hl : storeLocals Ls k (.int v) = some l') (hq : pc + 2 = q) (hr : G (T.setTop (mkF m q l' S))) : G (T.setTop (mkF m pc Ls (.int v :: S))) := by subst hq; exact K _ _ (fun t k => Jvm.Free.XS.istore h hx rfl (hb hby hd) rfl hl k) hr
theorem m_istoreN (K : Cl p e below G) (h : At T m c below) (hx : p.tables.exec = Jvm.exec) (hby : c.code = bs) {k : Fin 4} {v : Int32} (l' : Array Slot) (hd : decode bs pc = .ok (.istore_n k, 1)) (hl : storeLocals Ls k.val (.int v) = some l') (hq : pc + 1 = q) (hr : G (T.setTop (mkF m q l' S))) : G (T.setTop (mkF m pc Ls (.int v :: S))) := by subst hq; exact K _ _ (fun t k => Jvm.Free.XS.istoreN h hx rfl (hb hby hd) rfl hl k) hr
theorem m_lload (K : Cl p e below G) (h : At T m c below) (hx : p.tables.exec = Jvm.exec) (hby : c.code = bs) {k : Nat} {v : Int64} (hd : decode bs pc = .ok (.lload k, 2)) (hl : Ls[k]? = some (.val (.long v))) (hq : pc + 2 = q) (hr : G (T.setTop (mkF m q Ls (.long v :: S)))) : G (T.setTop (mkF m pc Ls S)) := by subst hq; exact K _ _ (fun t k => Jvm.Free.XS.lload h hx rfl (hb hby hd) hl k) hr
theorem m_lloadN (K : Cl p e below G) (h : At T m c below) (hx : p.tables.exec = Jvm.exec) (hby : c.code = bs) {k : Fin 4} {v : Int64} (hd : decode bs pc = .ok (.lload_n k, 1)) (hl : Ls[k.val]? = some (.val (.long v))) (hq : pc + 1 = q) (hr : G (T.setTop (mkF m q Ls (.long v :: S)))) : G (T.setTop (mkF m pc Ls S)) := by subst hq; exact K _ _ (fun t k => Jvm.Free.XS.lloadN h hx rfl (hb hby hd) hl k) hr
theorem m_lstore (K : Cl p e below G) (h : At T m c below) (hx : p.tables.exec = Jvm.exec) (hby : c.code = bs) {k : Nat} {v : Int64} (l' : Array Slot) (hd : decode bs pc = .ok (.lstore k, 2)) (hl : storeLocals Ls k (.long v) = some l') (hq : pc + 2 = q) (hr : G (T.setTop (mkF m q l' S))) : G (T.setTop (mkF m pc Ls (.long v :: S))) := by subst hq; exact K _ _ (fun t k => Jvm.Free.XS.lstore h hx rfl (hb hby hd) rfl hl k) hr
theorem m_lstoreN (K : Cl p e below G) (h : At T m c below) (hx : p.tables.exec = Jvm.exec) (hby : c.code = bs) {k : Fin 4} {v : Int64} (l' : Array Slot) (hd : decode bs pc = .ok (.lstore_n k, 1)) (hl : storeLocals Ls k.val (.long v) = some l') (hq : pc + 1 = q) (hr : G (T.setTop (mkF m q l' S))) : G (T.setTop (mkF m pc Ls (.long v :: S))) := by subst hq; exact K _ _ (fun t k => Jvm.Free.XS.lstoreN h hx rfl (hb hby hd) rfl hl k) hr
theorem m_dload (K : Cl p e below G) (h : At T m c below) (hx : p.tables.exec = Jvm.exec) (hby : c.code = bs) {k : Nat} {v : UInt64} (hd : decode bs pc = .ok (.dload k, 2)) (hl : Ls[k]? = some (.val (.double v))) (hq : pc + 2 = q) (hr : G (T.setTop (mkF m q Ls (.double v :: S)))) : G (T.setTop (mkF m pc Ls S)) := by subst hq; exact K _ _ (fun t k => Jvm.Free.XS.dload h hx rfl (hb hby hd) hl k) hr
theorem m_dloadN (K : Cl p e below G) (h : At T m c below) (hx : p.tables.exec = Jvm.exec) (hby : c.code = bs) {k : Fin 4} {v : UInt64} (hd : decode bs pc = .ok (.dload_n k, 1)) (hl : Ls[k.val]? = some (.val (.double v))) (hq : pc + 1 = q) (hr : G (T.setTop (mkF m q Ls (.double v :: S)))) : G (T.setTop (mkF m pc Ls S)) := by subst hq; exact K _ _ (fun t k => Jvm.Free.XS.dloadN h hx rfl (hb hby hd) hl k) hr
theorem m_dstore (K : Cl p e below G) (h : At T m c below) (hx : p.tables.exec = Jvm.exec) (hby : c.code = bs) {k : Nat} {v : UInt64} (l' : Array Slot) (hd : decode bs pc = .ok (.dstore k, 2)) (hl : storeLocals Ls k (.double v) = some l') (hq : pc + 2 = q) (hr : G (T.setTop (mkF m q l' S))) : G (T.setTop (mkF m pc Ls (.double v :: S))) := by subst hq; exact K _ _ (fun t k => Jvm.Free.XS.dstore h hx rfl (hb hby hd) rfl hl k) hr
theorem m_dstoreN (K : Cl p e below G) (h : At T m c below) (hx : p.tables.exec = Jvm.exec) (hby : c.code = bs) {k : Fin 4} {v : UInt64} (l' : Array Slot) (hd : decode bs pc = .ok (.dstore_n k, 1)) (hl : storeLocals Ls k.val (.double v) = some l') (hq : pc + 1 = q) (hr : G (T.setTop (mkF m q l' S))) : G (T.setTop (mkF m pc Ls (.double v :: S))) := by subst hq; exact K _ _ (fun t k => Jvm.Free.XS.dstoreN h hx rfl (hb hby hd) rfl hl k) hr
theorem m_aload (K : Cl p e below G) (h : At T m c below) (hx : p.tables.exec = Jvm.exec) (hby : c.code = bs) {k : Nat} {v : Value} (hd : decode bs pc = .ok (.aload k, 2)) (hl : Ls[k]? = some (.val v)) (hv : v.isRef = true) (hq : pc + 2 = q) (hr : G (T.setTop (mkF m q Ls (v :: S)))) : G (T.setTop (mkF m pc Ls S)) := by subst hq; exact K _ _ (fun t k => Jvm.Free.XS.aload h hx rfl (hb hby hd) hl hv k) hr
theorem m_aloadN (K : Cl p e below G) (h : At T m c below) (hx : p.tables.exec = Jvm.exec) (hby : c.code = bs) {k : Fin 4} {v : Value} (hd : decode bs pc = .ok (.aload_n k, 1)) (hl : Ls[k.val]? = some (.val v)) (hv : v.isRef = true) (hq : pc + 1 = q) (hr : G (T.setTop (mkF m q Ls (v :: S)))) : G (T.setTop (mkF m pc Ls S)) := by subst hq; exact K _ _ (fun t k => Jvm.Free.XS.aloadN h hx rfl (hb hby hd) hl hv k) hr
theorem m_astore (K : Cl p e below G) (h : At T m c below) (hx : p.tables.exec = Jvm.exec) (hby : c.code = bs) {k : Nat} {v : Value} (l' : Array Slot) (hd : decode bs pc = .ok (.astore k, 2)) (hv : v.isRef = true) (hl : storeLocals Ls k v = some l') (hq : pc + 2 = q) (hr : G (T.setTop (mkF m q l' S))) : G (T.setTop (mkF m pc Ls (v :: S))) := by subst hq; exact K _ _ (fun t k => Jvm.Free.XS.astore h hx rfl (hb hby hd) rfl hv hl k) hr
theorem m_astoreN (K : Cl p e below G) (h : At T m c below) (hx : p.tables.exec = Jvm.exec) (hby : c.code = bs) {k : Fin 4} {v : Value} (l' : Array Slot) (hd : decode bs pc = .ok (.astore_n k, 1)) (hv : v.isRef = true) (hl : storeLocals Ls k.val v = some l') (hq : pc + 1 = q) (hr : G (T.setTop (mkF m q l' S))) : G (T.setTop (mkF m pc Ls (v :: S))) := by subst hq; exact K _ _ (fun t k => Jvm.Free.XS.astoreN h hx rfl (hb hby hd) rfl hv hl k) hr
theorem m_iconst (K : Cl p e below G) (h : At T m c below) (hx : p.tables.exec = Jvm.exec) (hby : c.code = bs) {i : Int} (z : Int32) (hd : decode bs pc = .ok (.iconst i, 1)) (hz : Int32.ofInt i = z) (hq : pc + 1 = q) (hr : G (T.setTop (mkF m q Ls (.int z :: S)))) : G (T.setTop (mkF m pc Ls S)) := by subst hq; subst hz; exact K _ _ (fun t k => Jvm.Free.XS.iconst h hx rfl (hb hby hd) k) hr
theorem m_bipush (K : Cl p e below G) (h : At T m c below) (hx : p.tables.exec = Jvm.exec) (hby : c.code = bs) {i : Int} (z : Int32) (hd : decode bs pc = .ok (.bipush i, 2)) (hz : (Int8.ofInt i).toInt32 = z) (hq : pc + 2 = q) (hr : G (T.setTop (mkF m q Ls (.int z :: S)))) : G (T.setTop (mkF m pc Ls S)) := by subst hq; subst hz; exact K _ _ (fun t k => Jvm.Free.XS.bipush h hx rfl (hb hby hd) k) hr
theorem m_sipush (K : Cl p e below G) (h : At T m c below) (hx : p.tables.exec = Jvm.exec) (hby : c.code = bs) {i : Int} (z : Int32) (hd : decode bs pc = .ok (.sipush i, 3)) (hz : (Int16.ofInt i).toInt32 = z) (hq : pc + 3 = q) (hr : G (T.setTop (mkF m q Ls (.int z :: S)))) : G (T.setTop (mkF m pc Ls S)) := by subst hq; subst hz; exact K _ _ (fun t k => Jvm.Free.XS.sipush h hx rfl (hb hby hd) k) hr
theorem m_lconst (K : Cl p e below G) (h : At T m c below) (hx : p.tables.exec = Jvm.exec) (hby : c.code = bs) {k : Fin 2} (z : Int64) (hd : decode bs pc = .ok (.lconst k, 1)) (hz : Int64.ofNat k.val = z) (hq : pc + 1 = q) (hr : G (T.setTop (mkF m q Ls (.long z :: S)))) : G (T.setTop (mkF m pc Ls S)) := by subst hq; subst hz; exact K _ _ (fun t k => Jvm.Free.XS.lconst h hx rfl (hb hby hd) k) hr
theorem m_null (K : Cl p e below G) (h : At T m c below) (hx : p.tables.exec = Jvm.exec) (hby : c.code = bs)  (hd : decode bs pc = .ok (.aconst_null, 1)) (hq : pc + 1 = q) (hr : G (T.setTop (mkF m q Ls (.null :: S)))) : G (T.setTop (mkF m pc Ls S)) := by subst hq; exact K _ _ (fun t k => Jvm.Free.XS.aconstNull h hx rfl (hb hby hd) k) hr
theorem m_iadd (K : Cl p e below G) (h : At T m c below) (hx : p.tables.exec = Jvm.exec) (hby : c.code = bs) {x y : Int32} (z : Int32) (hd : decode bs pc = .ok (.iadd, 1)) (hz : x + y = z) (hq : pc + 1 = q) (hr : G (T.setTop (mkF m q Ls (.int z :: S)))) : G (T.setTop (mkF m pc Ls (.int y :: .int x :: S))) := by subst hq; subst hz; exact K _ _ (fun t k => Jvm.Free.XS.iadd h hx rfl (hb hby hd) rfl k) hr
theorem m_isub (K : Cl p e below G) (h : At T m c below) (hx : p.tables.exec = Jvm.exec) (hby : c.code = bs) {x y : Int32} (z : Int32) (hd : decode bs pc = .ok (.isub, 1)) (hz : x - y = z) (hq : pc + 1 = q) (hr : G (T.setTop (mkF m q Ls (.int z :: S)))) : G (T.setTop (mkF m pc Ls (.int y :: .int x :: S))) := by subst hq; subst hz; exact K _ _ (fun t k => Jvm.Free.XS.isub h hx rfl (hb hby hd) rfl k) hr
theorem m_imul (K : Cl p e below G) (h : At T m c below) (hx : p.tables.exec = Jvm.exec) (hby : c.code = bs) {x y : Int32} (z : Int32) (hd : decode bs pc = .ok (.imul, 1)) (hz : x * y = z) (hq : pc + 1 = q) (hr : G (T.setTop (mkF m q Ls (.int z :: S)))) : G (T.setTop (mkF m pc Ls (.int y :: .int x :: S))) := by subst hq; subst hz; exact K _ _ (fun t k => Jvm.Free.XS.imul h hx rfl (hb hby hd) rfl k) hr
theorem m_iand (K : Cl p e below G) (h : At T m c below) (hx : p.tables.exec = Jvm.exec) (hby : c.code = bs) {x y : Int32} (z : Int32) (hd : decode bs pc = .ok (.iand, 1)) (hz : x &&& y = z) (hq : pc + 1 = q) (hr : G (T.setTop (mkF m q Ls (.int z :: S)))) : G (T.setTop (mkF m pc Ls (.int y :: .int x :: S))) := by subst hq; subst hz; exact K _ _ (fun t k => Jvm.Free.XS.iand h hx rfl (hb hby hd) rfl k) hr
theorem m_ior (K : Cl p e below G) (h : At T m c below) (hx : p.tables.exec = Jvm.exec) (hby : c.code = bs) {x y : Int32} (z : Int32) (hd : decode bs pc = .ok (.ior, 1)) (hz : x ||| y = z) (hq : pc + 1 = q) (hr : G (T.setTop (mkF m q Ls (.int z :: S)))) : G (T.setTop (mkF m pc Ls (.int y :: .int x :: S))) := by subst hq; subst hz; exact K _ _ (fun t k => Jvm.Free.XS.ior h hx rfl (hb hby hd) rfl k) hr
theorem m_ixor (K : Cl p e below G) (h : At T m c below) (hx : p.tables.exec = Jvm.exec) (hby : c.code = bs) {x y : Int32} (z : Int32) (hd : decode bs pc = .ok (.ixor, 1)) (hz : x ^^^ y = z) (hq : pc + 1 = q) (hr : G (T.setTop (mkF m q Ls (.int z :: S)))) : G (T.setTop (mkF m pc Ls (.int y :: .int x :: S))) := by subst hq; subst hz; exact K _ _ (fun t k => Jvm.Free.XS.ixor h hx rfl (hb hby hd) rfl k) hr
theorem m_idiv (K : Cl p e below G) (h : At T m c below) (hx : p.tables.exec = Jvm.exec) (hby : c.code = bs) {x y : Int32} (z : Int32) (hd : decode bs pc = .ok (.idiv, 1)) (hy : y ≠ 0) (hz : x / y = z) (hq : pc + 1 = q) (hr : G (T.setTop (mkF m q Ls (.int z :: S)))) : G (T.setTop (mkF m pc Ls (.int y :: .int x :: S))) := by subst hq; subst hz; exact K _ _ (fun t k => Jvm.Free.XS.idiv h hx rfl (hb hby hd) rfl hy k) hr
theorem m_ladd (K : Cl p e below G) (h : At T m c below) (hx : p.tables.exec = Jvm.exec) (hby : c.code = bs) {x y : Int64} (z : Int64) (hd : decode bs pc = .ok (.ladd, 1)) (hz : x + y = z) (hq : pc + 1 = q) (hr : G (T.setTop (mkF m q Ls (.long z :: S)))) : G (T.setTop (mkF m pc Ls (.long y :: .long x :: S))) := by subst hq; subst hz; exact K _ _ (fun t k => Jvm.Free.XS.ladd h hx rfl (hb hby hd) rfl k) hr
theorem m_lsub (K : Cl p e below G) (h : At T m c below) (hx : p.tables.exec = Jvm.exec) (hby : c.code = bs) {x y : Int64} (z : Int64) (hd : decode bs pc = .ok (.lsub, 1)) (hz : x - y = z) (hq : pc + 1 = q) (hr : G (T.setTop (mkF m q Ls (.long z :: S)))) : G (T.setTop (mkF m pc Ls (.long y :: .long x :: S))) := by subst hq; subst hz; exact K _ _ (fun t k => Jvm.Free.XS.lsub h hx rfl (hb hby hd) rfl k) hr
theorem m_lmul (K : Cl p e below G) (h : At T m c below) (hx : p.tables.exec = Jvm.exec) (hby : c.code = bs) {x y : Int64} (z : Int64) (hd : decode bs pc = .ok (.lmul, 1)) (hz : x * y = z) (hq : pc + 1 = q) (hr : G (T.setTop (mkF m q Ls (.long z :: S)))) : G (T.setTop (mkF m pc Ls (.long y :: .long x :: S))) := by subst hq; subst hz; exact K _ _ (fun t k => Jvm.Free.XS.lmul h hx rfl (hb hby hd) rfl k) hr
theorem m_land (K : Cl p e below G) (h : At T m c below) (hx : p.tables.exec = Jvm.exec) (hby : c.code = bs) {x y : Int64} (z : Int64) (hd : decode bs pc = .ok (.land, 1)) (hz : x &&& y = z) (hq : pc + 1 = q) (hr : G (T.setTop (mkF m q Ls (.long z :: S)))) : G (T.setTop (mkF m pc Ls (.long y :: .long x :: S))) := by subst hq; subst hz; exact K _ _ (fun t k => Jvm.Free.XS.land h hx rfl (hb hby hd) rfl k) hr
theorem m_lor (K : Cl p e below G) (h : At T m c below) (hx : p.tables.exec = Jvm.exec) (hby : c.code = bs) {x y : Int64} (z : Int64) (hd : decode bs pc = .ok (.lor, 1)) (hz : x ||| y = z) (hq : pc + 1 = q) (hr : G (T.setTop (mkF m q Ls (.long z :: S)))) : G (T.setTop (mkF m pc Ls (.long y :: .long x :: S))) := by subst hq; subst hz; exact K _ _ (fun t k => Jvm.Free.XS.lor h hx rfl (hb hby hd) rfl k) hr
theorem m_lxor (K : Cl p e below G) (h : At T m c below) (hx : p.tables.exec = Jvm.exec) (hby : c.code = bs) {x y : Int64} (z : Int64) (hd : decode bs pc = .ok (.lxor, 1)) (hz : x ^^^ y = z) (hq : pc + 1 = q) (hr : G (T.setTop (mkF m q Ls (.long z :: S)))) : G (T.setTop (mkF m pc Ls (.long y :: .long x :: S))) := by subst hq; subst hz; exact K _ _ (fun t k => Jvm.Free.XS.lxor h hx rfl (hb hby hd) rfl k) hr
theorem m_ldiv (K : Cl p e below G) (h : At T m c below) (hx : p.tables.exec = Jvm.exec) (hby : c.code = bs) {x y : Int64} (z : Int64) (hd : decode bs pc = .ok (.ldiv, 1)) (hy : y ≠ 0) (hz : x / y = z) (hq : pc + 1 = q) (hr : G (T.setTop (mkF m q Ls (.long z :: S)))) : G (T.setTop (mkF m pc Ls (.long y :: .long x :: S))) := by subst hq; subst hz; exact K _ _ (fun t k => Jvm.Free.XS.ldiv h hx rfl (hb hby hd) rfl hy k) hr
theorem m_irem (K : Cl p e below G) (h : At T m c below) (hx : p.tables.exec = Jvm.exec) (hby : c.code = bs) {x y : Int32} (z : Int32) (hd : decode bs pc = .ok (.irem, 1)) (hy : y ≠ 0) (hz : x % y = z) (hq : pc + 1 = q) (hr : G (T.setTop (mkF m q Ls (.int z :: S)))) : G (T.setTop (mkF m pc Ls (.int y :: .int x :: S))) := by subst hq; subst hz; rw [← own_irem] at hr; exact K _ _ (fun t k => Jvm.Free.XS.irem h hx rfl (hb hby hd) rfl hy k) hr
theorem m_lrem (K : Cl p e below G) (h : At T m c below) (hx : p.tables.exec = Jvm.exec) (hby : c.code = bs) {x y : Int64} (z : Int64) (hd : decode bs pc = .ok (.lrem, 1)) (hy : y ≠ 0) (hz : x - (x / y) * y = z) (hq : pc + 1 = q) (hr : G (T.setTop (mkF m q Ls (.long z :: S)))) : G (T.setTop (mkF m pc Ls (.long y :: .long x :: S))) := by subst hq; subst hz; exact K _ _ (fun t k => Jvm.Free.XS.lrem h hx rfl (hb hby hd) rfl hy k) hr
theorem m_ishl (K : Cl p e below G) (h : At T m c below) (hx : p.tables.exec = Jvm.exec) (hby : c.code = bs) {x : Int32} {y : Int32} (z : Int32) (hd : decode bs pc = .ok (.ishl, 1)) (hz : x <<< (y &&& 31) = z) (hq : pc + 1 = q) (hr : G (T.setTop (mkF m q Ls (.int z :: S)))) : G (T.setTop (mkF m pc Ls (.int y :: .int x :: S))) := by subst hq; subst hz; exact K _ _ (fun t k => Jvm.Free.XS.ishl h hx rfl (hb hby hd) rfl k) hr
theorem m_ishr (K : Cl p e below G) (h : At T m c below) (hx : p.tables.exec = Jvm.exec) (hby : c.code = bs) {x : Int32} {y : Int32} (z : Int32) (hd : decode bs pc = .ok (.ishr, 1)) (hz : x >>> (y &&& 31) = z) (hq : pc + 1 = q) (hr : G (T.setTop (mkF m q Ls (.int z :: S)))) : G (T.setTop (mkF m pc Ls (.int y :: .int x :: S))) := by subst hq; subst hz; exact K _ _ (fun t k => Jvm.Free.XS.ishr h hx rfl (hb hby hd) rfl k) hr
theorem m_iushr (K : Cl p e below G) (h : At T m c below) (hx : p.tables.exec = Jvm.exec) (hby : c.code = bs) {x : Int32} {y : Int32} (z : Int32) (hd : decode bs pc = .ok (.iushr, 1)) (hz : (x.toUInt32 >>> (y &&& 31).toUInt32).toInt32 = z) (hq : pc + 1 = q) (hr : G (T.setTop (mkF m q Ls (.int z :: S)))) : G (T.setTop (mkF m pc Ls (.int y :: .int x :: S))) := by subst hq; subst hz; exact K _ _ (fun t k => Jvm.Free.XS.iushr h hx rfl (hb hby hd) rfl k) hr
theorem m_lshl (K : Cl p e below G) (h : At T m c below) (hx : p.tables.exec = Jvm.exec) (hby : c.code = bs) {x : Int64} {y : Int32} (z : Int64) (hd : decode bs pc = .ok (.lshl, 1)) (hz : x <<< (y &&& 0x3f).toInt64 = z) (hq : pc + 1 = q) (hr : G (T.setTop (mkF m q Ls (.long z :: S)))) : G (T.setTop (mkF m pc Ls (.int y :: .long x :: S))) := by subst hq; subst hz; exact K _ _ (fun t k => Jvm.Free.XS.lshl h hx rfl (hb hby hd) rfl k) hr
theorem m_lshr (K : Cl p e below G) (h : At T m c below) (hx : p.tables.exec = Jvm.exec) (hby : c.code = bs) {x : Int64} {y : Int32} (z : Int64) (hd : decode bs pc = .ok (.lshr, 1)) (hz : x >>> (y &&& 0x3f).toInt64 = z) (hq : pc + 1 = q) (hr : G (T.setTop (mkF m q Ls (.long z :: S)))) : G (T.setTop (mkF m pc Ls (.int y :: .long x :: S))) := by subst hq; subst hz; exact K _ _ (fun t k => Jvm.Free.XS.lshr h hx rfl (hb hby hd) rfl k) hr
theorem m_lushr (K : Cl p e below G) (h : At T m c below) (hx : p.tables.exec = Jvm.exec) (hby : c.code = bs) {x : Int64} {y : Int32} (z : Int64) (hd : decode bs pc = .ok (.lushr, 1)) (hz : (x.toUInt64 >>> (y &&& 0x3f).toInt64.toUInt64).toInt64 = z) (hq : pc + 1 = q) (hr : G (T.setTop (mkF m q Ls (.long z :: S)))) : G (T.setTop (mkF m pc Ls (.int y :: .long x :: S))) := by subst hq; subst hz; exact K _ _ (fun t k => Jvm.Free.XS.lushr h hx rfl (hb hby hd) rfl k) hr
theorem m_ineg (K : Cl p e below G) (h : At T m c below) (hx : p.tables.exec = Jvm.exec) (hby : c.code = bs) {x : Int32} (z : Int32) (hd : decode bs pc = .ok (.ineg, 1)) (hz : -x = z) (hq : pc + 1 = q) (hr : G (T.setTop (mkF m q Ls (.int z :: S)))) : G (T.setTop (mkF m pc Ls (.int x :: S))) := by subst hq; subst hz; exact K _ _ (fun t k => Jvm.Free.XS.ineg h hx rfl (hb hby hd) rfl k) hr
theorem m_lneg (K : Cl p e below G) (h : At T m c below) (hx : p.tables.exec = Jvm.exec) (hby : c.code = bs) {x : Int64} (z : Int64) (hd : decode bs pc = .ok (.lneg, 1)) (hz : -x = z) (hq : pc + 1 = q) (hr : G (T.setTop (mkF m q Ls (.long z :: S)))) : G (T.setTop (mkF m pc Ls (.long x :: S))) := by subst hq; subst hz; exact K _ _ (fun t k => Jvm.Free.XS.lneg h hx rfl (hb hby hd) rfl k) hr
theorem m_i2l (K : Cl p e below G) (h : At T m c below) (hx : p.tables.exec = Jvm.exec) (hby : c.code = bs) {x : Int32} (z : Int64) (hd : decode bs pc = .ok (.i2l, 1)) (hz : x.toInt64 = z) (hq : pc + 1 = q) (hr : G (T.setTop (mkF m q Ls (.long z :: S)))) : G (T.setTop (mkF m pc Ls (.int x :: S))) := by subst hq; subst hz; exact K _ _ (fun t k => Jvm.Free.XS.i2l h hx rfl (hb hby hd) rfl k) hr
theorem m_l2i (K : Cl p e below G) (h : At T m c below) (hx : p.tables.exec = Jvm.exec) (hby : c.code = bs) {x : Int64} (z : Int32) (hd : decode bs pc = .ok (.l2i, 1)) (hz : x.toInt32 = z) (hq : pc + 1 = q) (hr : G (T.setTop (mkF m q Ls (.int z :: S)))) : G (T.setTop (mkF m pc Ls (.long x :: S))) := by subst hq; subst hz; exact K _ _ (fun t k => Jvm.Free.XS.l2i h hx rfl (hb hby hd) rfl k) hr
theorem m_i2b (K : Cl p e below G) (h : At T m c below) (hx : p.tables.exec = Jvm.exec) (hby : c.code = bs) {x : Int32} (z : Int32) (hd : decode bs pc = .ok (.i2b, 1)) (hz : x.toInt8.toInt32 = z) (hq : pc + 1 = q) (hr : G (T.setTop (mkF m q Ls (.int z :: S)))) : G (T.setTop (mkF m pc Ls (.int x :: S))) := by subst hq; subst hz; exact K _ _ (fun t k => Jvm.Free.XS.i2b h hx rfl (hb hby hd) rfl k) hr
theorem m_i2s (K : Cl p e below G) (h : At T m c below) (hx : p.tables.exec = Jvm.exec) (hby : c.code = bs) {x : Int32} (z : Int32) (hd : decode bs pc = .ok (.i2s, 1)) (hz : x.toInt16.toInt32 = z) (hq : pc + 1 = q) (hr : G (T.setTop (mkF m q Ls (.int z :: S)))) : G (T.setTop (mkF m pc Ls (.int x :: S))) := by subst hq; subst hz; exact K _ _ (fun t k => Jvm.Free.XS.i2s h hx rfl (hb hby hd) rfl k) hr
theorem m_i2c (K : Cl p e below G) (h : At T m c below) (hx : p.tables.exec = Jvm.exec) (hby : c.code = bs) {x : Int32} (z : Int32) (hd : decode bs pc = .ok (.i2c, 1)) (hz : x.toUInt32.toUInt16.toUInt32.toInt32 = z) (hq : pc + 1 = q) (hr : G (T.setTop (mkF m q Ls (.int z :: S)))) : G (T.setTop (mkF m pc Ls (.int x :: S))) := by subst hq; subst hz; exact K _ _ (fun t k => Jvm.Free.XS.i2c h hx rfl (hb hby hd) rfl k) hr
theorem m_lcmp (K : Cl p e below G) (h : At T m c below) (hx : p.tables.exec = Jvm.exec) (hby : c.code = bs) {x y : Int64} (z : Int32) (hd : decode bs pc = .ok (.lcmp, 1)) (hz : lcmpW x y = z) (hq : pc + 1 = q) (hr : G (T.setTop (mkF m q Ls (.int z :: S)))) : G (T.setTop (mkF m pc Ls (.long y :: .long x :: S))) := by subst hq; subst hz; exact K _ _ (fun t k => Jvm.Free.XS.lcmp h hx rfl (hb hby hd) rfl k) hr
theorem m_iinc (K : Cl p e below G) (h : At T m c below) (hx : p.tables.exec = Jvm.exec) (hby : c.code = bs) {k : Nat} {i : Int} {x : Int32} (l' : Array Slot) (hd : decode bs pc = .ok (.iinc k i, 3)) (hl : Ls[k]? = some (.val (.int x))) (hl' : storeLocals Ls k (.int (x + Int32.ofInt i)) = some l') (hq : pc + 3 = q) (hr : G (T.setTop (mkF m q l' S))) : G (T.setTop (mkF m pc Ls S)) := by subst hq; exact K _ _ (fun t k => Jvm.Free.XS.iinc h hx rfl (hb hby hd) hl hl' k) hr
theorem m_dup (K : Cl p e below G) (h : At T m c below) (hx : p.tables.exec = Jvm.exec) (hby : c.code = bs) {v : Value} (hd : decode bs pc = .ok (.dup, 1)) (hv : v.category = 1) (hq : pc + 1 = q) (hr : G (T.setTop (mkF m q Ls (v :: v :: S)))) : G (T.setTop (mkF m pc Ls (v :: S))) := by subst hq; exact K _ _ (fun t k => Jvm.Free.XS.dup h hx rfl (hb hby hd) rfl hv k) hr
theorem m_dupX1 (K : Cl p e below G) (h : At T m c below) (hx : p.tables.exec = Jvm.exec) (hby : c.code = bs) {v w : Value} (hd : decode bs pc = .ok (.dup_x1, 1)) (hv : v.category = 1) (hw : w.category = 1) (hq : pc + 1 = q) (hr : G (T.setTop (mkF m q Ls (v :: w :: v :: S)))) : G (T.setTop (mkF m pc Ls (v :: w :: S))) := by subst hq; exact K _ _ (fun t k => Jvm.Free.XS.dupX1 h hx rfl (hb hby hd) rfl hv hw k) hr
theorem m_dup2 (K : Cl p e below G) (h : At T m c below) (hx : p.tables.exec = Jvm.exec) (hby : c.code = bs) {v w : Value} (hd : decode bs pc = .ok (.dup2, 1)) (hv : v.category = 1) (hw : w.category = 1) (hq : pc + 1 = q) (hr : G (T.setTop (mkF m q Ls (v :: w :: v :: w :: S)))) : G (T.setTop (mkF m pc Ls (v :: w :: S))) := by subst hq; refine K _ _ (fun t k => ?_) hr; cases v <;> cases w <;> simp [Value.category] at hv hw <;> (jvm_step h [h.top, hx, hb hby hd, Value.category]; exact k)
theorem m_dup2L (K : Cl p e below G) (h : At T m c below) (hx : p.tables.exec = Jvm.exec) (hby : c.code = bs) {v : Int64} (hd : decode bs pc = .ok (.dup2, 1)) (hq : pc + 1 = q) (hr : G (T.setTop (mkF m q Ls (.long v :: .long v :: S)))) : G (T.setTop (mkF m pc Ls (.long v :: S))) := by subst hq; refine K _ _ (fun t k => ?_) hr; jvm_step h [h.top, hx, hb hby hd, Value.category]; exact k
theorem m_pop (K : Cl p e below G) (h : At T m c below) (hx : p.tables.exec = Jvm.exec) (hby : c.code = bs) {v : Value} (hd : decode bs pc = .ok (.pop, 1)) (hv : v.category = 1) (hq : pc + 1 = q) (hr : G (T.setTop (mkF m q Ls S))) : G (T.setTop (mkF m pc Ls (v :: S))) := by subst hq; exact K _ _ (fun t k => Jvm.Free.XS.pop h hx rfl (hb hby hd) rfl hv k) hr
theorem m_goto (K : Cl p e below G) (h : At T m c below) (hx : p.tables.exec = Jvm.exec) (hby : c.code = bs)  {o : Int} (hd : decode bs pc = .ok (.goto o, 3)) (ho : 0 ≤ (pc : Int) + o) (hq : ((pc : Int) + o).toNat = q) (hr : G (T.setTop (mkF m q Ls S))) : G (T.setTop (mkF m pc Ls S)) := by exact K _ _ (fun t k => Jvm.Free.XS.goto h hx rfl rfl (hb hby hd) ho hq k) hr
theorem m_ifY (K : Cl p e below G) (h : At T m c below) (hx : p.tables.exec = Jvm.exec) (hby : c.code = bs) {cd : ClassFile.Cond} {x : Int32} {o : Int} (hd : decode bs pc = .ok (.ifCond cd o, 3)) (hc : ifCond.holds cd x = true) (ho : 0 ≤ (pc : Int) + o) (hq : ((pc : Int) + o).toNat = q) (hr : G (T.setTop (mkF m q Ls S))) : G (T.setTop (mkF m pc Ls (.int x :: S))) := by exact K _ _ (fun t k => Jvm.Free.XS.ifYes h hx rfl rfl (hb hby hd) rfl hc ho hq k) hr
theorem m_icmpY (K : Cl p e below G) (h : At T m c below) (hx : p.tables.exec = Jvm.exec) (hby : c.code = bs) {cd : ClassFile.Cond} {x y : Int32} {o : Int} (hd : decode bs pc = .ok (.if_icmp cd o, 3)) (hc : if_icmp.holds cd x y = true) (ho : 0 ≤ (pc : Int) + o) (hq : ((pc : Int) + o).toNat = q) (hr : G (T.setTop (mkF m q Ls S))) : G (T.setTop (mkF m pc Ls (.int y :: .int x :: S))) := by exact K _ _ (fun t k => Jvm.Free.XS.icmpYes h hx rfl rfl (hb hby hd) rfl hc ho hq k) hr
theorem m_nullY (K : Cl p e below G) (h : At T m c below) (hx : p.tables.exec = Jvm.exec) (hby : c.code = bs)  {o : Int} (hd : decode bs pc = .ok (.ifnull o, 3)) (ho : 0 ≤ (pc : Int) + o) (hq : ((pc : Int) + o).toNat = q) (hr : G (T.setTop (mkF m q Ls S))) : G (T.setTop (mkF m pc Ls (.null :: S))) := by exact K _ _ (fun t k => Jvm.Free.XS.ifnullYes h hx rfl rfl (hb hby hd) rfl ho hq k) hr
theorem m_nnY (K : Cl p e below G) (h : At T m c below) (hx : p.tables.exec = Jvm.exec) (hby : c.code = bs) {a : Addr} {o : Int} (hd : decode bs pc = .ok (.ifnonnull o, 3)) (ho : 0 ≤ (pc : Int) + o) (hq : ((pc : Int) + o).toNat = q) (hr : G (T.setTop (mkF m q Ls S))) : G (T.setTop (mkF m pc Ls (.ref a :: S))) := by exact K _ _ (fun t k => Jvm.Free.XS.ifnonnullYes h hx rfl rfl (hb hby hd) rfl ho hq k) hr
theorem m_ifN (K : Cl p e below G) (h : At T m c below) (hx : p.tables.exec = Jvm.exec) (hby : c.code = bs) {cd : ClassFile.Cond} {o : Int} {x : Int32} (hd : decode bs pc = .ok (.ifCond cd o, 3)) (hc : ifCond.holds cd x = false) (hq : pc + 3 = q) (hr : G (T.setTop (mkF m q Ls S))) : G (T.setTop (mkF m pc Ls (.int x :: S))) := by subst hq; exact K _ _ (fun t k => Jvm.Free.XS.ifNo h hx rfl (hb hby hd) rfl hc k) hr
theorem m_icmpN (K : Cl p e below G) (h : At T m c below) (hx : p.tables.exec = Jvm.exec) (hby : c.code = bs) {cd : ClassFile.Cond} {o : Int} {x y : Int32} (hd : decode bs pc = .ok (.if_icmp cd o, 3)) (hc : if_icmp.holds cd x y = false) (hq : pc + 3 = q) (hr : G (T.setTop (mkF m q Ls S))) : G (T.setTop (mkF m pc Ls (.int y :: .int x :: S))) := by subst hq; exact K _ _ (fun t k => Jvm.Free.XS.icmpNo h hx rfl (hb hby hd) rfl hc k) hr
theorem m_nullN (K : Cl p e below G) (h : At T m c below) (hx : p.tables.exec = Jvm.exec) (hby : c.code = bs) {o : Int} {a : Addr} (hd : decode bs pc = .ok (.ifnull o, 3)) (hq : pc + 3 = q) (hr : G (T.setTop (mkF m q Ls S))) : G (T.setTop (mkF m pc Ls (.ref a :: S))) := by subst hq; exact K _ _ (fun t k => Jvm.Free.XS.ifnullNo h hx rfl (hb hby hd) rfl k) hr
theorem m_nnN (K : Cl p e below G) (h : At T m c below) (hx : p.tables.exec = Jvm.exec) (hby : c.code = bs) {o : Int} (hd : decode bs pc = .ok (.ifnonnull o, 3)) (hq : pc + 3 = q) (hr : G (T.setTop (mkF m q Ls S))) : G (T.setTop (mkF m pc Ls (.null :: S))) := by subst hq; exact K _ _ (fun t k => Jvm.Free.XS.ifnonnullNo h hx rfl (hb hby hd) rfl k) hr
theorem m_acmp (K : Cl p e below G) (X : Stand p l e R s m args below meth c T locs cells slots) (hx : p.tables.exec = Jvm.exec) (hby : c.code = bs) {cd : ACond} {x y : Value} {o : Int} (same : Bool) (hd : decode bs pc = .ok (.if_acmp cd o, 3)) (h1 : x.isRef = true) (h2 : y.isRef = true) (hs : decide (x = y) = same) (ho : 0 ≤ (pc : Int) + o) (hq : q = if acV cd same = true then ((pc : Int) + o).toNat else pc + 3) (hr : G (T.setTop (mkF m q Ls S))) : G (T.setTop (mkF m pc Ls (y :: x :: S))) := K _ _ (fun t k => Jvm.RoadKit.acmp (g := mkF m pc Ls (y :: x :: S)) X hx rfl h1 h2 rfl (hb hby hd) rfl hs ho hq k) hr
theorem m_ldc (K : Cl p e below G) (X : Stand p l e R s m args below meth c T locs cells slots) (hx : p.tables.exec = Jvm.exec) (hby : c.code = bs) (hZ : Z.Warmed39 s.vm) {own : String} {i : Nat} {v : Int32} (hown : s.vm.findClass own = some m.cls) (w : (Jvm.Cond.constant own i v).before a0 Z = true) (hd : decode bs pc = .ok (.ldc i, 2)) (hq : pc + 2 = q) (hr : G (T.setTop (mkF m q Ls (.int v :: S)))) : G (T.setTop (mkF m pc Ls S)) := by subst hq; exact K _ _ (fun t k => X.ldcInt hx hown (mvT hZ w) (g := mkF m pc Ls S) rfl (hb hby hd) _ k) hr
theorem m_ldcw (K : Cl p e below G) (X : Stand p l e R s m args below meth c T locs cells slots) (hx : p.tables.exec = Jvm.exec) (hby : c.code = bs) (hZ : Z.Warmed39 s.vm) {own : String} {i : Nat} {v : Int32} (hown : s.vm.findClass own = some m.cls) (w : (Jvm.Cond.constant own i v).before a0 Z = true) (hd : decode bs pc = .ok (.ldc_w i, 3)) (hq : pc + 3 = q) (hr : G (T.setTop (mkF m q Ls (.int v :: S)))) : G (T.setTop (mkF m pc Ls S)) := by subst hq; exact K _ _ (fun t k => X.ldcwInt hx hown (mvT hZ w) (g := mkF m pc Ls S) rfl (hb hby hd) _ k) hr
theorem m_ldc2 (K : Cl p e below G) (X : Stand p l e R s m args below meth c T locs cells slots) (hx : p.tables.exec = Jvm.exec) (hby : c.code = bs) (hZ : Z.Warmed39 s.vm) {own : String} {i : Nat} {v : Int64} (hown : s.vm.findClass own = some m.cls) (w : (Jvm.Cond.constantLong own i v).before a0 Z = true) (hd : decode bs pc = .ok (.ldc2_w i, 3)) (hq : pc + 3 = q) (hr : G (T.setTop (mkF m q Ls (.long v :: S)))) : G (T.setTop (mkF m pc Ls S)) := by subst hq; exact K _ _ (fun t k => X.ldc2Long hx hown (mvT hZ w) (g := mkF m pc Ls S) rfl (hb hby hd) _ k) hr
theorem k_getF (K : Cl p e below G) (X : Stand p l e R s m args below meth c T locs cells slots) (hx : p.tables.exec = Jvm.exec) (hby : c.code = bs) (hZ : Z.Warmed39 s.vm) {own R0 O n d host : String} {i : Nat} (hown : s.vm.findClass own = some m.cls) (w : (Jvm.Cond.fieldLink own i R0 n d).before a0 Z = true ∨ (Jvm.Cond.fieldLinkNest own i R0 n d host).before a0 Z = true) (via : Via Z R0 O n d) (eT : T.heap = h) {a : Addr} {v : Value} (F : Fld Z h a O n d v) (hd : decode bs pc = .ok (.getfield i, 3)) (hq : pc + 3 = q) (k : ∀ T', Stand p l e R s m args below meth c T' locs cells slots → T'.heap = h → G (T'.setTop (mkF m q Ls (v :: S)))) : G (T.setTop (mkF m pc Ls (.ref a :: S))) := by
  subst hq
  obtain ⟨T', X', e', st⟩ := getF X hx hZ hown w via eT F (g := mkF m pc Ls (.ref a :: S)) rfl rfl (hb hby hd)
  exact K _ _ st (k T' X' e')
theorem k_getS (K : Cl p e below G) (X : Stand p l e R s m args below meth c T locs cells slots) (hx : p.tables.exec = Jvm.exec) (hby : c.code = bs) (hZ : Z.Warmed39 s.vm) {own R0 O n d host : String} {i : Nat} (hown : s.vm.findClass own = some m.cls) (w : (Jvm.Cond.fieldLink own i R0 n d).before a0 Z = true ∨ (Jvm.Cond.fieldLinkNest own i R0 n d host).before a0 Z = true) (via : Via Z R0 O n d) (eT : T.heap = h) {v : Value} (F : Sta Z h O n d v) (hd : decode bs pc = .ok (.getstatic i, 3)) (hq : pc + 3 = q) (k : ∀ T', Stand p l e R s m args below meth c T' locs cells slots → T'.heap = h → G (T'.setTop (mkF m q Ls (v :: S)))) : G (T.setTop (mkF m pc Ls S)) := by
  subst hq
  obtain ⟨T', X', e', st⟩ := getS2 X hx hZ hown w via eT F (g := mkF m pc Ls S) rfl (hb hby hd)
  exact K _ _ st (k T' X' e')
theorem k_putF (K : Cl p e below G) (X : Stand p l e R s m args below meth c T locs cells slots) (hx : p.tables.exec = Jvm.exec) (hby : c.code = bs) (hZ : Z.Warmed39 s.vm) {own R0 O n d host C : String} {i kk : Nat} {ty : FieldType} (hown : s.vm.findClass own = some m.cls) (w : (Jvm.Cond.fieldLink own i R0 n d).before a0 Z = true ∨ (Jvm.Cond.fieldLinkNest own i R0 n d host).before a0 Z = true) (via : Via Z R0 O n d) (eT : T.heap = h) {a : Addr} {v old : Value} (F : Fld Z h a O n d old) (E : Exa Z h a C) (L : (Jvm.Cond.lays C O n d).before a0 Z = true ∨ ((Jvm.Cond.laysFinal C O n d).before a0 Z = true ∧ own = O ∧ meth.name = "<init>")) (wi : (Jvm.Cond.instantiable C kk).before a0 Z = true) (hty : parseFieldDescriptor d = some ty) (hn : narrow ty v = v) (hf : fits ty v = true) (hd : decode bs pc = .ok (.putfield i, 3)) (hq : pc + 3 = q)
    (k : ∀ T' h', Stand p l e R s m args below meth c T' (locs ++ [⟨a, Jvm.RoadKit.slotOf Z O n d⟩]) cells slots → T'.heap = h' → Wr h h' a (Jvm.RoadKit.slotOf Z O n d) v → G (T'.setTop (mkF m q Ls S))) : G (T.setTop (mkF m pc Ls (v :: .ref a :: S))) := by
  subst hq
  obtain ⟨T', h', X', e', W', st⟩ := putF X hx hZ hown w via eT F E L wi hty hn hf (g := mkF m pc Ls (v :: .ref a :: S)) rfl rfl (hb hby hd)
  exact K _ _ st (k T' h' X' e' W')
theorem k_newO (K : Cl p e below G) (X : Stand p l e R s m args below meth c T locs cells slots) (hx : p.tables.exec = Jvm.exec) (hby : c.code = bs) (hZ : Z.Warmed39 s.vm) {own C : String} {i n : Nat} (hown : s.vm.findClass own = some m.cls) (w : (Jvm.Cond.classLink own i C).before a0 Z = true) (wi : (Jvm.Cond.instantiable C n).before a0 Z = true) (wz : (Jvm.Cond.initialized C).before a0 Z = true) (eT : T.heap = h) (hd : decode bs pc = .ok (.new i, 3)) (hq : pc + 3 = q) (hc : cells + 1 ≤ R.cells) (hl : slots + n ≤ R.slots)
    (k : ∀ T' h' b, Stand p l e R s m args below meth c T' locs (cells + 1) (slots + n) → T'.heap = h' → Ext h h' → b = h.size → Exa Z h' b C → (∀ {O nm d : String} {ty : FieldType}, Laid Z a0 C O nm d → parseFieldDescriptor d = some ty → Fld Z h' b O nm d (defaultValue ty)) → G (T'.setTop (mkF m q Ls (.ref b :: S)))) : G (T.setTop (mkF m pc Ls S)) := by
  subst hq
  obtain ⟨T', h', X', e', E', A', D', -, st⟩ := newO X hx hZ hown w wi wz eT (g := mkF m pc Ls S) rfl (hb hby hd) hc hl
  exact K _ _ st (k T' h' _ X' e' E' rfl A' D')
theorem k_cast (K : Cl p e below G) (X : Stand p l e R s m args below meth c T locs cells slots) (hx : p.tables.exec = Jvm.exec) (hby : c.code = bs) (hZ : Z.Warmed39 s.vm) {own C : String} {i : Nat} (hown : s.vm.findClass own = some m.cls) (w : (Jvm.Cond.classLink own i C).before a0 Z = true) (eT : T.heap = h) {a : Addr} (I : Ins Z h a C true) (hd : decode bs pc = .ok (.checkcast i, 3)) (hq : pc + 3 = q) (k : ∀ T', Stand p l e R s m args below meth c T' locs cells slots → T'.heap = h → G (T'.setTop (mkF m q Ls (.ref a :: S)))) : G (T.setTop (mkF m pc Ls (.ref a :: S))) := by
  subst hq
  obtain ⟨T', X', e', st⟩ := castY X hx hZ hown w eT I (g := mkF m pc Ls (.ref a :: S)) rfl rfl (hb hby hd)
  exact K _ _ st (k T' X' e')
def Con (l : Launch) (Z : State) (y : MethodName) (bytes : ByteArray) (maxL : Nat) (ret : Option FieldType) (rm : Room) (ws : List Jvm.Cond) (as' : Array Value) (h : Heap) (Q : PQ) : Prop :=
  MetFree l y (head1 (Jvm.Cond.code y bytes maxL ret :: ws) rm) (fun a U => a = as' ∧ Z.Warmed39 U.vm ∧ U.heap = h) (fun _ _ _ _ _ => True) (fun _ U o U' => ∃ v L, o = .returned v ∧ Q v U'.heap L ∧ FrameEnd U o U' L rm.cells rm.slots)
theorem Con.of {y : MethodName} {bytes : ByteArray} {maxL : Nat} {ret : Option FieldType} {rm : Room} {ws : List Jvm.Cond} {as' : Array Value} {Q : PQ} (hpl : plainFor y = true) (Ls : Array Slot) (hef : ∀ m, entryFrame m as' maxL = mkF m 0 Ls [])
    (body : ∀ p e s m below meth c s₁, Cl p e below (Go p e below s rm.cells rm.slots Q) → p.tables.exec = Jvm.exec → c.code = bytes → c.maxLocals = maxL → s.vm.findClass y.cls = some m.cls → meth.name = y.name → meth.sig.returnType = ret → meth.locks = false → Z.Warmed39 s.vm → Stand p l e rm s m as' below meth c s₁ [] 0 0 → s₁.heap = h →
      Go p e below s rm.cells rm.slots Q (s₁.setTop (mkF m 0 Ls []))) : Con l Z y bytes maxL ret rm ws as' h Q := by
  refine MetFree.of_bodySF hpl hisR ?_
  intro p e s m args below meth c s₁ Bd hml0 hP hK
  obtain ⟨rfl, hZ, hh⟩ := hP
  have r := body p e s m below meth c s₁ Go.cl Bd.exec Bd.bytes hml0 (findClass_of_methodNamed Bd.named) (name_of_methodNamed Bd.named Bd.method).1 Bd.returns Bd.notSynchronized hZ (Stand.of_body Bd) (by rw [← hh, Bd.state]; rfl)
  rw [← hef m] at r
  exact r
theorem Con.back {y : MethodName} {bytes : ByteArray} {maxL : Nat} {ret : Option FieldType} {rm : Room} {as' : Array Value} {Q : PQ} {len W : Nat} (K : Con l Z y bytes maxL ret rm [] as' h Q)
    (hZ : Z.Warmed39 s.vm) (wc : (Jvm.Cond.code y bytes maxL ret).before a0 Z = true) (wz : (Jvm.Cond.initialized y.cls).before a0 Z = true) (hf : rm.frames + 1 ≤ R.frames) (hl : W + (maxL + 11) + rm.locals ≤ R.locals) :
    Back l R p e below s args y len W (fun A a => a = as' ∧ A.U.heap = h ∧ A.cells + rm.cells ≤ R.cells ∧ A.slots + rm.slots ≤ R.slots)
      (fun A _ v B => ∃ L, Q v B.U.heap L ∧ B.locs = A.locs ++ L ∧ B.cells = A.cells + rm.cells ∧ B.slots = A.slots + rm.slots) := backOf K hZ wc wz hf hl
theorem k_callS (K : Cl p e below G) (X : Stand p l e R s m args below meth c T locs cells slots) (hx : p.tables.exec = Jvm.exec) (hby : c.code = bs) (hZ : Z.Warmed39 s.vm) {own : String} {i : Nat} {y : MethodName} {bytes : ByteArray} {maxL : Nat} {ret : Option FieldType} {rm : Room} {Q : PQ} {as' : Array Value} {ps : List FieldType} {r : Option FieldType} (argsL rest : List Value) (hown : s.vm.findClass own = some m.cls) (w1 : (Jvm.Cond.methodLink own i y).before a0 Z = true) (w2 : (Jvm.Cond.static y).before a0 Z = true) (w3 : (Jvm.Cond.initialized y.cls).before a0 Z = true) (w4 : (Jvm.Cond.code y bytes maxL ret).before a0 Z = true)
    (C : Con l Z y bytes maxL ret rm [] as' h Q) (eT : T.heap = h) (has : argsL.toArray = as') (hs : S = argsL.reverse ++ rest) (hps : parseMethodDescriptor y.desc = some ⟨ps, r⟩) (hl : argsL.length = ps.length) (hd : decode bs pc = .ok (.invokestatic i, 3)) (hsz : Ls.size = c.maxLocals) (hq : pc + 3 = q) (hy : y.cls ≠ "java/lang/invoke/MethodHandle" ∧ y.cls ≠ "java/lang/invoke/VarHandle") (hf : rm.frames + 1 ≤ R.frames) (hlo : (rest.map fun v => v.category).sum + (maxL + 11) + rm.locals ≤ R.locals) (hc : cells + rm.cells ≤ R.cells) (hn : slots + rm.slots ≤ R.slots)
    (k : ∀ v T' L, Stand p l e R s m args below meth c T' (locs ++ L) (cells + rm.cells) (slots + rm.slots) → Q v T'.heap L → G (T'.setTop (mkF m q Ls (v.toList ++ rest)))) : G (T.setTop (mkF m pc Ls S)) := by
  subst has hs hq
  obtain ⟨v, _, ⟨T', L', k', n'⟩, -, X', ⟨Lc, hQ, l1, y1, z1⟩, st⟩ := Jvm.LawKit.callS X hx (y := y) hown (mvT hZ w1) (mvT hZ w2) (mvT hZ w3) (mvT hZ w4) hy (C.back (W := (rest.map fun v => v.category).sum) hZ w4 w3 hf hlo) (g := mkF m pc Ls (argsL.reverse ++ rest)) rfl hsz (argsL := argsL) (rest := rest) (lenOf hps hl) rfl (by show 2 * 0 + _ ≤ _; exact Nat.le_of_eq (Nat.zero_add _)) (hb hby hd) (fun _ _ => ⟨rfl, eT, hc, hn⟩)
  dsimp only at X' l1 y1 z1 st hQ
  subst l1 y1 z1
  exact K _ _ st (k v T' Lc X' hQ)
theorem k_callP (K : Cl p e below G) (X : Stand p l e R s m args below meth c T locs cells slots) (hx : p.tables.exec = Jvm.exec) (hby : c.code = bs) (hZ : Z.Warmed39 s.vm) {own : String} {i : Nat} {y : MethodName} {bytes : ByteArray} {maxL : Nat} {rm : Room} {Q : PQ} {as' : Array Value} {ps : List FieldType} {r : Option FieldType} (a : Addr) (argsL rest : List Value) (hown : s.vm.findClass own = some m.cls) (w1 : (Jvm.Cond.methodLink own i y).before a0 Z = true) (w2 : (Jvm.Cond.instanceMethod y).before a0 Z = true) (w3 : (Jvm.Cond.initialized y.cls).before a0 Z = true) (w4 : (Jvm.Cond.code y bytes maxL none).before a0 Z = true) (hy1 : y.name = "<init>")
    (C : Con l Z y bytes maxL none rm [] as' h Q) (eT : T.heap = h) (has : (.ref a :: argsL).toArray = as') (hs : S = argsL.reverse ++ .ref a :: rest) (hps : parseMethodDescriptor y.desc = some ⟨ps, r⟩) (hl : argsL.length = ps.length) (hd : decode bs pc = .ok (.invokespecial i, 3)) (hsz : Ls.size = c.maxLocals) (hq : pc + 3 = q) (hy : y.cls ≠ "java/lang/invoke/MethodHandle" ∧ y.cls ≠ "java/lang/invoke/VarHandle") (hf : rm.frames + 1 ≤ R.frames) (hlo : (rest.map fun v => v.category).sum + (maxL + 11) + rm.locals ≤ R.locals) (hc : cells + rm.cells ≤ R.cells) (hn : slots + rm.slots ≤ R.slots)
    (k : ∀ v T' L, Stand p l e R s m args below meth c T' (locs ++ L) (cells + rm.cells) (slots + rm.slots) → Q v T'.heap L → G (T'.setTop (mkF m q Ls (v.toList ++ rest)))) : G (T.setTop (mkF m pc Ls S)) := by
  subst has hs hq
  obtain ⟨v, _, ⟨T', L', k', n'⟩, -, X', ⟨Lc, hQ, l1, y1, z1⟩, st⟩ := X.specialBack hx (y := y) hy1 hown (mvT hZ w1) (mvT hZ w2) (mvT hZ w4) hy (C.back (W := (rest.map fun v => v.category).sum) hZ w4 w3 hf hlo) (g := mkF m pc Ls (argsL.reverse ++ .ref a :: rest)) rfl hsz (Steps.refl _) (a := a) (argsL := argsL) (rest := rest) (lenOf hps hl) rfl (by show 2 * 0 + _ ≤ _; exact Nat.le_of_eq (Nat.zero_add _)) (hb hby hd) (fun _ _ => ⟨rfl, eT, hc, hn⟩)
  dsimp only at X' l1 y1 z1 st hQ
  subst l1 y1 z1
  exact K _ _ (fun t k => st.trans k) (k v T' Lc X' hQ)
theorem k_callV (K : Cl p e below G) (X : Stand p l e R s m args below meth c T locs cells slots) (hx : p.tables.exec = Jvm.exec) (hby : c.code = bs) (hZ : Z.Warmed39 s.vm) {own : String} {i : Nat} {y : MethodName} {bytes : ByteArray} {maxL : Nat} {ret : Option FieldType} {rm : Room} {Q : PQ} {as' : Array Value} {ps : List FieldType} {r : Option FieldType} {z : MethodName} {C0 : String} (a : Addr) (argsL rest : List Value) (hown : s.vm.findClass own = some m.cls) (w1 : (Jvm.Cond.methodLink own i y).before a0 Z = true) (w2 : (Jvm.Cond.declares y).before a0 Z = true) (hnf : NotFace s y) (w5 : (Jvm.Cond.selects C0 y z).before a0 Z = true) (w6 : (Jvm.Cond.instanceMethod z).before a0 Z = true) (w3 : (Jvm.Cond.initialized z.cls).before a0 Z = true) (w4 : (Jvm.Cond.code z bytes maxL ret).before a0 Z = true)
    (C : Con l Z z bytes maxL ret rm [] as' h Q) (eT : T.heap = h) (E : Exa Z h a C0) (has : (.ref a :: argsL).toArray = as') (hs : S = argsL.reverse ++ .ref a :: rest) (hps : parseMethodDescriptor y.desc = some ⟨ps, r⟩) (hl : argsL.length = ps.length) (hd : decode bs pc = .ok (.invokevirtual i, 3)) (hsz : Ls.size = c.maxLocals) (hq : pc + 3 = q) (hy : y.cls ≠ "java/lang/invoke/MethodHandle" ∧ y.cls ≠ "java/lang/invoke/VarHandle") (hf : rm.frames + 1 ≤ R.frames) (hlo : (rest.map fun v => v.category).sum + (maxL + 11) + rm.locals ≤ R.locals) (hc : cells + rm.cells ≤ R.cells) (hn : slots + rm.slots ≤ R.slots)
    (k : ∀ v T' L, Stand p l e R s m args below meth c T' (locs ++ L) (cells + rm.cells) (slots + rm.slots) → Q v T'.heap L → G (T'.setTop (mkF m q Ls (v.toList ++ rest)))) : G (T.setTop (mkF m pc Ls S)) := by
  subst has hs hq
  obtain ⟨cq, kq, qa, qb, qc⟩ := isOf hZ eT E
  obtain ⟨v, _, ⟨T', L', k', n'⟩, -, X', ⟨Lc, hQ, l1, y1, z1⟩, st⟩ := X.virtualBack hx (y := y) (z := z) hown (mvT hZ w1) (mvT hZ w2) hnf (mvT hZ w5) (mvT hZ w6) hy (C.back (W := (rest.map fun v => v.category).sum) hZ w4 w3 hf hlo) qa qc (g := mkF m pc Ls (argsL.reverse ++ .ref a :: rest)) rfl hsz (Steps.refl _) (argsL := argsL) (rest := rest) (lenOf hps hl) rfl (by show 2 * 0 + _ ≤ _; exact Nat.le_of_eq (Nat.zero_add _)) (hb hby hd) (fun _ _ => ⟨rfl, eT, hc, hn⟩)
  dsimp only at X' l1 y1 z1 st hQ
  subst l1 y1 z1
  exact K _ _ (fun t k => st.trans k) (k v T' Lc X' hQ)
theorem k_callI (K : Cl p e below G) (X : Stand p l e R s m args below meth c T locs cells slots) (hx : p.tables.exec = Jvm.exec) (hby : c.code = bs) (hZ : Z.Warmed39 s.vm) {own : String} {i : Nat} {y : MethodName} {bytes : ByteArray} {maxL : Nat} {ret : Option FieldType} {rm : Room} {Q : PQ} {as' : Array Value} {ps : List FieldType} {r : Option FieldType} {z : MethodName} {C0 : String} {cnt : Nat} (a : Addr) (argsL rest : List Value) (hown : s.vm.findClass own = some m.cls) (w1 : (Jvm.Cond.methodLink own i y).before a0 Z = true) (w2 : (Jvm.Cond.declares y).before a0 Z = true) (w7 : (Jvm.Cond.interfaceMethod y.cls y.cls y.name y.desc).before args s = true) (w5 : (Jvm.Cond.selects C0 y z).before a0 Z = true) (w6 : (Jvm.Cond.instanceMethod z).before a0 Z = true) (w8 : (Jvm.Cond.publicMethod z).before a0 Z = true) (w9 : (Jvm.Cond.unhidden C0 y.name y.desc).before a0 Z = true) (wa : (Jvm.Cond.castable C0 y.cls).before a0 Z = true) (w3 : (Jvm.Cond.initialized z.cls).before a0 Z = true) (w4 : (Jvm.Cond.code z bytes maxL ret).before a0 Z = true)
    (C : Con l Z z bytes maxL ret rm [] as' h Q) (eT : T.heap = h) (E : Exa Z h a C0) (has : (.ref a :: argsL).toArray = as') (hs : S = argsL.reverse ++ .ref a :: rest) (hps : parseMethodDescriptor y.desc = some ⟨ps, r⟩) (hl : argsL.length = ps.length) (hd : decode bs pc = .ok (.invokeinterface i cnt, 5)) (hsz : Ls.size = c.maxLocals) (hq : pc + 5 = q) (hy : y.cls ≠ "java/lang/invoke/MethodHandle" ∧ y.cls ≠ "java/lang/invoke/VarHandle") (hf : rm.frames + 1 ≤ R.frames) (hlo : (rest.map fun v => v.category).sum + (maxL + 11) + rm.locals ≤ R.locals) (hc : cells + rm.cells ≤ R.cells) (hn : slots + rm.slots ≤ R.slots)
    (k : ∀ v T' L, Stand p l e R s m args below meth c T' (locs ++ L) (cells + rm.cells) (slots + rm.slots) → Q v T'.heap L → G (T'.setTop (mkF m q Ls (v.toList ++ rest)))) : G (T.setTop (mkF m pc Ls S)) := by
  subst has hs hq
  obtain ⟨cq, kq, qa, qb, qc⟩ := isOf hZ eT E
  obtain ⟨v, _, ⟨T', L', k', n'⟩, -, X', ⟨Lc, hQ, l1, y1, z1⟩, st⟩ := X.interfaceBack hx (xi := y) (y := z) hown (mvT hZ w1) (mvT hZ w2) w7 (mvT hZ w5) (mvT hZ w6) (mvT hZ w8) (mvT hZ w9) (mvT hZ wa) hy (C.back (W := (rest.map fun v => v.category).sum) hZ w4 w3 hf hlo) qa qb qc (g := mkF m pc Ls (argsL.reverse ++ .ref a :: rest)) rfl hsz (Steps.refl _) (argsL := argsL) (rest := rest) (lenOf hps hl) rfl (by show 2 * 0 + _ ≤ _; exact Nat.le_of_eq (Nat.zero_add _)) (hb hby hd) (fun _ _ => ⟨rfl, eT, hc, hn⟩)
  dsimp only at X' l1 y1 z1 st hQ
  subst l1 y1 z1
  exact K _ _ (fun t k => st.trans k) (k v T' Lc X' hQ)
end OwnBase
section OwnArr
variable {p : Program} {l : Launch} {e : Env} {R : Room} {s : State} {m : MethodId} {args : Array Value} {below : List Frame} {meth : Method} {c : Code} {T : State} {locs : List Loc} {cells slots : Nat} {Z : State} {a0 : Array Value} {h h' : Heap} {a b : Addr} {ty : FieldType} {vs : List Value} {v : Value} {sl : Nat} {ws : List Addr} {bs : ByteArray} {pc q : Nat} {Ls : Array Slot} {S : List Value} {G : State → Prop}
def Av (Z : State) (h : Heap) (a : Addr) (ty : FieldType) (vs : List Value) : Prop := ∃ cl : Cell, Arr Z h a cl ty ∧ cl.slots = vs.toArray
theorem Av.lt (F : Av Z h a ty vs) : a < h.size := by obtain ⟨_, A, -⟩ := F; exact A.lt
theorem Av.ext (F : Av Z h a ty vs) (E : Ext h h') : Av Z h' a ty vs := by obtain ⟨c, A, r⟩ := F; exact ⟨c, A.ext E, r⟩
theorem Av.other (F : Av Z h b ty vs) (W : Wr h h' a sl v) (q : b ≠ a) : Av Z h' b ty vs := by obtain ⟨c, A, r⟩ := F; exact ⟨c, A.other W q, r⟩
theorem Av.keep (F : Av Z h a ty vs) (K : Keep h h' ws) (q : a ∉ ws) : Av Z h' a ty vs := by obtain ⟨c, A, r⟩ := F; exact ⟨c, ⟨K.2.1 a c A.1 q, A.2⟩, r⟩
theorem Av.new {k : ClassId} {z : Int32} {n : Nat} (A : Arr Z h a (newA k ty z) ty) (hn : z.toNatClampNeg = n) : Av Z h a ty (List.replicate n (defaultValue ty)) := ⟨_, A, by subst hn; simp [newA]⟩
theorem Av.set (F : Av Z h a ty vs) (W : Wr h h' a sl v) : Av Z h' a ty (vs.set sl v) := by
  obtain ⟨c, A, r⟩ := F
  exact ⟨_, A.same W, by simp [Cell.setSlot, r]⟩
theorem Av.ofArv {k : ClassId} {z : Int32} {d : Value} (A : Arv Z h a k ty z vs d) (hl : z.toNatClampNeg = vs.length) : Av Z h a ty vs := by
  obtain ⟨cl, A, -, S, -, H, -⟩ := A
  refine ⟨cl, A, Array.ext_getElem? fun i => ?_⟩
  by_cases q : i < vs.length
  · have := H i (by omega)
    rw [this]
    simp [q]
  · rw [Array.getElem?_eq_none (by omega), List.getElem?_toArray, List.getElem?_eq_none (by omega)]
theorem own_in {cl : Cell} {j : Int32} (r : cl.slots = vs.toArray) (h0 : ¬ j < 0) (h1 : j.toNatClampNeg < vs.length) : ¬ (j < 0 ∨ cl.slots.size ≤ j.toNatClampNeg) := by
  rintro (q | q)
  · exact h0 q
  · rw [r, List.size_toArray] at q; omega
theorem own_at {cl : Cell} {i : Nat} (r : cl.slots = vs.toArray) (hv : vs[i]? = some v) : cl.slots[i]? = some v := by rw [r]; simpa using hv
theorem own_ltl0 {i : Nat} (hv : vs[i]? = some v) : i < vs.length := (List.getElem?_eq_some_iff.mp hv).1
theorem k_ldI (K : Cl p e below G) (X : Stand p l e R s m args below meth c T locs cells slots) (hx : p.tables.exec = Jvm.exec) (hby : c.code = bs) (hZ : Z.Warmed39 s.vm) (eT : T.heap = h) (F : Av Z h a .int vs) {j : Int32} (h0 : ¬ j < 0) (hv : vs[j.toNatClampNeg]? = some v) (hd : decode bs pc = .ok (.iaload, 1)) (hq : pc + 1 = q) (hr : G (T.setTop (mkF m q Ls (v :: S)))) : G (T.setTop (mkF m pc Ls (.int j :: .ref a :: S))) := by
  subst hq
  obtain ⟨cl, A, r⟩ := F
  exact K _ _ (X.iaload hx (j := j) (v := v) (by rw [eT]; exact A.1) (State.isArrayOf_alike hZ.alike A.2.1) A.2.2 (own_in r h0 (own_ltl0 hv)) (own_at r hv) (g := mkF m pc Ls (.int j :: .ref a :: S)) rfl rfl (hb hby hd)) hr
theorem k_ldJ (K : Cl p e below G) (X : Stand p l e R s m args below meth c T locs cells slots) (hx : p.tables.exec = Jvm.exec) (hby : c.code = bs) (hZ : Z.Warmed39 s.vm) (eT : T.heap = h) (F : Av Z h a .long vs) {j : Int32} (h0 : ¬ j < 0) (hv : vs[j.toNatClampNeg]? = some v) (hd : decode bs pc = .ok (.laload, 1)) (hq : pc + 1 = q) (hr : G (T.setTop (mkF m q Ls (v :: S)))) : G (T.setTop (mkF m pc Ls (.int j :: .ref a :: S))) := by
  subst hq
  obtain ⟨cl, A, r⟩ := F
  exact K _ _ (X.laload hx (j := j) (v := v) (by rw [eT]; exact A.1) (State.isArrayOf_alike hZ.alike A.2.1) A.2.2 (own_in r h0 (own_ltl0 hv)) (own_at r hv) (g := mkF m pc Ls (.int j :: .ref a :: S)) rfl rfl (hb hby hd)) hr
theorem k_ldC (K : Cl p e below G) (X : Stand p l e R s m args below meth c T locs cells slots) (hx : p.tables.exec = Jvm.exec) (hby : c.code = bs) (hZ : Z.Warmed39 s.vm) (eT : T.heap = h) (F : Av Z h a .char vs) {j : Int32} (h0 : ¬ j < 0) (hv : vs[j.toNatClampNeg]? = some v) (hd : decode bs pc = .ok (.caload, 1)) (hq : pc + 1 = q) (hr : G (T.setTop (mkF m q Ls (v :: S)))) : G (T.setTop (mkF m pc Ls (.int j :: .ref a :: S))) := by
  subst hq
  obtain ⟨cl, A, r⟩ := F
  exact K _ _ (X.caload hx (j := j) (v := v) (by rw [eT]; exact A.1) (State.isArrayOf_alike hZ.alike A.2.1) A.2.2 (own_in r h0 (own_ltl0 hv)) (own_at r hv) (g := mkF m pc Ls (.int j :: .ref a :: S)) rfl rfl (hb hby hd)) hr
theorem k_ldB (K : Cl p e below G) (X : Stand p l e R s m args below meth c T locs cells slots) (hx : p.tables.exec = Jvm.exec) (hby : c.code = bs) (hZ : Z.Warmed39 s.vm) (eT : T.heap = h) (F : Av Z h a .byte vs) {j : Int32} (h0 : ¬ j < 0) (hv : vs[j.toNatClampNeg]? = some v) (hd : decode bs pc = .ok (.baload, 1)) (hq : pc + 1 = q) (hr : G (T.setTop (mkF m q Ls (v :: S)))) : G (T.setTop (mkF m pc Ls (.int j :: .ref a :: S))) := by
  subst hq
  obtain ⟨cl, A, r⟩ := F
  exact K _ _ (X.baloadBytes hx (j := j) (v := v) (by rw [eT]; exact A.1) (State.isArrayOf_alike hZ.alike A.2.1) A.2.2 (own_in r h0 (own_ltl0 hv)) (own_at r hv) (g := mkF m pc Ls (.int j :: .ref a :: S)) rfl rfl (hb hby hd)) hr
theorem k_ldZ (K : Cl p e below G) (X : Stand p l e R s m args below meth c T locs cells slots) (hx : p.tables.exec = Jvm.exec) (hby : c.code = bs) (hZ : Z.Warmed39 s.vm) (eT : T.heap = h) (F : Av Z h a .boolean vs) {j : Int32} (h0 : ¬ j < 0) (hv : vs[j.toNatClampNeg]? = some v) (hd : decode bs pc = .ok (.baload, 1)) (hq : pc + 1 = q) (hr : G (T.setTop (mkF m q Ls (v :: S)))) : G (T.setTop (mkF m pc Ls (.int j :: .ref a :: S))) := by
  subst hq
  obtain ⟨cl, A, r⟩ := F
  exact K _ _ (X.baloadBooleans hx (j := j) (v := v) (by rw [eT]; exact A.1) (State.isArrayOf_alike hZ.alike A.2.1) A.2.2 (own_in r h0 (own_ltl0 hv)) (own_at r hv) (g := mkF m pc Ls (.int j :: .ref a :: S)) rfl rfl (hb hby hd)) hr
theorem k_ldD (K : Cl p e below G) (X : Stand p l e R s m args below meth c T locs cells slots) (hx : p.tables.exec = Jvm.exec) (hby : c.code = bs) (hZ : Z.Warmed39 s.vm) (eT : T.heap = h) (F : Av Z h a .double vs) {j : Int32} (h0 : ¬ j < 0) (hv : vs[j.toNatClampNeg]? = some v) (hd : decode bs pc = .ok (.daload, 1)) (hq : pc + 1 = q) (hr : G (T.setTop (mkF m q Ls (v :: S)))) : G (T.setTop (mkF m pc Ls (.int j :: .ref a :: S))) := by
  subst hq
  obtain ⟨cl, A, r⟩ := F
  exact K _ _ (X.daload hx (j := j) (v := v) (by rw [eT]; exact A.1) (State.isArrayOf_alike hZ.alike A.2.1) A.2.2 (own_in r h0 (own_ltl0 hv)) (own_at r hv) (g := mkF m pc Ls (.int j :: .ref a :: S)) rfl rfl (hb hby hd)) hr
theorem k_ldR (K : Cl p e below G) (X : Stand p l e R s m args below meth c T locs cells slots) (hx : p.tables.exec = Jvm.exec) (hby : c.code = bs) (hZ : Z.Warmed39 s.vm) (eT : T.heap = h) (hty : ty.isReference = true) (F : Av Z h a ty vs) {j : Int32} (h0 : ¬ j < 0) (hv : vs[j.toNatClampNeg]? = some v) (hd : decode bs pc = .ok (.aaload, 1)) (hq : pc + 1 = q) (hr : G (T.setTop (mkF m q Ls (v :: S)))) : G (T.setTop (mkF m pc Ls (.int j :: .ref a :: S))) := by
  subst hq
  obtain ⟨cl, A, r⟩ := F
  exact K _ _ (X.aaload hx (j := j) (v := v) (by rw [eT]; exact A.1) (State.isArrayOf_alike hZ.alike A.2.1) hty A.2.2 (own_in r h0 (own_ltl0 hv)) (own_at r hv) (g := mkF m pc Ls (.int j :: .ref a :: S)) rfl rfl (hb hby hd)) hr
theorem k_len (K : Cl p e below G) (X : Stand p l e R s m args below meth c T locs cells slots) (hx : p.tables.exec = Jvm.exec) (hby : c.code = bs) (hZ : Z.Warmed39 s.vm) (z : Int32) (eT : T.heap = h) (F : Av Z h a ty vs) (hz : Int32.ofNat vs.length = z) (hd : decode bs pc = .ok (.arraylength, 1)) (hq : pc + 1 = q) (hr : G (T.setTop (mkF m q Ls (.int z :: S)))) : G (T.setTop (mkF m pc Ls (.ref a :: S))) := by
  subst hq
  obtain ⟨cl, A, r⟩ := F
  have hl : cl.slots.size.toInt32 = z := by rw [r, List.size_toArray]; exact hz
  have st := X.arraylength hx (by rw [eT]; exact A.1) (State.isArrayOf_alike hZ.alike A.2.1) (g := mkF m pc Ls (.ref a :: S)) rfl rfl (hb hby hd)
  rw [hl] at st
  exact K _ _ st hr
theorem k_stI (K : Cl p e below G) (X : Stand p l e R s m args below meth c T locs cells slots) (hx : p.tables.exec = Jvm.exec) (hby : c.code = bs) (hZ : Z.Warmed39 s.vm) (eT : T.heap = h) (F : Av Z h a .int vs) {j : Int32} {x : Int32} (h0 : ¬ j < 0) (h1 : j.toNatClampNeg < vs.length) (hd : decode bs pc = .ok (.iastore, 1)) (hq : pc + 1 = q) (k : ∀ T' h', Stand p l e R s m args below meth c T' (locs ++ [⟨a, j.toNatClampNeg⟩]) cells slots → T'.heap = h' → Wr h h' a j.toNatClampNeg (.int x) → Av Z h' a .int (vs.set j.toNatClampNeg (.int x)) → G (T'.setTop (mkF m q Ls S))) : G (T.setTop (mkF m pc Ls (.int x :: .int j :: .ref a :: S))) := by
  subst hq
  obtain ⟨cl, A, r⟩ := F
  obtain ⟨T', h', X', e', W', st⟩ := stI X hx hZ eT A (j := j) (own_in r h0 h1) (g := mkF m pc Ls (.int x :: .int j :: .ref a :: S)) rfl rfl (hb hby hd)
  exact K _ _ st (k T' h' X' e' W' (Av.set ⟨cl, A, r⟩ W'))
theorem k_stJ (K : Cl p e below G) (X : Stand p l e R s m args below meth c T locs cells slots) (hx : p.tables.exec = Jvm.exec) (hby : c.code = bs) (hZ : Z.Warmed39 s.vm) (eT : T.heap = h) (F : Av Z h a .long vs) {j : Int32} {x : Int64} (h0 : ¬ j < 0) (h1 : j.toNatClampNeg < vs.length) (hd : decode bs pc = .ok (.lastore, 1)) (hq : pc + 1 = q) (k : ∀ T' h', Stand p l e R s m args below meth c T' (locs ++ [⟨a, j.toNatClampNeg⟩]) cells slots → T'.heap = h' → Wr h h' a j.toNatClampNeg (.long x) → Av Z h' a .long (vs.set j.toNatClampNeg (.long x)) → G (T'.setTop (mkF m q Ls S))) : G (T.setTop (mkF m pc Ls (.long x :: .int j :: .ref a :: S))) := by
  subst hq
  obtain ⟨cl, A, r⟩ := F
  obtain ⟨T', h', X', e', W', st⟩ := stJ X hx hZ eT A (j := j) (own_in r h0 h1) (g := mkF m pc Ls (.long x :: .int j :: .ref a :: S)) rfl rfl (hb hby hd)
  exact K _ _ st (k T' h' X' e' W' (Av.set ⟨cl, A, r⟩ W'))
theorem k_stC (K : Cl p e below G) (X : Stand p l e R s m args below meth c T locs cells slots) (hx : p.tables.exec = Jvm.exec) (hby : c.code = bs) (hZ : Z.Warmed39 s.vm) (eT : T.heap = h) (F : Av Z h a .char vs) {j : Int32} {x : Int32} (h0 : ¬ j < 0) (h1 : j.toNatClampNeg < vs.length) (hd : decode bs pc = .ok (.castore, 1)) (hq : pc + 1 = q) (k : ∀ T' h', Stand p l e R s m args below meth c T' (locs ++ [⟨a, j.toNatClampNeg⟩]) cells slots → T'.heap = h' → Wr h h' a j.toNatClampNeg (.int (nar .char x)) → Av Z h' a .char (vs.set j.toNatClampNeg (.int (nar .char x))) → G (T'.setTop (mkF m q Ls S))) : G (T.setTop (mkF m pc Ls (.int x :: .int j :: .ref a :: S))) := by
  subst hq
  obtain ⟨cl, A, r⟩ := F
  obtain ⟨T', h', X', e', W', st⟩ := stC X hx hZ eT A (j := j) (own_in r h0 h1) (g := mkF m pc Ls (.int x :: .int j :: .ref a :: S)) rfl rfl (hb hby hd)
  exact K _ _ st (k T' h' X' e' W' (Av.set ⟨cl, A, r⟩ W'))
theorem k_stB (K : Cl p e below G) (X : Stand p l e R s m args below meth c T locs cells slots) (hx : p.tables.exec = Jvm.exec) (hby : c.code = bs) (hZ : Z.Warmed39 s.vm) (eT : T.heap = h) (F : Av Z h a .byte vs) {j : Int32} {x : Int32} (h0 : ¬ j < 0) (h1 : j.toNatClampNeg < vs.length) (hd : decode bs pc = .ok (.bastore, 1)) (hq : pc + 1 = q) (k : ∀ T' h', Stand p l e R s m args below meth c T' (locs ++ [⟨a, j.toNatClampNeg⟩]) cells slots → T'.heap = h' → Wr h h' a j.toNatClampNeg (.int (nar .byte x)) → Av Z h' a .byte (vs.set j.toNatClampNeg (.int (nar .byte x))) → G (T'.setTop (mkF m q Ls S))) : G (T.setTop (mkF m pc Ls (.int x :: .int j :: .ref a :: S))) := by
  subst hq
  obtain ⟨cl, A, r⟩ := F
  obtain ⟨T', h', X', e', W', st⟩ := stB X hx hZ eT A (j := j) (own_in r h0 h1) (g := mkF m pc Ls (.int x :: .int j :: .ref a :: S)) rfl rfl (hb hby hd)
  exact K _ _ st (k T' h' X' e' W' (Av.set ⟨cl, A, r⟩ W'))
theorem k_stZ (K : Cl p e below G) (X : Stand p l e R s m args below meth c T locs cells slots) (hx : p.tables.exec = Jvm.exec) (hby : c.code = bs) (hZ : Z.Warmed39 s.vm) (eT : T.heap = h) (F : Av Z h a .boolean vs) {j : Int32} {x : Int32} (h0 : ¬ j < 0) (h1 : j.toNatClampNeg < vs.length) (hd : decode bs pc = .ok (.bastore, 1)) (hq : pc + 1 = q) (k : ∀ T' h', Stand p l e R s m args below meth c T' (locs ++ [⟨a, j.toNatClampNeg⟩]) cells slots → T'.heap = h' → Wr h h' a j.toNatClampNeg (.int (nar .boolean x)) → Av Z h' a .boolean (vs.set j.toNatClampNeg (.int (nar .boolean x))) → G (T'.setTop (mkF m q Ls S))) : G (T.setTop (mkF m pc Ls (.int x :: .int j :: .ref a :: S))) := by
  subst hq
  obtain ⟨cl, A, r⟩ := F
  obtain ⟨T', h', X', e', W', st⟩ := stZ X hx hZ eT A (j := j) (own_in r h0 h1) (g := mkF m pc Ls (.int x :: .int j :: .ref a :: S)) rfl rfl (hb hby hd)
  exact K _ _ st (k T' h' X' e' W' (Av.set ⟨cl, A, r⟩ W'))
theorem k_stD (K : Cl p e below G) (X : Stand p l e R s m args below meth c T locs cells slots) (hx : p.tables.exec = Jvm.exec) (hby : c.code = bs) (hZ : Z.Warmed39 s.vm) (eT : T.heap = h) (F : Av Z h a .double vs) {j : Int32} {x : UInt64} (h0 : ¬ j < 0) (h1 : j.toNatClampNeg < vs.length) (hd : decode bs pc = .ok (.dastore, 1)) (hq : pc + 1 = q) (k : ∀ T' h', Stand p l e R s m args below meth c T' (locs ++ [⟨a, j.toNatClampNeg⟩]) cells slots → T'.heap = h' → Wr h h' a j.toNatClampNeg (.double x) → Av Z h' a .double (vs.set j.toNatClampNeg (.double x)) → G (T'.setTop (mkF m q Ls S))) : G (T.setTop (mkF m pc Ls (.double x :: .int j :: .ref a :: S))) := by
  subst hq
  obtain ⟨cl, A, r⟩ := F
  obtain ⟨T', h', X', e', W', st⟩ := stD X hx hZ eT A (j := j) (own_in r h0 h1) (g := mkF m pc Ls (.double x :: .int j :: .ref a :: S)) rfl rfl (hb hby hd)
  exact K _ _ st (k T' h' X' e' W' (Av.set ⟨cl, A, r⟩ W'))
def Avr (Z : State) (h : Heap) (a : Addr) (C : String) (vs : List Value) : Prop := ∃ cl : Cell, Arr Z h a cl (.object C) ∧ cl.slots = vs.toArray ∧ Ovr Z cl.cls C
variable {C : String}
theorem Avr.av (F : Avr Z h a C vs) : Av Z h a (.object C) vs := by obtain ⟨c, A, r, -⟩ := F; exact ⟨c, A, r⟩
theorem Avr.lt (F : Avr Z h a C vs) : a < h.size := F.av.lt
theorem Avr.ext (F : Avr Z h a C vs) (E : Ext h h') : Avr Z h' a C vs := by obtain ⟨c, A, r⟩ := F; exact ⟨c, A.ext E, r⟩
theorem Avr.other (F : Avr Z h b C vs) (W : Wr h h' a sl v) (q : b ≠ a) : Avr Z h' b C vs := by obtain ⟨c, A, r⟩ := F; exact ⟨c, A.other W q, r⟩
theorem Avr.keep (F : Avr Z h a C vs) (K : Keep h h' ws) (q : a ∉ ws) : Avr Z h' a C vs := by obtain ⟨c, A, r⟩ := F; exact ⟨c, ⟨K.2.1 a c A.1 q, A.2⟩, r⟩
theorem Avr.new {k : ClassId} {z : Int32} {n : Nat} (A : Arr Z h a (newA k (.object C) z) (.object C)) (O : Ovr Z k C) (hn : z.toNatClampNeg = n) : Avr Z h a C (List.replicate n .null) := ⟨_, A, by subst hn; simp [newA, defaultValue], O⟩
theorem Avr.set (F : Avr Z h a C vs) (W : Wr h h' a sl v) : Avr Z h' a C (vs.set sl v) := by
  obtain ⟨c, A, r, O⟩ := F
  exact ⟨_, A.same W, by simp [Cell.setSlot, r], O⟩
theorem k_stR (K : Cl p e below G) (X : Stand p l e R s m args below meth c T locs cells slots) (hx : p.tables.exec = Jvm.exec) (hby : c.code = bs) (hZ : Z.Warmed39 s.vm) (eT : T.heap = h) (F : Avr Z h a C vs) {j : Int32} (h0 : ¬ j < 0) (h1 : j.toNatClampNeg < vs.length) (hv : v = .null ∨ ∃ y, v = .ref y ∧ Ins Z h y C true) (hd : decode bs pc = .ok (.aastore, 1)) (hq : pc + 1 = q) (k : ∀ T' h', Stand p l e R s m args below meth c T' (locs ++ [⟨a, j.toNatClampNeg⟩]) cells slots → T'.heap = h' → Wr h h' a j.toNatClampNeg v → Avr Z h' a C (vs.set j.toNatClampNeg v) → G (T'.setTop (mkF m q Ls S))) : G (T.setTop (mkF m pc Ls (v :: .int j :: .ref a :: S))) := by
  subst hq
  obtain ⟨cl, A, r, O⟩ := F
  have St : Sto Z h a v := by
    rcases hv with rfl | ⟨y, rfl, I⟩
    · exact Or.inl rfl
    · exact Sto.of A O I
  obtain ⟨T', h', X', e', W', st⟩ := stR X hx hZ eT A (j := j) (own_in r h0 h1) rfl St (g := mkF m pc Ls (v :: .int j :: .ref a :: S)) rfl rfl (hb hby hd)
  exact K _ _ st (k T' h' X' e' W' (Avr.set ⟨cl, A, r, O⟩ W'))
theorem k_newP (K : Cl p e below G) (X : Stand p l e R s m args below meth c T locs cells slots) (hx : p.tables.exec = Jvm.exec) (hby : c.code = bs) (hZ : Z.Warmed39 s.vm) {aty : ArrayType} {n : Int32} (N cap : Nat) (w : (Jvm.Cond.arrayClass (newarray.typeOf aty)).before a0 Z = true) (eT : T.heap = h) (hd : decode bs pc = .ok (.newarray aty, 2)) (hq : pc + 2 = q) (hn : ¬ n < 0) (hN : n.toNatClampNeg = N) (hcap : N ≤ cap) (hcb : cap * 8 ≤ 536870912) (hc : cells + 1 ≤ R.cells) (hl : slots + cap ≤ R.slots)
    (k : ∀ T' h' b, Stand p l e R s m args below meth c T' locs (cells + 1) (slots + cap) → T'.heap = h' → Ext h h' → b = h.size → Av Z h' b (newarray.typeOf aty) (List.replicate N (defaultValue (newarray.typeOf aty))) → G (T'.setTop (mkF m q Ls (.ref b :: S)))) : G (T.setTop (mkF m pc Ls (.int n :: S))) := by
  subst hq hN
  obtain ⟨T', h', kA, X', e', E', A', st⟩ := newP X hx hZ w eT (g := mkF m pc Ls (.int n :: S)) rfl (hb hby hd) rfl hn hcap hcb hc hl
  exact K _ _ st (k T' h' _ X' e' E' rfl (Av.new A' rfl))
theorem k_newR (K : Cl p e below G) (X : Stand p l e R s m args below meth c T locs cells slots) (hx : p.tables.exec = Jvm.exec) (hby : c.code = bs) (hZ : Z.Warmed39 s.vm) {own : String} {i : Nat} {n : Int32} (N cap : Nat) (hown : s.vm.findClass own = some m.cls) (w1 : (Jvm.Cond.classLink own i C).before a0 Z = true) (w2 : (Jvm.Cond.arrayOver (.object C)).before a0 Z = true) (eT : T.heap = h) (hd : decode bs pc = .ok (.anewarray i, 3)) (hq : pc + 3 = q) (hn : ¬ n < 0) (hN : n.toNatClampNeg = N) (hcap : N ≤ cap) (hcb : cap * 8 ≤ 536870912) (hc : cells + 1 ≤ R.cells) (hl : slots + cap ≤ R.slots)
    (k : ∀ T' h' b, Stand p l e R s m args below meth c T' locs (cells + 1) (slots + cap) → T'.heap = h' → Ext h h' → b = h.size → Avr Z h' b C (List.replicate N .null) → G (T'.setTop (mkF m q Ls (.ref b :: S)))) : G (T.setTop (mkF m pc Ls (.int n :: S))) := by
  subst hq hN
  obtain ⟨T', h', kA, X', e', E', A', O', st⟩ := newR X hx hZ hown w1 w2 eT (g := mkF m pc Ls (.int n :: S)) rfl (hb hby hd) rfl hn hcap hcb hc hl
  exact K _ _ st (k T' h' _ X' e' E' rfl (Avr.new A' O' rfl))
theorem own_ge {H : Heap} {b c : Addr} {j : Nat} (g : b = H.size) (q : c = b + 1 + j) : H.size ≤ c := by subst g q; exact Nat.le_trans (Nat.le_add_right _ _) (Nat.le_add_right _ _)
theorem own_le {b c : Addr} {j : Nat} (q : c = b + 1 + j) : b ≤ c := by subst q; exact Nat.le_trans (Nat.le_add_right _ _) (Nat.le_add_right _ _)
theorem own_ne {b c : Addr} {j : Nat} (q : c = b + 1 + j) : b ≠ c := by subst q; exact Nat.ne_of_lt (Nat.lt_of_lt_of_le (Nat.lt_succ_self _) (Nat.le_add_right _ _))
theorem own_ne2 {b c d : Addr} {i j : Nat} (q : c = b + 1 + i) (r : d = b + 1 + j) (h : i ≠ j) : c ≠ d := by subst q r; exact fun e => h (Nat.add_left_cancel e)
end OwnArr
def w1_1 (a1 : Addr) (t14 : Addr) : Int32 := (if a1 = t14 then (1 : Int32) else (0 : Int32))
theorem w1_1_01 (a1 : Addr) (t14 : Addr) : (w1_1 a1 t14) = 0 ∨ (w1_1 a1 t14) = 1 := by
  unfold w1_1
  split
  · exact (Or.inr rfl)
  · exact (Or.inl rfl)
def w1_2 (a1 : Addr) (t13 : Addr) (t14 : Addr) : Int32 := (if a1 = t13 then (1 : Int32) else (w1_1 a1 t14))
theorem w1_2_01 (a1 : Addr) (t13 : Addr) (t14 : Addr) : (w1_2 a1 t13 t14) = 0 ∨ (w1_2 a1 t13 t14) = 1 := by
  unfold w1_2
  split
  · exact (Or.inr rfl)
  · exact (w1_1_01 a1 t14)
def w1_3 (a1 : Addr) (t12 : Addr) (t13 : Addr) (t14 : Addr) : Int32 := (if a1 = t12 then (1 : Int32) else (w1_2 a1 t13 t14))
theorem w1_3_01 (a1 : Addr) (t12 : Addr) (t13 : Addr) (t14 : Addr) : (w1_3 a1 t12 t13 t14) = 0 ∨ (w1_3 a1 t12 t13 t14) = 1 := by
  unfold w1_3
  split
  · exact (Or.inr rfl)
  · exact (w1_2_01 a1 t13 t14)
def w1_4 (a1 : Addr) (t11 : Addr) (t12 : Addr) (t13 : Addr) (t14 : Addr) : Int32 := (if a1 = t11 then (1 : Int32) else (w1_3 a1 t12 t13 t14))
theorem w1_4_01 (a1 : Addr) (t11 : Addr) (t12 : Addr) (t13 : Addr) (t14 : Addr) : (w1_4 a1 t11 t12 t13 t14) = 0 ∨ (w1_4 a1 t11 t12 t13 t14) = 1 := by
  unfold w1_4
  split
  · exact (Or.inr rfl)
  · exact (w1_3_01 a1 t12 t13 t14)
def w1_5 (a1 : Addr) (t10 : Addr) (t11 : Addr) (t12 : Addr) (t13 : Addr) (t14 : Addr) : Int32 := (if a1 = t10 then (1 : Int32) else (w1_4 a1 t11 t12 t13 t14))
theorem w1_5_01 (a1 : Addr) (t10 : Addr) (t11 : Addr) (t12 : Addr) (t13 : Addr) (t14 : Addr) : (w1_5 a1 t10 t11 t12 t13 t14) = 0 ∨ (w1_5 a1 t10 t11 t12 t13 t14) = 1 := by
  unfold w1_5
  split
  · exact (Or.inr rfl)
  · exact (w1_4_01 a1 t11 t12 t13 t14)
def w1_6 (a1 : Addr) (t9 : Addr) (t10 : Addr) (t11 : Addr) (t12 : Addr) (t13 : Addr) (t14 : Addr) : Int32 := (if a1 = t9 then (1 : Int32) else (w1_5 a1 t10 t11 t12 t13 t14))
theorem w1_6_01 (a1 : Addr) (t9 : Addr) (t10 : Addr) (t11 : Addr) (t12 : Addr) (t13 : Addr) (t14 : Addr) : (w1_6 a1 t9 t10 t11 t12 t13 t14) = 0 ∨ (w1_6 a1 t9 t10 t11 t12 t13 t14) = 1 := by
  unfold w1_6
  split
  · exact (Or.inr rfl)
  · exact (w1_5_01 a1 t10 t11 t12 t13 t14)
def CMP (a1 t9 t10 t11 t12 t13 t14 : Addr) : Int32 := (w1_6 a1 t9 t10 t11 t12 t13 t14)
theorem CMP_01 (a1 t9 t10 t11 t12 t13 t14 : Addr) : CMP a1 t9 t10 t11 t12 t13 t14 = 0 ∨ CMP a1 t9 t10 t11 t12 t13 t14 = 1 := (w1_6_01 a1 t9 t10 t11 t12 t13 t14)
theorem d_prog_47_5_0 : decode prog_47_method_5_code 0 = .ok (.aload_n 0, 1) := by decide +kernel
theorem d_prog_47_5_1 : decode prog_47_method_5_code 1 = .ok (.getstatic 31, 3) := by decide +kernel
theorem d_prog_47_5_4 : decode prog_47_method_5_code 4 = .ok (.if_acmp .eq 38, 3) := by decide +kernel
theorem d_prog_47_5_7 : decode prog_47_method_5_code 7 = .ok (.aload_n 0, 1) := by decide +kernel
theorem d_prog_47_5_8 : decode prog_47_method_5_code 8 = .ok (.getstatic 34, 3) := by decide +kernel
theorem d_prog_47_5_11 : decode prog_47_method_5_code 11 = .ok (.if_acmp .eq 31, 3) := by decide +kernel
theorem d_prog_47_5_14 : decode prog_47_method_5_code 14 = .ok (.aload_n 0, 1) := by decide +kernel
theorem d_prog_47_5_15 : decode prog_47_method_5_code 15 = .ok (.getstatic 37, 3) := by decide +kernel
theorem d_prog_47_5_18 : decode prog_47_method_5_code 18 = .ok (.if_acmp .eq 24, 3) := by decide +kernel
theorem d_prog_47_5_21 : decode prog_47_method_5_code 21 = .ok (.aload_n 0, 1) := by decide +kernel
theorem d_prog_47_5_22 : decode prog_47_method_5_code 22 = .ok (.getstatic 40, 3) := by decide +kernel
theorem d_prog_47_5_25 : decode prog_47_method_5_code 25 = .ok (.if_acmp .eq 17, 3) := by decide +kernel
theorem d_prog_47_5_28 : decode prog_47_method_5_code 28 = .ok (.aload_n 0, 1) := by decide +kernel
theorem d_prog_47_5_29 : decode prog_47_method_5_code 29 = .ok (.getstatic 43, 3) := by decide +kernel
theorem d_prog_47_5_32 : decode prog_47_method_5_code 32 = .ok (.if_acmp .eq 10, 3) := by decide +kernel
theorem d_prog_47_5_35 : decode prog_47_method_5_code 35 = .ok (.aload_n 0, 1) := by decide +kernel
theorem d_prog_47_5_36 : decode prog_47_method_5_code 36 = .ok (.getstatic 46, 3) := by decide +kernel
theorem d_prog_47_5_39 : decode prog_47_method_5_code 39 = .ok (.if_acmp .ne 7, 3) := by decide +kernel
theorem d_prog_47_5_42 : decode prog_47_method_5_code 42 = .ok (.iconst 1, 1) := by decide +kernel
theorem d_prog_47_5_43 : decode prog_47_method_5_code 43 = .ok (.goto 4, 3) := by decide +kernel
theorem d_prog_47_5_46 : decode prog_47_method_5_code 46 = .ok (.iconst 0, 1) := by decide +kernel
theorem d_prog_47_5_47 : decode prog_47_method_5_code 47 = .ok (.ireturn, 1) := by decide +kernel
theorem pn_com_example_vetted_query_vettedquery_TokenKind : plainName "com/example/vetted_query/vettedquery/TokenKind" = true := by first | (simp [plainName, overriddenIn]; done) | decide +kernel
theorem ef1 (m : MethodId) (x0 : Addr) : entryFrame m #[(.ref x0)] 1 = mkF m 0 #[.val (.ref x0)] [] := by first | (simp [entryFrame, mkF, argsToLocals, Value.category]; done) | rfl
set_option maxRecDepth 65536 in
set_option maxHeartbeats 40000000 in
theorem c1 (l : Launch) (Z : State) (a0 : Array Value) (hw : ∀ d ∈ tables_1, d.before a0 Z = true) (a1 : Addr) (t9 t10 t11 t12 t13 t14 : Addr) (h0 : Heap) (n0 : Nat) (Z0 : n0 ≤ h0.size) (S9 : Sta Z h0 "com/example/vetted_query/vettedquery/TokenKind" "EQUAL" "Lcom/example/vetted_query/vettedquery/TokenKind;" (.ref t9)) (S10 : Sta Z h0 "com/example/vetted_query/vettedquery/TokenKind" "NOT_EQUAL" "Lcom/example/vetted_query/vettedquery/TokenKind;" (.ref t10)) (S11 : Sta Z h0 "com/example/vetted_query/vettedquery/TokenKind" "LESS" "Lcom/example/vetted_query/vettedquery/TokenKind;" (.ref t11)) (S12 : Sta Z h0 "com/example/vetted_query/vettedquery/TokenKind" "LESS_EQUAL" "Lcom/example/vetted_query/vettedquery/TokenKind;" (.ref t12)) (S13 : Sta Z h0 "com/example/vetted_query/vettedquery/TokenKind" "GREATER" "Lcom/example/vetted_query/vettedquery/TokenKind;" (.ref t13)) (S14 : Sta Z h0 "com/example/vetted_query/vettedquery/TokenKind" "GREATER_EQUAL" "Lcom/example/vetted_query/vettedquery/TokenKind;" (.ref t14)) :
    Con l Z (⟨"com/example/vetted_query/vettedquery/TokenKind", "isComparison", "()Z"⟩ : MethodName) prog_47_method_5_code 1 (some .boolean) ({ frames := 0, cells := 0, slots := 0, locals := 0 } : Room) [] #[(.ref a1)] h0 (fun v h L => v = some (.int (CMP a1 t9 t10 t11 t12 t13 t14)) ∧ h = h0 ∧ L = []) := by
  refine Con.of (plainFor_of_name pn_com_example_vetted_query_vettedquery_TokenKind) #[.val (.ref a1)] (fun m => ef1 m a1) ?_
  intro p e s m below meth c s₁ K hx hby hml hown hnm hret hlk hZ X0 e0
  have N0 := Fr.nil n0
  refine m_aloadN K X0.here hx hby d_prog_47_5_0 rfl rfl rfl ?_
  refine k_getS K X0 hx hby hZ hown (host := "") (Or.inl (hw _ (List.mem_of_getElem? (i := 52) rfl))) Via.refl e0 S9 d_prog_47_5_1 rfl fun T1 X1 e1 => ?_
  obtain ⟨T18, X18, e18, st18⟩ : Mx X1 h0 (mkF m 47 #[.val (.ref a1)] [(.int (w1_6 a1 t9 t10 t11 t12 t13 t14))]) (T1.setTop (mkF m 4 #[.val (.ref a1)] [(.ref t9), (.ref a1)])) := by
    refine Mx.with fun K => ?_
    by_cases hc4_2 : a1 = t9
    · refine m_acmp K X1 hx hby (q := 42) true d_prog_47_5_4 rfl rfl (decide_eq_true (congrArg Value.ref hc4_2)) (by decide) rfl ?_
      refine m_iconst K X1.here hx hby (1 : Int32) d_prog_47_5_42 rfl rfl ?_
      refine m_goto K X1.here hx hby (q := 47) d_prog_47_5_43 (by decide) rfl ?_
      rw [show ((w1_6 a1 t9 t10 t11 t12 t13 t14) : Int32) = (1 : Int32) from if_pos hc4_2]
      exact Mx.here X1 e1
    · refine m_acmp K X1 hx hby (q := 7) false d_prog_47_5_4 rfl rfl (decide_eq_false fun q => hc4_2 (Value.ref.inj q)) (by decide) rfl ?_
      refine m_aloadN K X1.here hx hby d_prog_47_5_7 rfl rfl rfl ?_
      refine k_getS K X1 hx hby hZ hown (host := "") (Or.inl (hw _ (List.mem_of_getElem? (i := 53) rfl))) Via.refl e1 S10 d_prog_47_5_8 rfl fun T3 X3 e3 => ?_
      obtain ⟨T17, X17, e17, st17⟩ : Mx X3 h0 (mkF m 47 #[.val (.ref a1)] [(.int (w1_5 a1 t10 t11 t12 t13 t14))]) (T3.setTop (mkF m 11 #[.val (.ref a1)] [(.ref t10), (.ref a1)])) := by
        refine Mx.with fun K => ?_
        by_cases hc11_4 : a1 = t10
        · refine m_acmp K X3 hx hby (q := 42) true d_prog_47_5_11 rfl rfl (decide_eq_true (congrArg Value.ref hc11_4)) (by decide) rfl ?_
          refine m_iconst K X3.here hx hby (1 : Int32) d_prog_47_5_42 rfl rfl ?_
          refine m_goto K X3.here hx hby (q := 47) d_prog_47_5_43 (by decide) rfl ?_
          rw [show ((w1_5 a1 t10 t11 t12 t13 t14) : Int32) = (1 : Int32) from if_pos hc11_4]
          exact Mx.here X3 e3
        · refine m_acmp K X3 hx hby (q := 14) false d_prog_47_5_11 rfl rfl (decide_eq_false fun q => hc11_4 (Value.ref.inj q)) (by decide) rfl ?_
          refine m_aloadN K X3.here hx hby d_prog_47_5_14 rfl rfl rfl ?_
          refine k_getS K X3 hx hby hZ hown (host := "") (Or.inl (hw _ (List.mem_of_getElem? (i := 54) rfl))) Via.refl e3 S11 d_prog_47_5_15 rfl fun T5 X5 e5 => ?_
          obtain ⟨T16, X16, e16, st16⟩ : Mx X5 h0 (mkF m 47 #[.val (.ref a1)] [(.int (w1_4 a1 t11 t12 t13 t14))]) (T5.setTop (mkF m 18 #[.val (.ref a1)] [(.ref t11), (.ref a1)])) := by
            refine Mx.with fun K => ?_
            by_cases hc18_6 : a1 = t11
            · refine m_acmp K X5 hx hby (q := 42) true d_prog_47_5_18 rfl rfl (decide_eq_true (congrArg Value.ref hc18_6)) (by decide) rfl ?_
              refine m_iconst K X5.here hx hby (1 : Int32) d_prog_47_5_42 rfl rfl ?_
              refine m_goto K X5.here hx hby (q := 47) d_prog_47_5_43 (by decide) rfl ?_
              rw [show ((w1_4 a1 t11 t12 t13 t14) : Int32) = (1 : Int32) from if_pos hc18_6]
              exact Mx.here X5 e5
            · refine m_acmp K X5 hx hby (q := 21) false d_prog_47_5_18 rfl rfl (decide_eq_false fun q => hc18_6 (Value.ref.inj q)) (by decide) rfl ?_
              refine m_aloadN K X5.here hx hby d_prog_47_5_21 rfl rfl rfl ?_
              refine k_getS K X5 hx hby hZ hown (host := "") (Or.inl (hw _ (List.mem_of_getElem? (i := 55) rfl))) Via.refl e5 S12 d_prog_47_5_22 rfl fun T7 X7 e7 => ?_
              obtain ⟨T15, X15, e15, st15⟩ : Mx X7 h0 (mkF m 47 #[.val (.ref a1)] [(.int (w1_3 a1 t12 t13 t14))]) (T7.setTop (mkF m 25 #[.val (.ref a1)] [(.ref t12), (.ref a1)])) := by
                refine Mx.with fun K => ?_
                by_cases hc25_8 : a1 = t12
                · refine m_acmp K X7 hx hby (q := 42) true d_prog_47_5_25 rfl rfl (decide_eq_true (congrArg Value.ref hc25_8)) (by decide) rfl ?_
                  refine m_iconst K X7.here hx hby (1 : Int32) d_prog_47_5_42 rfl rfl ?_
                  refine m_goto K X7.here hx hby (q := 47) d_prog_47_5_43 (by decide) rfl ?_
                  rw [show ((w1_3 a1 t12 t13 t14) : Int32) = (1 : Int32) from if_pos hc25_8]
                  exact Mx.here X7 e7
                · refine m_acmp K X7 hx hby (q := 28) false d_prog_47_5_25 rfl rfl (decide_eq_false fun q => hc25_8 (Value.ref.inj q)) (by decide) rfl ?_
                  refine m_aloadN K X7.here hx hby d_prog_47_5_28 rfl rfl rfl ?_
                  refine k_getS K X7 hx hby hZ hown (host := "") (Or.inl (hw _ (List.mem_of_getElem? (i := 56) rfl))) Via.refl e7 S13 d_prog_47_5_29 rfl fun T9 X9 e9 => ?_
                  obtain ⟨T14, X14, e14, st14⟩ : Mx X9 h0 (mkF m 47 #[.val (.ref a1)] [(.int (w1_2 a1 t13 t14))]) (T9.setTop (mkF m 32 #[.val (.ref a1)] [(.ref t13), (.ref a1)])) := by
                    refine Mx.with fun K => ?_
                    by_cases hc32_10 : a1 = t13
                    · refine m_acmp K X9 hx hby (q := 42) true d_prog_47_5_32 rfl rfl (decide_eq_true (congrArg Value.ref hc32_10)) (by decide) rfl ?_
                      refine m_iconst K X9.here hx hby (1 : Int32) d_prog_47_5_42 rfl rfl ?_
                      refine m_goto K X9.here hx hby (q := 47) d_prog_47_5_43 (by decide) rfl ?_
                      rw [show ((w1_2 a1 t13 t14) : Int32) = (1 : Int32) from if_pos hc32_10]
                      exact Mx.here X9 e9
                    · refine m_acmp K X9 hx hby (q := 35) false d_prog_47_5_32 rfl rfl (decide_eq_false fun q => hc32_10 (Value.ref.inj q)) (by decide) rfl ?_
                      refine m_aloadN K X9.here hx hby d_prog_47_5_35 rfl rfl rfl ?_
                      refine k_getS K X9 hx hby hZ hown (host := "") (Or.inl (hw _ (List.mem_of_getElem? (i := 57) rfl))) Via.refl e9 S14 d_prog_47_5_36 rfl fun T11 X11 e11 => ?_
                      obtain ⟨T13, X13, e13, st13⟩ : Mx X11 h0 (mkF m 47 #[.val (.ref a1)] [(.int (w1_1 a1 t14))]) (T11.setTop (mkF m 39 #[.val (.ref a1)] [(.ref t14), (.ref a1)])) := by
                        refine Mx.with fun K => ?_
                        by_cases hc39_12 : a1 = t14
                        · refine m_acmp K X11 hx hby (q := 42) true d_prog_47_5_39 rfl rfl (decide_eq_true (congrArg Value.ref hc39_12)) (by decide) rfl ?_
                          refine m_iconst K X11.here hx hby (1 : Int32) d_prog_47_5_42 rfl rfl ?_
                          refine m_goto K X11.here hx hby (q := 47) d_prog_47_5_43 (by decide) rfl ?_
                          rw [show ((w1_1 a1 t14) : Int32) = (1 : Int32) from if_pos hc39_12]
                          exact Mx.here X11 e11
                        · refine m_acmp K X11 hx hby (q := 46) false d_prog_47_5_39 rfl rfl (decide_eq_false fun q => hc39_12 (Value.ref.inj q)) (by decide) rfl ?_
                          refine m_iconst K X11.here hx hby (0 : Int32) d_prog_47_5_46 rfl rfl ?_
                          rw [show ((w1_1 a1 t14) : Int32) = (0 : Int32) from if_neg hc39_12]
                          exact Mx.here X11 e11
                      refine k_go K st13 ?_
                      rw [show ((w1_2 a1 t13 t14) : Int32) = (w1_1 a1 t14) from if_neg hc32_10]
                      exact Mx.here X13 e13
                  refine k_go K st14 ?_
                  rw [show ((w1_3 a1 t12 t13 t14) : Int32) = (w1_2 a1 t13 t14) from if_neg hc25_8]
                  exact Mx.here X14 e14
              refine k_go K st15 ?_
              rw [show ((w1_4 a1 t11 t12 t13 t14) : Int32) = (w1_3 a1 t12 t13 t14) from if_neg hc18_6]
              exact Mx.here X15 e15
          refine k_go K st16 ?_
          rw [show ((w1_5 a1 t10 t11 t12 t13 t14) : Int32) = (w1_4 a1 t11 t12 t13 t14) from if_neg hc11_4]
          exact Mx.here X16 e16
      refine k_go K st17 ?_
      rw [show ((w1_6 a1 t9 t10 t11 t12 t13 t14) : Int32) = (w1_5 a1 t10 t11 t12 t13 t14) from if_neg hc4_2]
      exact Mx.here X17 e17
  refine k_go K st18 ?_
  exact Go.retN X18 hx hby hlk hret (by simp) d_prog_47_5_47 (by decide) (by decide) (own_nar01 (w1_6_01 a1 t9 t10 t11 t12 t13 t14)) (⟨rfl, e18, rfl⟩)
def w0_1 (p1 : Int32) : Int32 := ((p1 &&& (2147483647 : Int32)) % (21 : Int32))
def w0_2 (p1 : Int32) : Int32 := (if (14 : Int32) < (w0_1 p1) then (0 : Int32) else (1 : Int32))
theorem w0_2_01 (p1 : Int32) : (w0_2 p1) = 0 ∨ (w0_2 p1) = 1 := by
  unfold w0_2
  split
  · exact (Or.inl rfl)
  · exact (Or.inr rfl)
def w0_3 (p1 : Int32) : Int32 := (if (w0_1 p1) < (9 : Int32) then (0 : Int32) else (w0_2 p1))
theorem w0_3_01 (p1 : Int32) : (w0_3 p1) = 0 ∨ (w0_3 p1) = 1 := by
  unfold w0_3
  split
  · exact (Or.inl rfl)
  · exact (w0_2_01 p1)
def w0_4 (p1 : Int32) (tf : (Nat → Addr)) : Int32 := (CMP (tf (w0_1 p1).toNatClampNeg) (tf 9) (tf 10) (tf 11) (tf 12) (tf 13) (tf 14))
def w0_5 (p1 : Int32) (tf : (Nat → Addr)) : Int32 := (if (w0_4 p1 tf) = (w0_3 p1) then (1 : Int32) else (0 : Int32))
theorem w0_5_01 (p1 : Int32) (tf : (Nat → Addr)) : (w0_5 p1 tf) = 0 ∨ (w0_5 p1 tf) = 1 := by
  unfold w0_5
  split
  · exact (Or.inr rfl)
  · exact (Or.inl rfl)
theorem own_eqi {t : Term} {k : Int32} {args : Array Value} {first s : State} {o : Option Outcome} {idx : List Nat} (h : (Jvm.Cond.eq t (Term.int k)).value args first o s idx = some true) : t.eval args first o idx s = some (.int k) := by
  obtain ⟨x, y, h1, h2, k1, k2⟩ := cmp_v (Or.inl h)
  rw [Term.int_eval] at h2
  cases h2
  obtain ⟨z, rfl⟩ := k2
  have e : (Jvm.Cond.eq t (Term.int k)).value args first o s idx = some (decide (z = k)) := by simp [Jvm.Cond.value, h1, Term.int_eval]
  rw [h1, gotT e h]
theorem own_w (p1 : Int32) : 0 ≤ (w0_1 p1).toInt ∧ (w0_1 p1).toInt < 21 := by
  have hm := c_mask p1 (2147483647 : Int32) 31 (by decide) (by decide)
  have hv := (c_iremV (p1 &&& (2147483647 : Int32)) (21 : Int32)).1 (by omega) (by decide)
  have e : (21 : Int32).toInt = 21 := rfl
  rw [e] at hv
  exact ⟨hv.1, hv.2.1⟩
theorem own_n (p1 : Int32) : (w0_1 p1).toNatClampNeg < 21 := by
  have h := own_w p1
  simp only [Int32.toNatClampNeg]; omega
theorem own_nn (p1 : Int32) : ¬ (w0_1 p1) < 0 := by
  have h := own_w p1
  have e0 : (0 : Int32).toInt = 0 := rfl
  rw [Int32.lt_iff_toInt_lt]; omega
theorem own_get (tf : Nat → Addr) (n : Nat) (h : n < 21) : ([.ref (tf 0), .ref (tf 1), .ref (tf 2), .ref (tf 3), .ref (tf 4), .ref (tf 5), .ref (tf 6), .ref (tf 7), .ref (tf 8), .ref (tf 9), .ref (tf 10), .ref (tf 11), .ref (tf 12), .ref (tf 13), .ref (tf 14), .ref (tf 15), .ref (tf 16), .ref (tf 17), .ref (tf 18), .ref (tf 19), .ref (tf 20)] : List Value)[n]? = some (.ref (tf n)) := by
  show ((List.range 21).map fun n => Value.ref (tf n))[n]? = _
  simp [h]
theorem own_cmp (tf : Nat → Addr) (INJ : ∀ i j, i < 21 → j < 21 → tf i = tf j → i = j) (n : Nat) (h : n < 21) : CMP (tf n) (tf 9) (tf 10) (tf 11) (tf 12) (tf 13) (tf 14) = if n < 9 then (0 : Int32) else if 14 < n then 0 else 1 := by
  have hi : ∀ j, j < 21 → (tf n = tf j ↔ n = j) := fun j hj => ⟨INJ n j h hj, fun e => by rw [e]⟩
  simp only [CMP, w1_1, w1_2, w1_3, w1_4, w1_5, w1_6, hi 9 (by decide), hi 10 (by decide), hi 11 (by decide), hi 12 (by decide), hi 13 (by decide), hi 14 (by decide)]
  have : ∀ n : Fin 21, (if n.val = 9 then (1 : Int32) else if n.val = 10 then 1 else if n.val = 11 then 1 else if n.val = 12 then 1 else if n.val = 13 then 1 else if n.val = 14 then 1 else 0) = if n.val < 9 then (0 : Int32) else if 14 < n.val then 0 else 1 := by decide
  exact this ⟨n, h⟩
theorem plain (p1 : Int32) (tf : Nat → Addr) (INJ : ∀ i j, i < 21 → j < 21 → tf i = tf j → i = j) : w0_5 p1 tf = (1 : Int32) := by
  refine if_pos ?_
  show CMP (tf (w0_1 p1).toNatClampNeg) (tf 9) (tf 10) (tf 11) (tf 12) (tf 13) (tf 14) = w0_3 p1
  rw [own_cmp tf INJ _ (own_n p1)]
  have h := own_w p1
  have e : ((w0_1 p1).toNatClampNeg : Int) = (w0_1 p1).toInt := by simp only [Int32.toNatClampNeg]; omega
  have e9 : (9 : Int32).toInt = 9 := rfl
  have e14 : (14 : Int32).toInt = 14 := rfl
  have q1 : (w0_1 p1).toNatClampNeg < 9 ↔ (w0_1 p1) < (9 : Int32) := by rw [Int32.lt_iff_toInt_lt]; omega
  have q2 : 14 < (w0_1 p1).toNatClampNeg ↔ (14 : Int32) < (w0_1 p1) := by rw [Int32.lt_iff_toInt_lt]; omega
  simp only [w0_3, w0_2, q1, q2]
theorem pn_com_example_vetted_query_vettedquery_TokenKindIsComparisonPinLaw : plainName "com/example/vetted_query/vettedquery/TokenKindIsComparisonPinLaw" = true := by first | (simp [plainName, overriddenIn]; done) | decide +kernel
theorem pd_0 : parseMethodDescriptor "()Z" = some ⟨[], some .boolean⟩ := by decide +kernel
theorem ef0 (m : MethodId) (x0 : Int32) : entryFrame m #[(.int x0)] maxLocals = mkF m 0 #[.val (.int x0), .unset, .unset, .unset, .unset] [] := by first | (simp [entryFrame, mkF, argsToLocals, Value.category, maxLocals]; done) | rfl
set_option maxRecDepth 65536 in
set_option maxHeartbeats 40000000 in
theorem law0 (l : Launch) (Z : State) (a0 : Array Value) (hw : ∀ d ∈ tables_1, d.before a0 Z = true) (ws : List Jvm.Cond) (p1 : Int32) (tf : Nat → Addr) (h0 : Heap) (n0 : Nat) (Z0 : n0 ≤ h0.size) (S0 : Sta Z h0 "com/example/vetted_query/vettedquery/TokenKind" "IDENTIFIER" "Lcom/example/vetted_query/vettedquery/TokenKind;" (.ref (tf 0))) (S1 : Sta Z h0 "com/example/vetted_query/vettedquery/TokenKind" "STRING" "Lcom/example/vetted_query/vettedquery/TokenKind;" (.ref (tf 1))) (S2 : Sta Z h0 "com/example/vetted_query/vettedquery/TokenKind" "NUMBER" "Lcom/example/vetted_query/vettedquery/TokenKind;" (.ref (tf 2))) (S3 : Sta Z h0 "com/example/vetted_query/vettedquery/TokenKind" "NAMED_PARAMETER" "Lcom/example/vetted_query/vettedquery/TokenKind;" (.ref (tf 3))) (S4 : Sta Z h0 "com/example/vetted_query/vettedquery/TokenKind" "POSITIONAL_PARAMETER" "Lcom/example/vetted_query/vettedquery/TokenKind;" (.ref (tf 4))) (S5 : Sta Z h0 "com/example/vetted_query/vettedquery/TokenKind" "DOT" "Lcom/example/vetted_query/vettedquery/TokenKind;" (.ref (tf 5))) (S6 : Sta Z h0 "com/example/vetted_query/vettedquery/TokenKind" "COMMA" "Lcom/example/vetted_query/vettedquery/TokenKind;" (.ref (tf 6))) (S7 : Sta Z h0 "com/example/vetted_query/vettedquery/TokenKind" "LEFT_PAREN" "Lcom/example/vetted_query/vettedquery/TokenKind;" (.ref (tf 7))) (S8 : Sta Z h0 "com/example/vetted_query/vettedquery/TokenKind" "RIGHT_PAREN" "Lcom/example/vetted_query/vettedquery/TokenKind;" (.ref (tf 8))) (S9 : Sta Z h0 "com/example/vetted_query/vettedquery/TokenKind" "EQUAL" "Lcom/example/vetted_query/vettedquery/TokenKind;" (.ref (tf 9))) (S10 : Sta Z h0 "com/example/vetted_query/vettedquery/TokenKind" "NOT_EQUAL" "Lcom/example/vetted_query/vettedquery/TokenKind;" (.ref (tf 10))) (S11 : Sta Z h0 "com/example/vetted_query/vettedquery/TokenKind" "LESS" "Lcom/example/vetted_query/vettedquery/TokenKind;" (.ref (tf 11))) (S12 : Sta Z h0 "com/example/vetted_query/vettedquery/TokenKind" "LESS_EQUAL" "Lcom/example/vetted_query/vettedquery/TokenKind;" (.ref (tf 12))) (S13 : Sta Z h0 "com/example/vetted_query/vettedquery/TokenKind" "GREATER" "Lcom/example/vetted_query/vettedquery/TokenKind;" (.ref (tf 13))) (S14 : Sta Z h0 "com/example/vetted_query/vettedquery/TokenKind" "GREATER_EQUAL" "Lcom/example/vetted_query/vettedquery/TokenKind;" (.ref (tf 14))) (S15 : Sta Z h0 "com/example/vetted_query/vettedquery/TokenKind" "PLUS" "Lcom/example/vetted_query/vettedquery/TokenKind;" (.ref (tf 15))) (S16 : Sta Z h0 "com/example/vetted_query/vettedquery/TokenKind" "MINUS" "Lcom/example/vetted_query/vettedquery/TokenKind;" (.ref (tf 16))) (S17 : Sta Z h0 "com/example/vetted_query/vettedquery/TokenKind" "STAR" "Lcom/example/vetted_query/vettedquery/TokenKind;" (.ref (tf 17))) (S18 : Sta Z h0 "com/example/vetted_query/vettedquery/TokenKind" "SLASH" "Lcom/example/vetted_query/vettedquery/TokenKind;" (.ref (tf 18))) (S19 : Sta Z h0 "com/example/vetted_query/vettedquery/TokenKind" "PERCENT" "Lcom/example/vetted_query/vettedquery/TokenKind;" (.ref (tf 19))) (S20 : Sta Z h0 "com/example/vetted_query/vettedquery/TokenKind" "END" "Lcom/example/vetted_query/vettedquery/TokenKind;" (.ref (tf 20))) (EX : ∀ n, n < 21 → Exa Z h0 (tf n) "com/example/vetted_query/vettedquery/TokenKind") (INJ : ∀ i j, i < 21 → j < 21 → tf i = tf j → i = j) :
    Con l Z x code maxLocals ret room_1 ws #[(.int p1)] h0 (fun v h L => v = some (.int 1) ∧ Fr n0 L) := by
  refine Con.of (plainFor_of_name pn_com_example_vetted_query_vettedquery_TokenKindIsComparisonPinLaw) #[.val (.int p1), .unset, .unset, .unset, .unset] (fun m => ef0 m p1) ?_
  intro p e s m below meth c s₁ K hx hby hml hown hnm hret hlk hZ X0 e0
  have N0 := Fr.nil n0
  refine m_bipush K X0.here hx hby (21 : Int32) at_0 rfl rfl ?_
  refine k_newR K X0 hx hby hZ 21 21 hown (hw _ (List.mem_of_getElem? (i := 0) rfl)) (hw _ (List.mem_of_getElem? (i := 1) rfl)) e0 at_2 rfl (by decide) rfl (by decide) (by decide) (by decide) (by decide) fun T1 h1 b1 X1 e1 E1 g1 U_b1 => ?_
  have sz_b1 : h0.size ≤ b1 := Nat.le_trans (Nat.le_refl _) (Nat.le_of_eq g1.symm)
  have g_b1 : n0 ≤ b1 := Nat.le_trans Z0 sz_b1
  replace U_b1 : Avr Z h1 b1 "com/example/vetted_query/vettedquery/TokenKind" [.null, .null, .null, .null, .null, .null, .null, .null, .null, .null, .null, .null, .null, .null, .null, .null, .null, .null, .null, .null, .null] := U_b1
  refine m_dup K X1.here hx hby at_5 rfl rfl ?_
  refine m_iconst K X1.here hx hby (0 : Int32) at_6 rfl rfl ?_
  refine k_getS K X1 hx hby hZ hown (host := "") (Or.inl (hw _ (List.mem_of_getElem? (i := 2) rfl))) Via.refl e1 (S0.ext E1) at_7 rfl fun T2 X2 e2 => ?_
  refine k_stR K X2 hx hby hZ e2 U_b1 (by decide) (Nat.le_of_ble_eq_true rfl) (Or.inr ⟨_, rfl, (Ins.self ((EX 0 (by decide)).ext E1))⟩) at_10 rfl fun T3 h3 X3 e3 W3 V3 => ?_
  replace V3 : Avr Z h3 b1 "com/example/vetted_query/vettedquery/TokenKind" [(.ref (tf 0)), .null, .null, .null, .null, .null, .null, .null, .null, .null, .null, .null, .null, .null, .null, .null, .null, .null, .null, .null, .null] := V3
  have N3 := Fr.snoc X3 N0 g_b1
  refine m_dup K X3.here hx hby at_11 rfl rfl ?_
  refine m_iconst K X3.here hx hby (1 : Int32) at_12 rfl rfl ?_
  refine k_getS K X3 hx hby hZ hown (host := "") (Or.inl (hw _ (List.mem_of_getElem? (i := 6) rfl))) Via.refl e3 ((S1.ext E1).wr W3) at_13 rfl fun T4 X4 e4 => ?_
  refine k_stR K X4 hx hby hZ e4 V3 (by decide) (Nat.le_of_ble_eq_true rfl) (Or.inr ⟨_, rfl, (Ins.self (((EX 1 (by decide)).ext E1).wr W3))⟩) at_16 rfl fun T5 h5 X5 e5 W5 V5 => ?_
  replace V5 : Avr Z h5 b1 "com/example/vetted_query/vettedquery/TokenKind" [(.ref (tf 0)), (.ref (tf 1)), .null, .null, .null, .null, .null, .null, .null, .null, .null, .null, .null, .null, .null, .null, .null, .null, .null, .null, .null] := V5
  have N5 := Fr.snoc X5 N3 g_b1
  refine m_dup K X5.here hx hby at_17 rfl rfl ?_
  refine m_iconst K X5.here hx hby (2 : Int32) at_18 rfl rfl ?_
  refine k_getS K X5 hx hby hZ hown (host := "") (Or.inl (hw _ (List.mem_of_getElem? (i := 8) rfl))) Via.refl e5 (((S2.ext E1).wr W3).wr W5) at_19 rfl fun T6 X6 e6 => ?_
  refine k_stR K X6 hx hby hZ e6 V5 (by decide) (Nat.le_of_ble_eq_true rfl) (Or.inr ⟨_, rfl, (Ins.self ((((EX 2 (by decide)).ext E1).wr W3).wr W5))⟩) at_22 rfl fun T7 h7 X7 e7 W7 V7 => ?_
  replace V7 : Avr Z h7 b1 "com/example/vetted_query/vettedquery/TokenKind" [(.ref (tf 0)), (.ref (tf 1)), (.ref (tf 2)), .null, .null, .null, .null, .null, .null, .null, .null, .null, .null, .null, .null, .null, .null, .null, .null, .null, .null] := V7
  have N7 := Fr.snoc X7 N5 g_b1
  refine m_dup K X7.here hx hby at_23 rfl rfl ?_
  refine m_iconst K X7.here hx hby (3 : Int32) at_24 rfl rfl ?_
  refine k_getS K X7 hx hby hZ hown (host := "") (Or.inl (hw _ (List.mem_of_getElem? (i := 10) rfl))) Via.refl e7 ((((S3.ext E1).wr W3).wr W5).wr W7) at_25 rfl fun T8 X8 e8 => ?_
  refine k_stR K X8 hx hby hZ e8 V7 (by decide) (Nat.le_of_ble_eq_true rfl) (Or.inr ⟨_, rfl, (Ins.self (((((EX 3 (by decide)).ext E1).wr W3).wr W5).wr W7))⟩) at_28 rfl fun T9 h9 X9 e9 W9 V9 => ?_
  replace V9 : Avr Z h9 b1 "com/example/vetted_query/vettedquery/TokenKind" [(.ref (tf 0)), (.ref (tf 1)), (.ref (tf 2)), (.ref (tf 3)), .null, .null, .null, .null, .null, .null, .null, .null, .null, .null, .null, .null, .null, .null, .null, .null, .null] := V9
  have N9 := Fr.snoc X9 N7 g_b1
  refine m_dup K X9.here hx hby at_29 rfl rfl ?_
  refine m_iconst K X9.here hx hby (4 : Int32) at_30 rfl rfl ?_
  refine k_getS K X9 hx hby hZ hown (host := "") (Or.inl (hw _ (List.mem_of_getElem? (i := 12) rfl))) Via.refl e9 (((((S4.ext E1).wr W3).wr W5).wr W7).wr W9) at_31 rfl fun T10 X10 e10 => ?_
  refine k_stR K X10 hx hby hZ e10 V9 (by decide) (Nat.le_of_ble_eq_true rfl) (Or.inr ⟨_, rfl, (Ins.self ((((((EX 4 (by decide)).ext E1).wr W3).wr W5).wr W7).wr W9))⟩) at_34 rfl fun T11 h11 X11 e11 W11 V11 => ?_
  replace V11 : Avr Z h11 b1 "com/example/vetted_query/vettedquery/TokenKind" [(.ref (tf 0)), (.ref (tf 1)), (.ref (tf 2)), (.ref (tf 3)), (.ref (tf 4)), .null, .null, .null, .null, .null, .null, .null, .null, .null, .null, .null, .null, .null, .null, .null, .null] := V11
  have N11 := Fr.snoc X11 N9 g_b1
  refine m_dup K X11.here hx hby at_35 rfl rfl ?_
  refine m_iconst K X11.here hx hby (5 : Int32) at_36 rfl rfl ?_
  refine k_getS K X11 hx hby hZ hown (host := "") (Or.inl (hw _ (List.mem_of_getElem? (i := 14) rfl))) Via.refl e11 ((((((S5.ext E1).wr W3).wr W5).wr W7).wr W9).wr W11) at_37 rfl fun T12 X12 e12 => ?_
  refine k_stR K X12 hx hby hZ e12 V11 (by decide) (Nat.le_of_ble_eq_true rfl) (Or.inr ⟨_, rfl, (Ins.self (((((((EX 5 (by decide)).ext E1).wr W3).wr W5).wr W7).wr W9).wr W11))⟩) at_40 rfl fun T13 h13 X13 e13 W13 V13 => ?_
  replace V13 : Avr Z h13 b1 "com/example/vetted_query/vettedquery/TokenKind" [(.ref (tf 0)), (.ref (tf 1)), (.ref (tf 2)), (.ref (tf 3)), (.ref (tf 4)), (.ref (tf 5)), .null, .null, .null, .null, .null, .null, .null, .null, .null, .null, .null, .null, .null, .null, .null] := V13
  have N13 := Fr.snoc X13 N11 g_b1
  refine m_dup K X13.here hx hby at_41 rfl rfl ?_
  refine m_bipush K X13.here hx hby (6 : Int32) at_42 rfl rfl ?_
  refine k_getS K X13 hx hby hZ hown (host := "") (Or.inl (hw _ (List.mem_of_getElem? (i := 16) rfl))) Via.refl e13 (((((((S6.ext E1).wr W3).wr W5).wr W7).wr W9).wr W11).wr W13) at_44 rfl fun T14 X14 e14 => ?_
  refine k_stR K X14 hx hby hZ e14 V13 (by decide) (Nat.le_of_ble_eq_true rfl) (Or.inr ⟨_, rfl, (Ins.self ((((((((EX 6 (by decide)).ext E1).wr W3).wr W5).wr W7).wr W9).wr W11).wr W13))⟩) at_47 rfl fun T15 h15 X15 e15 W15 V15 => ?_
  replace V15 : Avr Z h15 b1 "com/example/vetted_query/vettedquery/TokenKind" [(.ref (tf 0)), (.ref (tf 1)), (.ref (tf 2)), (.ref (tf 3)), (.ref (tf 4)), (.ref (tf 5)), (.ref (tf 6)), .null, .null, .null, .null, .null, .null, .null, .null, .null, .null, .null, .null, .null, .null] := V15
  have N15 := Fr.snoc X15 N13 g_b1
  refine m_dup K X15.here hx hby at_48 rfl rfl ?_
  refine m_bipush K X15.here hx hby (7 : Int32) at_49 rfl rfl ?_
  refine k_getS K X15 hx hby hZ hown (host := "") (Or.inl (hw _ (List.mem_of_getElem? (i := 18) rfl))) Via.refl e15 ((((((((S7.ext E1).wr W3).wr W5).wr W7).wr W9).wr W11).wr W13).wr W15) at_51 rfl fun T16 X16 e16 => ?_
  refine k_stR K X16 hx hby hZ e16 V15 (by decide) (Nat.le_of_ble_eq_true rfl) (Or.inr ⟨_, rfl, (Ins.self (((((((((EX 7 (by decide)).ext E1).wr W3).wr W5).wr W7).wr W9).wr W11).wr W13).wr W15))⟩) at_54 rfl fun T17 h17 X17 e17 W17 V17 => ?_
  replace V17 : Avr Z h17 b1 "com/example/vetted_query/vettedquery/TokenKind" [(.ref (tf 0)), (.ref (tf 1)), (.ref (tf 2)), (.ref (tf 3)), (.ref (tf 4)), (.ref (tf 5)), (.ref (tf 6)), (.ref (tf 7)), .null, .null, .null, .null, .null, .null, .null, .null, .null, .null, .null, .null, .null] := V17
  have N17 := Fr.snoc X17 N15 g_b1
  refine m_dup K X17.here hx hby at_55 rfl rfl ?_
  refine m_bipush K X17.here hx hby (8 : Int32) at_56 rfl rfl ?_
  refine k_getS K X17 hx hby hZ hown (host := "") (Or.inl (hw _ (List.mem_of_getElem? (i := 20) rfl))) Via.refl e17 (((((((((S8.ext E1).wr W3).wr W5).wr W7).wr W9).wr W11).wr W13).wr W15).wr W17) at_58 rfl fun T18 X18 e18 => ?_
  refine k_stR K X18 hx hby hZ e18 V17 (by decide) (Nat.le_of_ble_eq_true rfl) (Or.inr ⟨_, rfl, (Ins.self ((((((((((EX 8 (by decide)).ext E1).wr W3).wr W5).wr W7).wr W9).wr W11).wr W13).wr W15).wr W17))⟩) at_61 rfl fun T19 h19 X19 e19 W19 V19 => ?_
  replace V19 : Avr Z h19 b1 "com/example/vetted_query/vettedquery/TokenKind" [(.ref (tf 0)), (.ref (tf 1)), (.ref (tf 2)), (.ref (tf 3)), (.ref (tf 4)), (.ref (tf 5)), (.ref (tf 6)), (.ref (tf 7)), (.ref (tf 8)), .null, .null, .null, .null, .null, .null, .null, .null, .null, .null, .null, .null] := V19
  have N19 := Fr.snoc X19 N17 g_b1
  refine m_dup K X19.here hx hby at_62 rfl rfl ?_
  refine m_bipush K X19.here hx hby (9 : Int32) at_63 rfl rfl ?_
  refine k_getS K X19 hx hby hZ hown (host := "") (Or.inl (hw _ (List.mem_of_getElem? (i := 22) rfl))) Via.refl e19 ((((((((((S9.ext E1).wr W3).wr W5).wr W7).wr W9).wr W11).wr W13).wr W15).wr W17).wr W19) at_65 rfl fun T20 X20 e20 => ?_
  refine k_stR K X20 hx hby hZ e20 V19 (by decide) (Nat.le_of_ble_eq_true rfl) (Or.inr ⟨_, rfl, (Ins.self (((((((((((EX 9 (by decide)).ext E1).wr W3).wr W5).wr W7).wr W9).wr W11).wr W13).wr W15).wr W17).wr W19))⟩) at_68 rfl fun T21 h21 X21 e21 W21 V21 => ?_
  replace V21 : Avr Z h21 b1 "com/example/vetted_query/vettedquery/TokenKind" [(.ref (tf 0)), (.ref (tf 1)), (.ref (tf 2)), (.ref (tf 3)), (.ref (tf 4)), (.ref (tf 5)), (.ref (tf 6)), (.ref (tf 7)), (.ref (tf 8)), (.ref (tf 9)), .null, .null, .null, .null, .null, .null, .null, .null, .null, .null, .null] := V21
  have N21 := Fr.snoc X21 N19 g_b1
  refine m_dup K X21.here hx hby at_69 rfl rfl ?_
  refine m_bipush K X21.here hx hby (10 : Int32) at_70 rfl rfl ?_
  refine k_getS K X21 hx hby hZ hown (host := "") (Or.inl (hw _ (List.mem_of_getElem? (i := 24) rfl))) Via.refl e21 (((((((((((S10.ext E1).wr W3).wr W5).wr W7).wr W9).wr W11).wr W13).wr W15).wr W17).wr W19).wr W21) at_72 rfl fun T22 X22 e22 => ?_
  refine k_stR K X22 hx hby hZ e22 V21 (by decide) (Nat.le_of_ble_eq_true rfl) (Or.inr ⟨_, rfl, (Ins.self ((((((((((((EX 10 (by decide)).ext E1).wr W3).wr W5).wr W7).wr W9).wr W11).wr W13).wr W15).wr W17).wr W19).wr W21))⟩) at_75 rfl fun T23 h23 X23 e23 W23 V23 => ?_
  replace V23 : Avr Z h23 b1 "com/example/vetted_query/vettedquery/TokenKind" [(.ref (tf 0)), (.ref (tf 1)), (.ref (tf 2)), (.ref (tf 3)), (.ref (tf 4)), (.ref (tf 5)), (.ref (tf 6)), (.ref (tf 7)), (.ref (tf 8)), (.ref (tf 9)), (.ref (tf 10)), .null, .null, .null, .null, .null, .null, .null, .null, .null, .null] := V23
  have N23 := Fr.snoc X23 N21 g_b1
  refine m_dup K X23.here hx hby at_76 rfl rfl ?_
  refine m_bipush K X23.here hx hby (11 : Int32) at_77 rfl rfl ?_
  refine k_getS K X23 hx hby hZ hown (host := "") (Or.inl (hw _ (List.mem_of_getElem? (i := 26) rfl))) Via.refl e23 ((((((((((((S11.ext E1).wr W3).wr W5).wr W7).wr W9).wr W11).wr W13).wr W15).wr W17).wr W19).wr W21).wr W23) at_79 rfl fun T24 X24 e24 => ?_
  refine k_stR K X24 hx hby hZ e24 V23 (by decide) (Nat.le_of_ble_eq_true rfl) (Or.inr ⟨_, rfl, (Ins.self (((((((((((((EX 11 (by decide)).ext E1).wr W3).wr W5).wr W7).wr W9).wr W11).wr W13).wr W15).wr W17).wr W19).wr W21).wr W23))⟩) at_82 rfl fun T25 h25 X25 e25 W25 V25 => ?_
  replace V25 : Avr Z h25 b1 "com/example/vetted_query/vettedquery/TokenKind" [(.ref (tf 0)), (.ref (tf 1)), (.ref (tf 2)), (.ref (tf 3)), (.ref (tf 4)), (.ref (tf 5)), (.ref (tf 6)), (.ref (tf 7)), (.ref (tf 8)), (.ref (tf 9)), (.ref (tf 10)), (.ref (tf 11)), .null, .null, .null, .null, .null, .null, .null, .null, .null] := V25
  have N25 := Fr.snoc X25 N23 g_b1
  refine m_dup K X25.here hx hby at_83 rfl rfl ?_
  refine m_bipush K X25.here hx hby (12 : Int32) at_84 rfl rfl ?_
  refine k_getS K X25 hx hby hZ hown (host := "") (Or.inl (hw _ (List.mem_of_getElem? (i := 28) rfl))) Via.refl e25 (((((((((((((S12.ext E1).wr W3).wr W5).wr W7).wr W9).wr W11).wr W13).wr W15).wr W17).wr W19).wr W21).wr W23).wr W25) at_86 rfl fun T26 X26 e26 => ?_
  refine k_stR K X26 hx hby hZ e26 V25 (by decide) (Nat.le_of_ble_eq_true rfl) (Or.inr ⟨_, rfl, (Ins.self ((((((((((((((EX 12 (by decide)).ext E1).wr W3).wr W5).wr W7).wr W9).wr W11).wr W13).wr W15).wr W17).wr W19).wr W21).wr W23).wr W25))⟩) at_89 rfl fun T27 h27 X27 e27 W27 V27 => ?_
  replace V27 : Avr Z h27 b1 "com/example/vetted_query/vettedquery/TokenKind" [(.ref (tf 0)), (.ref (tf 1)), (.ref (tf 2)), (.ref (tf 3)), (.ref (tf 4)), (.ref (tf 5)), (.ref (tf 6)), (.ref (tf 7)), (.ref (tf 8)), (.ref (tf 9)), (.ref (tf 10)), (.ref (tf 11)), (.ref (tf 12)), .null, .null, .null, .null, .null, .null, .null, .null] := V27
  have N27 := Fr.snoc X27 N25 g_b1
  refine m_dup K X27.here hx hby at_90 rfl rfl ?_
  refine m_bipush K X27.here hx hby (13 : Int32) at_91 rfl rfl ?_
  refine k_getS K X27 hx hby hZ hown (host := "") (Or.inl (hw _ (List.mem_of_getElem? (i := 30) rfl))) Via.refl e27 ((((((((((((((S13.ext E1).wr W3).wr W5).wr W7).wr W9).wr W11).wr W13).wr W15).wr W17).wr W19).wr W21).wr W23).wr W25).wr W27) at_93 rfl fun T28 X28 e28 => ?_
  refine k_stR K X28 hx hby hZ e28 V27 (by decide) (Nat.le_of_ble_eq_true rfl) (Or.inr ⟨_, rfl, (Ins.self (((((((((((((((EX 13 (by decide)).ext E1).wr W3).wr W5).wr W7).wr W9).wr W11).wr W13).wr W15).wr W17).wr W19).wr W21).wr W23).wr W25).wr W27))⟩) at_96 rfl fun T29 h29 X29 e29 W29 V29 => ?_
  replace V29 : Avr Z h29 b1 "com/example/vetted_query/vettedquery/TokenKind" [(.ref (tf 0)), (.ref (tf 1)), (.ref (tf 2)), (.ref (tf 3)), (.ref (tf 4)), (.ref (tf 5)), (.ref (tf 6)), (.ref (tf 7)), (.ref (tf 8)), (.ref (tf 9)), (.ref (tf 10)), (.ref (tf 11)), (.ref (tf 12)), (.ref (tf 13)), .null, .null, .null, .null, .null, .null, .null] := V29
  have N29 := Fr.snoc X29 N27 g_b1
  refine m_dup K X29.here hx hby at_97 rfl rfl ?_
  refine m_bipush K X29.here hx hby (14 : Int32) at_98 rfl rfl ?_
  refine k_getS K X29 hx hby hZ hown (host := "") (Or.inl (hw _ (List.mem_of_getElem? (i := 32) rfl))) Via.refl e29 (((((((((((((((S14.ext E1).wr W3).wr W5).wr W7).wr W9).wr W11).wr W13).wr W15).wr W17).wr W19).wr W21).wr W23).wr W25).wr W27).wr W29) at_100 rfl fun T30 X30 e30 => ?_
  refine k_stR K X30 hx hby hZ e30 V29 (by decide) (Nat.le_of_ble_eq_true rfl) (Or.inr ⟨_, rfl, (Ins.self ((((((((((((((((EX 14 (by decide)).ext E1).wr W3).wr W5).wr W7).wr W9).wr W11).wr W13).wr W15).wr W17).wr W19).wr W21).wr W23).wr W25).wr W27).wr W29))⟩) at_103 rfl fun T31 h31 X31 e31 W31 V31 => ?_
  replace V31 : Avr Z h31 b1 "com/example/vetted_query/vettedquery/TokenKind" [(.ref (tf 0)), (.ref (tf 1)), (.ref (tf 2)), (.ref (tf 3)), (.ref (tf 4)), (.ref (tf 5)), (.ref (tf 6)), (.ref (tf 7)), (.ref (tf 8)), (.ref (tf 9)), (.ref (tf 10)), (.ref (tf 11)), (.ref (tf 12)), (.ref (tf 13)), (.ref (tf 14)), .null, .null, .null, .null, .null, .null] := V31
  have N31 := Fr.snoc X31 N29 g_b1
  refine m_dup K X31.here hx hby at_104 rfl rfl ?_
  refine m_bipush K X31.here hx hby (15 : Int32) at_105 rfl rfl ?_
  refine k_getS K X31 hx hby hZ hown (host := "") (Or.inl (hw _ (List.mem_of_getElem? (i := 34) rfl))) Via.refl e31 ((((((((((((((((S15.ext E1).wr W3).wr W5).wr W7).wr W9).wr W11).wr W13).wr W15).wr W17).wr W19).wr W21).wr W23).wr W25).wr W27).wr W29).wr W31) at_107 rfl fun T32 X32 e32 => ?_
  refine k_stR K X32 hx hby hZ e32 V31 (by decide) (Nat.le_of_ble_eq_true rfl) (Or.inr ⟨_, rfl, (Ins.self (((((((((((((((((EX 15 (by decide)).ext E1).wr W3).wr W5).wr W7).wr W9).wr W11).wr W13).wr W15).wr W17).wr W19).wr W21).wr W23).wr W25).wr W27).wr W29).wr W31))⟩) at_110 rfl fun T33 h33 X33 e33 W33 V33 => ?_
  replace V33 : Avr Z h33 b1 "com/example/vetted_query/vettedquery/TokenKind" [(.ref (tf 0)), (.ref (tf 1)), (.ref (tf 2)), (.ref (tf 3)), (.ref (tf 4)), (.ref (tf 5)), (.ref (tf 6)), (.ref (tf 7)), (.ref (tf 8)), (.ref (tf 9)), (.ref (tf 10)), (.ref (tf 11)), (.ref (tf 12)), (.ref (tf 13)), (.ref (tf 14)), (.ref (tf 15)), .null, .null, .null, .null, .null] := V33
  have N33 := Fr.snoc X33 N31 g_b1
  refine m_dup K X33.here hx hby at_111 rfl rfl ?_
  refine m_bipush K X33.here hx hby (16 : Int32) at_112 rfl rfl ?_
  refine k_getS K X33 hx hby hZ hown (host := "") (Or.inl (hw _ (List.mem_of_getElem? (i := 36) rfl))) Via.refl e33 (((((((((((((((((S16.ext E1).wr W3).wr W5).wr W7).wr W9).wr W11).wr W13).wr W15).wr W17).wr W19).wr W21).wr W23).wr W25).wr W27).wr W29).wr W31).wr W33) at_114 rfl fun T34 X34 e34 => ?_
  refine k_stR K X34 hx hby hZ e34 V33 (by decide) (Nat.le_of_ble_eq_true rfl) (Or.inr ⟨_, rfl, (Ins.self ((((((((((((((((((EX 16 (by decide)).ext E1).wr W3).wr W5).wr W7).wr W9).wr W11).wr W13).wr W15).wr W17).wr W19).wr W21).wr W23).wr W25).wr W27).wr W29).wr W31).wr W33))⟩) at_117 rfl fun T35 h35 X35 e35 W35 V35 => ?_
  replace V35 : Avr Z h35 b1 "com/example/vetted_query/vettedquery/TokenKind" [(.ref (tf 0)), (.ref (tf 1)), (.ref (tf 2)), (.ref (tf 3)), (.ref (tf 4)), (.ref (tf 5)), (.ref (tf 6)), (.ref (tf 7)), (.ref (tf 8)), (.ref (tf 9)), (.ref (tf 10)), (.ref (tf 11)), (.ref (tf 12)), (.ref (tf 13)), (.ref (tf 14)), (.ref (tf 15)), (.ref (tf 16)), .null, .null, .null, .null] := V35
  have N35 := Fr.snoc X35 N33 g_b1
  refine m_dup K X35.here hx hby at_118 rfl rfl ?_
  refine m_bipush K X35.here hx hby (17 : Int32) at_119 rfl rfl ?_
  refine k_getS K X35 hx hby hZ hown (host := "") (Or.inl (hw _ (List.mem_of_getElem? (i := 38) rfl))) Via.refl e35 ((((((((((((((((((S17.ext E1).wr W3).wr W5).wr W7).wr W9).wr W11).wr W13).wr W15).wr W17).wr W19).wr W21).wr W23).wr W25).wr W27).wr W29).wr W31).wr W33).wr W35) at_121 rfl fun T36 X36 e36 => ?_
  refine k_stR K X36 hx hby hZ e36 V35 (by decide) (Nat.le_of_ble_eq_true rfl) (Or.inr ⟨_, rfl, (Ins.self (((((((((((((((((((EX 17 (by decide)).ext E1).wr W3).wr W5).wr W7).wr W9).wr W11).wr W13).wr W15).wr W17).wr W19).wr W21).wr W23).wr W25).wr W27).wr W29).wr W31).wr W33).wr W35))⟩) at_124 rfl fun T37 h37 X37 e37 W37 V37 => ?_
  replace V37 : Avr Z h37 b1 "com/example/vetted_query/vettedquery/TokenKind" [(.ref (tf 0)), (.ref (tf 1)), (.ref (tf 2)), (.ref (tf 3)), (.ref (tf 4)), (.ref (tf 5)), (.ref (tf 6)), (.ref (tf 7)), (.ref (tf 8)), (.ref (tf 9)), (.ref (tf 10)), (.ref (tf 11)), (.ref (tf 12)), (.ref (tf 13)), (.ref (tf 14)), (.ref (tf 15)), (.ref (tf 16)), (.ref (tf 17)), .null, .null, .null] := V37
  have N37 := Fr.snoc X37 N35 g_b1
  refine m_dup K X37.here hx hby at_125 rfl rfl ?_
  refine m_bipush K X37.here hx hby (18 : Int32) at_126 rfl rfl ?_
  refine k_getS K X37 hx hby hZ hown (host := "") (Or.inl (hw _ (List.mem_of_getElem? (i := 40) rfl))) Via.refl e37 (((((((((((((((((((S18.ext E1).wr W3).wr W5).wr W7).wr W9).wr W11).wr W13).wr W15).wr W17).wr W19).wr W21).wr W23).wr W25).wr W27).wr W29).wr W31).wr W33).wr W35).wr W37) at_128 rfl fun T38 X38 e38 => ?_
  refine k_stR K X38 hx hby hZ e38 V37 (by decide) (Nat.le_of_ble_eq_true rfl) (Or.inr ⟨_, rfl, (Ins.self ((((((((((((((((((((EX 18 (by decide)).ext E1).wr W3).wr W5).wr W7).wr W9).wr W11).wr W13).wr W15).wr W17).wr W19).wr W21).wr W23).wr W25).wr W27).wr W29).wr W31).wr W33).wr W35).wr W37))⟩) at_131 rfl fun T39 h39 X39 e39 W39 V39 => ?_
  replace V39 : Avr Z h39 b1 "com/example/vetted_query/vettedquery/TokenKind" [(.ref (tf 0)), (.ref (tf 1)), (.ref (tf 2)), (.ref (tf 3)), (.ref (tf 4)), (.ref (tf 5)), (.ref (tf 6)), (.ref (tf 7)), (.ref (tf 8)), (.ref (tf 9)), (.ref (tf 10)), (.ref (tf 11)), (.ref (tf 12)), (.ref (tf 13)), (.ref (tf 14)), (.ref (tf 15)), (.ref (tf 16)), (.ref (tf 17)), (.ref (tf 18)), .null, .null] := V39
  have N39 := Fr.snoc X39 N37 g_b1
  refine m_dup K X39.here hx hby at_132 rfl rfl ?_
  refine m_bipush K X39.here hx hby (19 : Int32) at_133 rfl rfl ?_
  refine k_getS K X39 hx hby hZ hown (host := "") (Or.inl (hw _ (List.mem_of_getElem? (i := 42) rfl))) Via.refl e39 ((((((((((((((((((((S19.ext E1).wr W3).wr W5).wr W7).wr W9).wr W11).wr W13).wr W15).wr W17).wr W19).wr W21).wr W23).wr W25).wr W27).wr W29).wr W31).wr W33).wr W35).wr W37).wr W39) at_135 rfl fun T40 X40 e40 => ?_
  refine k_stR K X40 hx hby hZ e40 V39 (by decide) (Nat.le_of_ble_eq_true rfl) (Or.inr ⟨_, rfl, (Ins.self (((((((((((((((((((((EX 19 (by decide)).ext E1).wr W3).wr W5).wr W7).wr W9).wr W11).wr W13).wr W15).wr W17).wr W19).wr W21).wr W23).wr W25).wr W27).wr W29).wr W31).wr W33).wr W35).wr W37).wr W39))⟩) at_138 rfl fun T41 h41 X41 e41 W41 V41 => ?_
  replace V41 : Avr Z h41 b1 "com/example/vetted_query/vettedquery/TokenKind" [(.ref (tf 0)), (.ref (tf 1)), (.ref (tf 2)), (.ref (tf 3)), (.ref (tf 4)), (.ref (tf 5)), (.ref (tf 6)), (.ref (tf 7)), (.ref (tf 8)), (.ref (tf 9)), (.ref (tf 10)), (.ref (tf 11)), (.ref (tf 12)), (.ref (tf 13)), (.ref (tf 14)), (.ref (tf 15)), (.ref (tf 16)), (.ref (tf 17)), (.ref (tf 18)), (.ref (tf 19)), .null] := V41
  have N41 := Fr.snoc X41 N39 g_b1
  refine m_dup K X41.here hx hby at_139 rfl rfl ?_
  refine m_bipush K X41.here hx hby (20 : Int32) at_140 rfl rfl ?_
  refine k_getS K X41 hx hby hZ hown (host := "") (Or.inl (hw _ (List.mem_of_getElem? (i := 44) rfl))) Via.refl e41 (((((((((((((((((((((S20.ext E1).wr W3).wr W5).wr W7).wr W9).wr W11).wr W13).wr W15).wr W17).wr W19).wr W21).wr W23).wr W25).wr W27).wr W29).wr W31).wr W33).wr W35).wr W37).wr W39).wr W41) at_142 rfl fun T42 X42 e42 => ?_
  refine k_stR K X42 hx hby hZ e42 V41 (by decide) (Nat.le_of_ble_eq_true rfl) (Or.inr ⟨_, rfl, (Ins.self ((((((((((((((((((((((EX 20 (by decide)).ext E1).wr W3).wr W5).wr W7).wr W9).wr W11).wr W13).wr W15).wr W17).wr W19).wr W21).wr W23).wr W25).wr W27).wr W29).wr W31).wr W33).wr W35).wr W37).wr W39).wr W41))⟩) at_145 rfl fun T43 h43 X43 e43 W43 V43 => ?_
  replace V43 : Avr Z h43 b1 "com/example/vetted_query/vettedquery/TokenKind" [(.ref (tf 0)), (.ref (tf 1)), (.ref (tf 2)), (.ref (tf 3)), (.ref (tf 4)), (.ref (tf 5)), (.ref (tf 6)), (.ref (tf 7)), (.ref (tf 8)), (.ref (tf 9)), (.ref (tf 10)), (.ref (tf 11)), (.ref (tf 12)), (.ref (tf 13)), (.ref (tf 14)), (.ref (tf 15)), (.ref (tf 16)), (.ref (tf 17)), (.ref (tf 18)), (.ref (tf 19)), (.ref (tf 20))] := V43
  have N43 := Fr.snoc X43 N41 g_b1
  refine m_astoreN K X43.here hx hby #[.val (.int p1), .val (.ref b1), .unset, .unset, .unset] at_146 rfl rfl rfl ?_
  refine m_iloadN K X43.here hx hby at_147 rfl rfl ?_
  refine m_ldc K X43 hx hby hZ hown (hw _ (List.mem_of_getElem? (i := 46) rfl)) at_148 rfl ?_
  refine m_iand K X43.here hx hby (p1 &&& (2147483647 : Int32)) at_150 rfl rfl ?_
  refine m_bipush K X43.here hx hby (21 : Int32) at_151 rfl rfl ?_
  refine m_irem K X43.here hx hby (w0_1 p1) at_153 (by decide) rfl rfl ?_
  refine m_istoreN K X43.here hx hby #[.val (.int p1), .val (.ref b1), .val (.int (w0_1 p1)), .unset, .unset] at_154 rfl rfl ?_
  refine m_aloadN K X43.here hx hby at_155 rfl rfl rfl ?_
  refine m_iloadN K X43.here hx hby at_156 rfl rfl ?_
  refine k_ldR K X43 hx hby hZ e43 rfl V43.av (v := (.ref (tf (w0_1 p1).toNatClampNeg))) (own_nn p1) (own_get tf _ (own_n p1)) at_157 rfl ?_
  refine m_astoreN K X43.here hx hby #[.val (.int p1), .val (.ref b1), .val (.int (w0_1 p1)), .val (.ref (tf (w0_1 p1).toNatClampNeg)), .unset] at_158 rfl rfl rfl ?_
  refine m_iloadN K X43.here hx hby at_159 rfl rfl ?_
  refine m_bipush K X43.here hx hby (9 : Int32) at_160 rfl rfl ?_
  obtain ⟨T47, X47, e47, st47⟩ : Mx X43 h43 (mkF m 176 #[.val (.int p1), .val (.ref b1), .val (.int (w0_1 p1)), .val (.ref (tf (w0_1 p1).toNatClampNeg)), .unset] [(.int (w0_3 p1))]) (T43.setTop (mkF m 162 #[.val (.int p1), .val (.ref b1), .val (.int (w0_1 p1)), .val (.ref (tf (w0_1 p1).toNatClampNeg)), .unset] [(.int (9 : Int32)), (.int (w0_1 p1))])) := by
    refine Mx.with fun K => ?_
    by_cases hc162_44 : (w0_1 p1) < (9 : Int32)
    · refine m_icmpY K X43.here hx hby (q := 175) at_162 (tlt hc162_44).1 (by decide) rfl ?_
      refine m_iconst K X43.here hx hby (0 : Int32) at_175 rfl rfl ?_
      rw [show ((w0_3 p1) : Int32) = (0 : Int32) from if_pos hc162_44]
      exact Mx.here X43 e43
    · refine m_icmpN K X43.here hx hby (q := 165) at_162 (flt hc162_44).1 rfl ?_
      refine m_iloadN K X43.here hx hby at_165 rfl rfl ?_
      refine m_bipush K X43.here hx hby (14 : Int32) at_166 rfl rfl ?_
      obtain ⟨T46, X46, e46, st46⟩ : Mx X43 h43 (mkF m 176 #[.val (.int p1), .val (.ref b1), .val (.int (w0_1 p1)), .val (.ref (tf (w0_1 p1).toNatClampNeg)), .unset] [(.int (w0_2 p1))]) (T43.setTop (mkF m 168 #[.val (.int p1), .val (.ref b1), .val (.int (w0_1 p1)), .val (.ref (tf (w0_1 p1).toNatClampNeg)), .unset] [(.int (14 : Int32)), (.int (w0_1 p1))])) := by
        refine Mx.with fun K => ?_
        by_cases hc168_45 : (14 : Int32) < (w0_1 p1)
        · refine m_icmpY K X43.here hx hby (q := 175) at_168 (tlt hc168_45).2.2.1 (by decide) rfl ?_
          refine m_iconst K X43.here hx hby (0 : Int32) at_175 rfl rfl ?_
          rw [show ((w0_2 p1) : Int32) = (0 : Int32) from if_pos hc168_45]
          exact Mx.here X43 e43
        · refine m_icmpN K X43.here hx hby (q := 171) at_168 (flt hc168_45).2.2.1 rfl ?_
          refine m_iconst K X43.here hx hby (1 : Int32) at_171 rfl rfl ?_
          refine m_goto K X43.here hx hby (q := 176) at_172 (by decide) rfl ?_
          rw [show ((w0_2 p1) : Int32) = (1 : Int32) from if_neg hc168_45]
          exact Mx.here X43 e43
      refine k_go K st46 ?_
      rw [show ((w0_3 p1) : Int32) = (w0_2 p1) from if_neg hc162_44]
      exact Mx.here X46 e46
  refine k_go K st47 ?_
  refine m_istore K X47.here hx hby #[.val (.int p1), .val (.ref b1), .val (.int (w0_1 p1)), .val (.ref (tf (w0_1 p1).toNatClampNeg)), .val (.int (w0_3 p1))] at_176 rfl rfl ?_
  refine m_aloadN K X47.here hx hby at_178 rfl rfl rfl ?_
  refine k_callV K X47 hx hby hZ (tf (w0_1 p1).toNatClampNeg) [] [] hown (hw _ (List.mem_of_getElem? (i := 47) rfl)) (hw _ (List.mem_of_getElem? (i := 48) rfl)) (notFace_of_selects (args := #[]) (mvT hZ (hw _ (List.mem_of_getElem? (i := 50) rfl)))) (hw _ (List.mem_of_getElem? (i := 50) rfl)) (hw _ (List.mem_of_getElem? (i := 49) rfl)) (hw _ (List.mem_of_getElem? (i := 3) rfl)) (hw _ (List.mem_of_getElem? (i := 51) rfl)) (c1 l Z a0 hw (tf (w0_1 p1).toNatClampNeg) (tf 9) (tf 10) (tf 11) (tf 12) (tf 13) (tf 14) h43 n0 (Nat.le_trans Z0 (Nat.le_trans (Nat.le_trans (Nat.le_trans (Nat.le_trans (Nat.le_trans (Nat.le_trans (Nat.le_trans (Nat.le_trans (Nat.le_trans (Nat.le_trans (Nat.le_trans (Nat.le_trans (Nat.le_trans (Nat.le_trans (Nat.le_trans (Nat.le_trans (Nat.le_trans (Nat.le_trans (Nat.le_trans (Nat.le_trans (Nat.le_trans (Nat.le_trans (Nat.le_refl _) E1.1) (Keep.of_wr W3).1) (Keep.of_wr W5).1) (Keep.of_wr W7).1) (Keep.of_wr W9).1) (Keep.of_wr W11).1) (Keep.of_wr W13).1) (Keep.of_wr W15).1) (Keep.of_wr W17).1) (Keep.of_wr W19).1) (Keep.of_wr W21).1) (Keep.of_wr W23).1) (Keep.of_wr W25).1) (Keep.of_wr W27).1) (Keep.of_wr W29).1) (Keep.of_wr W31).1) (Keep.of_wr W33).1) (Keep.of_wr W35).1) (Keep.of_wr W37).1) (Keep.of_wr W39).1) (Keep.of_wr W41).1) (Keep.of_wr W43).1)) ((((((((((((((((((((((S9.ext E1).wr W3).wr W5).wr W7).wr W9).wr W11).wr W13).wr W15).wr W17).wr W19).wr W21).wr W23).wr W25).wr W27).wr W29).wr W31).wr W33).wr W35).wr W37).wr W39).wr W41).wr W43) ((((((((((((((((((((((S10.ext E1).wr W3).wr W5).wr W7).wr W9).wr W11).wr W13).wr W15).wr W17).wr W19).wr W21).wr W23).wr W25).wr W27).wr W29).wr W31).wr W33).wr W35).wr W37).wr W39).wr W41).wr W43) ((((((((((((((((((((((S11.ext E1).wr W3).wr W5).wr W7).wr W9).wr W11).wr W13).wr W15).wr W17).wr W19).wr W21).wr W23).wr W25).wr W27).wr W29).wr W31).wr W33).wr W35).wr W37).wr W39).wr W41).wr W43) ((((((((((((((((((((((S12.ext E1).wr W3).wr W5).wr W7).wr W9).wr W11).wr W13).wr W15).wr W17).wr W19).wr W21).wr W23).wr W25).wr W27).wr W29).wr W31).wr W33).wr W35).wr W37).wr W39).wr W41).wr W43) ((((((((((((((((((((((S13.ext E1).wr W3).wr W5).wr W7).wr W9).wr W11).wr W13).wr W15).wr W17).wr W19).wr W21).wr W23).wr W25).wr W27).wr W29).wr W31).wr W33).wr W35).wr W37).wr W39).wr W41).wr W43) ((((((((((((((((((((((S14.ext E1).wr W3).wr W5).wr W7).wr W9).wr W11).wr W13).wr W15).wr W17).wr W19).wr W21).wr W23).wr W25).wr W27).wr W29).wr W31).wr W33).wr W35).wr W37).wr W39).wr W41).wr W43)) e47 (((((((((((((((((((((((EX _ (own_n p1)).ext E1).wr W3).wr W5).wr W7).wr W9).wr W11).wr W13).wr W15).wr W17).wr W19).wr W21).wr W23).wr W25).wr W27).wr W29).wr W31).wr W33).wr W35).wr W37).wr W39).wr W41).wr W43) rfl rfl pd_0 rfl at_179 (by rw [hml]; rfl) rfl (by decide) (by decide) (Nat.le_of_ble_eq_true rfl) (by decide) (by decide) fun v48 T48 L48 X48 q48 => ?_
  obtain ⟨rfl, e48, rfl⟩ := q48
  replace X48 := own_px X48
  refine k_some K (w := (.int (w0_4 p1 tf))) ?_
  refine m_iload K X48.here hx hby at_182 rfl rfl ?_
  obtain ⟨T50, X50, e50, st50⟩ : Mx X48 h43 (mkF m 192 #[.val (.int p1), .val (.ref b1), .val (.int (w0_1 p1)), .val (.ref (tf (w0_1 p1).toNatClampNeg)), .val (.int (w0_3 p1))] [(.int (w0_5 p1 tf))]) (T48.setTop (mkF m 184 #[.val (.int p1), .val (.ref b1), .val (.int (w0_1 p1)), .val (.ref (tf (w0_1 p1).toNatClampNeg)), .val (.int (w0_3 p1))] [(.int (w0_3 p1)), (.int (w0_4 p1 tf))])) := by
    refine Mx.with fun K => ?_
    by_cases hc184_49 : (w0_4 p1 tf) = (w0_3 p1)
    · refine m_icmpN K X48.here hx hby (q := 187) at_184 (teq hc184_49).2 rfl ?_
      refine m_iconst K X48.here hx hby (1 : Int32) at_187 rfl rfl ?_
      refine m_goto K X48.here hx hby (q := 192) at_188 (by decide) rfl ?_
      rw [show ((w0_5 p1 tf) : Int32) = (1 : Int32) from if_pos hc184_49]
      exact Mx.here X48 e48
    · refine m_icmpY K X48.here hx hby (q := 191) at_184 (feq hc184_49).2 (by decide) rfl ?_
      refine m_iconst K X48.here hx hby (0 : Int32) at_191 rfl rfl ?_
      rw [show ((w0_5 p1 tf) : Int32) = (0 : Int32) from if_neg hc184_49]
      exact Mx.here X48 e48
  refine k_go K st50 ?_
  rw [plain p1 tf INJ]
  exact Go.retN X50 hx hby hlk hret (by simp) at_192 (by decide) (by decide) (by decide) (⟨rfl, N43⟩)
set_option maxRecDepth 65536 in
theorem own_pre {s : State} {args : Array Value} (hw : ∀ d ∈ tables_1, d.before args s = true) (hn : narrow_1.value args s none s [] = some true) : ∃ tf : Nat → Addr, Sta s s.heap "com/example/vetted_query/vettedquery/TokenKind" "IDENTIFIER" "Lcom/example/vetted_query/vettedquery/TokenKind;" (.ref (tf 0)) ∧ Sta s s.heap "com/example/vetted_query/vettedquery/TokenKind" "STRING" "Lcom/example/vetted_query/vettedquery/TokenKind;" (.ref (tf 1)) ∧ Sta s s.heap "com/example/vetted_query/vettedquery/TokenKind" "NUMBER" "Lcom/example/vetted_query/vettedquery/TokenKind;" (.ref (tf 2)) ∧ Sta s s.heap "com/example/vetted_query/vettedquery/TokenKind" "NAMED_PARAMETER" "Lcom/example/vetted_query/vettedquery/TokenKind;" (.ref (tf 3)) ∧ Sta s s.heap "com/example/vetted_query/vettedquery/TokenKind" "POSITIONAL_PARAMETER" "Lcom/example/vetted_query/vettedquery/TokenKind;" (.ref (tf 4)) ∧ Sta s s.heap "com/example/vetted_query/vettedquery/TokenKind" "DOT" "Lcom/example/vetted_query/vettedquery/TokenKind;" (.ref (tf 5)) ∧ Sta s s.heap "com/example/vetted_query/vettedquery/TokenKind" "COMMA" "Lcom/example/vetted_query/vettedquery/TokenKind;" (.ref (tf 6)) ∧ Sta s s.heap "com/example/vetted_query/vettedquery/TokenKind" "LEFT_PAREN" "Lcom/example/vetted_query/vettedquery/TokenKind;" (.ref (tf 7)) ∧ Sta s s.heap "com/example/vetted_query/vettedquery/TokenKind" "RIGHT_PAREN" "Lcom/example/vetted_query/vettedquery/TokenKind;" (.ref (tf 8)) ∧ Sta s s.heap "com/example/vetted_query/vettedquery/TokenKind" "EQUAL" "Lcom/example/vetted_query/vettedquery/TokenKind;" (.ref (tf 9)) ∧ Sta s s.heap "com/example/vetted_query/vettedquery/TokenKind" "NOT_EQUAL" "Lcom/example/vetted_query/vettedquery/TokenKind;" (.ref (tf 10)) ∧ Sta s s.heap "com/example/vetted_query/vettedquery/TokenKind" "LESS" "Lcom/example/vetted_query/vettedquery/TokenKind;" (.ref (tf 11)) ∧ Sta s s.heap "com/example/vetted_query/vettedquery/TokenKind" "LESS_EQUAL" "Lcom/example/vetted_query/vettedquery/TokenKind;" (.ref (tf 12)) ∧ Sta s s.heap "com/example/vetted_query/vettedquery/TokenKind" "GREATER" "Lcom/example/vetted_query/vettedquery/TokenKind;" (.ref (tf 13)) ∧ Sta s s.heap "com/example/vetted_query/vettedquery/TokenKind" "GREATER_EQUAL" "Lcom/example/vetted_query/vettedquery/TokenKind;" (.ref (tf 14)) ∧ Sta s s.heap "com/example/vetted_query/vettedquery/TokenKind" "PLUS" "Lcom/example/vetted_query/vettedquery/TokenKind;" (.ref (tf 15)) ∧ Sta s s.heap "com/example/vetted_query/vettedquery/TokenKind" "MINUS" "Lcom/example/vetted_query/vettedquery/TokenKind;" (.ref (tf 16)) ∧ Sta s s.heap "com/example/vetted_query/vettedquery/TokenKind" "STAR" "Lcom/example/vetted_query/vettedquery/TokenKind;" (.ref (tf 17)) ∧ Sta s s.heap "com/example/vetted_query/vettedquery/TokenKind" "SLASH" "Lcom/example/vetted_query/vettedquery/TokenKind;" (.ref (tf 18)) ∧ Sta s s.heap "com/example/vetted_query/vettedquery/TokenKind" "PERCENT" "Lcom/example/vetted_query/vettedquery/TokenKind;" (.ref (tf 19)) ∧ Sta s s.heap "com/example/vetted_query/vettedquery/TokenKind" "END" "Lcom/example/vetted_query/vettedquery/TokenKind;" (.ref (tf 20)) ∧ (∀ n, n < 21 → Exa s s.heap (tf n) "com/example/vetted_query/vettedquery/TokenKind") ∧ (∀ i j, i < 21 → j < 21 → tf i = tf j → i = j) := by
  obtain ⟨n0, hn⟩ := and_e hn
  obtain ⟨n1, hn⟩ := and_e hn
  obtain ⟨n2, hn⟩ := and_e hn
  obtain ⟨n3, hn⟩ := and_e hn
  obtain ⟨n4, hn⟩ := and_e hn
  obtain ⟨n5, hn⟩ := and_e hn
  obtain ⟨n6, hn⟩ := and_e hn
  obtain ⟨n7, hn⟩ := and_e hn
  obtain ⟨n8, hn⟩ := and_e hn
  obtain ⟨n9, hn⟩ := and_e hn
  obtain ⟨n10, hn⟩ := and_e hn
  obtain ⟨n11, hn⟩ := and_e hn
  obtain ⟨n12, hn⟩ := and_e hn
  obtain ⟨n13, hn⟩ := and_e hn
  obtain ⟨n14, hn⟩ := and_e hn
  obtain ⟨n15, hn⟩ := and_e hn
  obtain ⟨n16, hn⟩ := and_e hn
  obtain ⟨n17, hn⟩ := and_e hn
  obtain ⟨n18, hn⟩ := and_e hn
  obtain ⟨n19, hn⟩ := and_e hn
  obtain ⟨n20, hn⟩ := and_e hn
  obtain ⟨n21, hn⟩ := and_e hn
  obtain ⟨n22, hn⟩ := and_e hn
  obtain ⟨n23, hn⟩ := and_e hn
  obtain ⟨n24, hn⟩ := and_e hn
  obtain ⟨n25, hn⟩ := and_e hn
  obtain ⟨n26, hn⟩ := and_e hn
  obtain ⟨n27, hn⟩ := and_e hn
  obtain ⟨n28, hn⟩ := and_e hn
  obtain ⟨n29, hn⟩ := and_e hn
  obtain ⟨n30, hn⟩ := and_e hn
  obtain ⟨n31, hn⟩ := and_e hn
  obtain ⟨n32, hn⟩ := and_e hn
  obtain ⟨n33, hn⟩ := and_e hn
  obtain ⟨n34, hn⟩ := and_e hn
  obtain ⟨n35, hn⟩ := and_e hn
  obtain ⟨n36, hn⟩ := and_e hn
  obtain ⟨n37, hn⟩ := and_e hn
  obtain ⟨n38, hn⟩ := and_e hn
  obtain ⟨n39, hn⟩ := and_e hn
  obtain ⟨n40, hn⟩ := and_e hn
  obtain ⟨t0, v0⟩ := exa_v n0
  have E0 := Exa.start v0 n0
  have S0 := Sta.start v0 (Or.inr ⟨(hw _ (List.mem_of_getElem? (i := 3) rfl)), (hw _ (List.mem_of_getElem? (i := 4) rfl))⟩)
  have O0 := Fld.start ((fld_at v0).symm.trans (own_eqi n21))
  obtain ⟨t1, v1⟩ := exa_v n1
  have E1 := Exa.start v1 n1
  have S1 := Sta.start v1 (Or.inr ⟨(hw _ (List.mem_of_getElem? (i := 3) rfl)), (hw _ (List.mem_of_getElem? (i := 7) rfl))⟩)
  have O1 := Fld.start ((fld_at v1).symm.trans (own_eqi n34))
  obtain ⟨t2, v2⟩ := exa_v n2
  have E2 := Exa.start v2 n2
  have S2 := Sta.start v2 (Or.inr ⟨(hw _ (List.mem_of_getElem? (i := 3) rfl)), (hw _ (List.mem_of_getElem? (i := 9) rfl))⟩)
  have O2 := Fld.start ((fld_at v2).symm.trans (own_eqi n32))
  obtain ⟨t3, v3⟩ := exa_v n3
  have E3 := Exa.start v3 n3
  have S3 := Sta.start v3 (Or.inr ⟨(hw _ (List.mem_of_getElem? (i := 3) rfl)), (hw _ (List.mem_of_getElem? (i := 11) rfl))⟩)
  have O3 := Fld.start ((fld_at v3).symm.trans (own_eqi n28))
  obtain ⟨t4, v4⟩ := exa_v n4
  have E4 := Exa.start v4 n4
  have S4 := Sta.start v4 (Or.inr ⟨(hw _ (List.mem_of_getElem? (i := 3) rfl)), (hw _ (List.mem_of_getElem? (i := 13) rfl))⟩)
  have O4 := Fld.start ((fld_at v4).symm.trans (own_eqi n40))
  obtain ⟨t5, v5⟩ := exa_v n5
  have E5 := Exa.start v5 n5
  have S5 := Sta.start v5 (Or.inr ⟨(hw _ (List.mem_of_getElem? (i := 3) rfl)), (hw _ (List.mem_of_getElem? (i := 15) rfl))⟩)
  have O5 := Fld.start ((fld_at v5).symm.trans (own_eqi n29))
  obtain ⟨t6, v6⟩ := exa_v n6
  have E6 := Exa.start v6 n6
  have S6 := Sta.start v6 (Or.inr ⟨(hw _ (List.mem_of_getElem? (i := 3) rfl)), (hw _ (List.mem_of_getElem? (i := 17) rfl))⟩)
  have O6 := Fld.start ((fld_at v6).symm.trans (own_eqi n30))
  obtain ⟨t7, v7⟩ := exa_v n7
  have E7 := Exa.start v7 n7
  have S7 := Sta.start v7 (Or.inr ⟨(hw _ (List.mem_of_getElem? (i := 3) rfl)), (hw _ (List.mem_of_getElem? (i := 19) rfl))⟩)
  have O7 := Fld.start ((fld_at v7).symm.trans (own_eqi n31))
  obtain ⟨t8, v8⟩ := exa_v n8
  have E8 := Exa.start v8 n8
  have S8 := Sta.start v8 (Or.inr ⟨(hw _ (List.mem_of_getElem? (i := 3) rfl)), (hw _ (List.mem_of_getElem? (i := 21) rfl))⟩)
  have O8 := Fld.start ((fld_at v8).symm.trans (own_eqi n33))
  obtain ⟨t9, v9⟩ := exa_v n9
  have E9 := Exa.start v9 n9
  have S9 := Sta.start v9 (Or.inr ⟨(hw _ (List.mem_of_getElem? (i := 3) rfl)), (hw _ (List.mem_of_getElem? (i := 23) rfl))⟩)
  have O9 := Fld.start ((fld_at v9).symm.trans (own_eqi n22))
  obtain ⟨t10, v10⟩ := exa_v n10
  have E10 := Exa.start v10 n10
  have S10 := Sta.start v10 (Or.inr ⟨(hw _ (List.mem_of_getElem? (i := 3) rfl)), (hw _ (List.mem_of_getElem? (i := 25) rfl))⟩)
  have O10 := Fld.start ((fld_at v10).symm.trans (own_eqi n23))
  obtain ⟨t11, v11⟩ := exa_v n11
  have E11 := Exa.start v11 n11
  have S11 := Sta.start v11 (Or.inr ⟨(hw _ (List.mem_of_getElem? (i := 3) rfl)), (hw _ (List.mem_of_getElem? (i := 27) rfl))⟩)
  have O11 := Fld.start ((fld_at v11).symm.trans (own_eqi n24))
  obtain ⟨t12, v12⟩ := exa_v n12
  have E12 := Exa.start v12 n12
  have S12 := Sta.start v12 (Or.inr ⟨(hw _ (List.mem_of_getElem? (i := 3) rfl)), (hw _ (List.mem_of_getElem? (i := 29) rfl))⟩)
  have O12 := Fld.start ((fld_at v12).symm.trans (own_eqi n25))
  obtain ⟨t13, v13⟩ := exa_v n13
  have E13 := Exa.start v13 n13
  have S13 := Sta.start v13 (Or.inr ⟨(hw _ (List.mem_of_getElem? (i := 3) rfl)), (hw _ (List.mem_of_getElem? (i := 31) rfl))⟩)
  have O13 := Fld.start ((fld_at v13).symm.trans (own_eqi n26))
  obtain ⟨t14, v14⟩ := exa_v n14
  have E14 := Exa.start v14 n14
  have S14 := Sta.start v14 (Or.inr ⟨(hw _ (List.mem_of_getElem? (i := 3) rfl)), (hw _ (List.mem_of_getElem? (i := 33) rfl))⟩)
  have O14 := Fld.start ((fld_at v14).symm.trans (own_eqi n27))
  obtain ⟨t15, v15⟩ := exa_v n15
  have E15 := Exa.start v15 n15
  have S15 := Sta.start v15 (Or.inr ⟨(hw _ (List.mem_of_getElem? (i := 3) rfl)), (hw _ (List.mem_of_getElem? (i := 35) rfl))⟩)
  have O15 := Fld.start ((fld_at v15).symm.trans (own_eqi n35))
  obtain ⟨t16, v16⟩ := exa_v n16
  have E16 := Exa.start v16 n16
  have S16 := Sta.start v16 (Or.inr ⟨(hw _ (List.mem_of_getElem? (i := 3) rfl)), (hw _ (List.mem_of_getElem? (i := 37) rfl))⟩)
  have O16 := Fld.start ((fld_at v16).symm.trans (own_eqi n37))
  obtain ⟨t17, v17⟩ := exa_v n17
  have E17 := Exa.start v17 n17
  have S17 := Sta.start v17 (Or.inr ⟨(hw _ (List.mem_of_getElem? (i := 3) rfl)), (hw _ (List.mem_of_getElem? (i := 39) rfl))⟩)
  have O17 := Fld.start ((fld_at v17).symm.trans (own_eqi n38))
  obtain ⟨t18, v18⟩ := exa_v n18
  have E18 := Exa.start v18 n18
  have S18 := Sta.start v18 (Or.inr ⟨(hw _ (List.mem_of_getElem? (i := 3) rfl)), (hw _ (List.mem_of_getElem? (i := 41) rfl))⟩)
  have O18 := Fld.start ((fld_at v18).symm.trans (own_eqi hn))
  obtain ⟨t19, v19⟩ := exa_v n19
  have E19 := Exa.start v19 n19
  have S19 := Sta.start v19 (Or.inr ⟨(hw _ (List.mem_of_getElem? (i := 3) rfl)), (hw _ (List.mem_of_getElem? (i := 43) rfl))⟩)
  have O19 := Fld.start ((fld_at v19).symm.trans (own_eqi n36))
  obtain ⟨t20, v20⟩ := exa_v n20
  have E20 := Exa.start v20 n20
  have S20 := Sta.start v20 (Or.inr ⟨(hw _ (List.mem_of_getElem? (i := 3) rfl)), (hw _ (List.mem_of_getElem? (i := 45) rfl))⟩)
  have O20 := Fld.start ((fld_at v20).symm.trans (own_eqi n39))
  refine ⟨fun n => [t0, t1, t2, t3, t4, t5, t6, t7, t8, t9, t10, t11, t12, t13, t14, t15, t16, t17, t18, t19, t20].getD n 0, S0, S1, S2, S3, S4, S5, S6, S7, S8, S9, S10, S11, S12, S13, S14, S15, S16, S17, S18, S19, S20, ?_, ?_⟩
  · intro n hn
    match n, hn with
    | 0, _ => exact E0
    | 1, _ => exact E1
    | 2, _ => exact E2
    | 3, _ => exact E3
    | 4, _ => exact E4
    | 5, _ => exact E5
    | 6, _ => exact E6
    | 7, _ => exact E7
    | 8, _ => exact E8
    | 9, _ => exact E9
    | 10, _ => exact E10
    | 11, _ => exact E11
    | 12, _ => exact E12
    | 13, _ => exact E13
    | 14, _ => exact E14
    | 15, _ => exact E15
    | 16, _ => exact E16
    | 17, _ => exact E17
    | 18, _ => exact E18
    | 19, _ => exact E19
    | 20, _ => exact E20
    | k + 21, h => exact absurd h (by omega)
  · have O : ∀ n, n < 21 → Fld s s.heap ([t0, t1, t2, t3, t4, t5, t6, t7, t8, t9, t10, t11, t12, t13, t14, t15, t16, t17, t18, t19, t20].getD n 0) "java/lang/Enum" "ordinal" "I" (.int (Int32.ofNat n)) := by
      intro n hn
      match n, hn with
      | 0, _ => exact O0
      | 1, _ => exact O1
      | 2, _ => exact O2
      | 3, _ => exact O3
      | 4, _ => exact O4
      | 5, _ => exact O5
      | 6, _ => exact O6
      | 7, _ => exact O7
      | 8, _ => exact O8
      | 9, _ => exact O9
      | 10, _ => exact O10
      | 11, _ => exact O11
      | 12, _ => exact O12
      | 13, _ => exact O13
      | 14, _ => exact O14
      | 15, _ => exact O15
      | 16, _ => exact O16
      | 17, _ => exact O17
      | 18, _ => exact O18
      | 19, _ => exact O19
      | 20, _ => exact O20
      | k + 21, h => exact absurd h (by omega)
    intro i j hi hj e
    by_cases q : i = j
    · exact q
    · refine absurd e (Fld.ne (O i hi) (O j hj) fun z => q ?_)
      have z1 := congrArg Int32.toInt (Value.int.inj z)
      rw [Int32.toInt_ofNat_small (by omega), Int32.toInt_ofNat_small (by omega)] at z1
      omega
set_option maxRecDepth 65536 in
set_option maxHeartbeats 40000000 in
theorem comes_1 {Post : Tables → Env → Array Value → State → Outcome → State → Prop} (hpost : ∀ tb e args s v u, (limb_1_1.after args s (.returned v) u = true ∧ limb_1_2.after args s (.returned v) u = true ∧ True) → FrameEnd s (.returned v) u (Jvm.fieldLocs frame_1_writes args s ++ Jvm.arrayLocs frame_1_arrays args s ++ Jvm.staticLocs frame_1_statics s) 16 128 → Post tb e args s (.returned v) u) :
    ArmFor flags0 classFile x code maxLocals ret World_1 tables_1 room_1 Calls_1 rest_1 Pre_1 Post := by
  intro l hfl _ _ p e ha hc hk s m args below hf hA hF happ hP
  obtain ⟨hcalls, hrest, hpre⟩ := hP
  obtain ⟨-, -, -, hnamed, -, -, -, hat⟩ := (Spec.applies_iff hf).mp happ
  obtain ⟨hg, hn⟩ := and_e (Cond.before_iff.mp (show (Jvm.Cond.and given_1 narrow_1).before args s = true from hpre))
  obtain ⟨g1, g2⟩ := and_e hg
  obtain ⟨w0, rfl⟩ : ∃ w0 : Value, args = #[w0] := by
    have hs : args.size = 1 := by simpa [Cond.value, given_1] using g1
    obtain ⟨L⟩ := args
    match L, hs with
    | [w0], _ => exact ⟨w0, rfl⟩
  obtain ⟨i0, z0⟩ := is_v g2
  obtain rfl : w0 = (.int i0) := Option.some.inj z0
  have hw := fun d (hd : d ∈ tables_1) => atoms_spec (ws := Jvm.Cond.code x code maxLocals ret :: tables_1) hat d (List.mem_cons_of_mem _ hd)
  have hfit : Fit s := fun {y c} hc i hi => by
    obtain ⟨ha, rfl⟩ := Array.getElem?_eq_some_iff.mp hc
    have q := List.all_eq_true.mp ((Array.all_eq_true_iff_forall_mem.mp hF) _ (Array.getElem_mem ha)) i (List.mem_range.mpr hi)
    simpa [Array.getElem?_eq_getElem hi] using q
  obtain ⟨tf, S0, S1, S2, S3, S4, S5, S6, S7, S8, S9, S10, S11, S12, S13, S14, S15, S16, S17, S18, S19, S20, EX, INJ⟩ := own_pre hw hn
  obtain ⟨n, o, h1, h2, h3, _, L, rfl, ⟨rfl, N⟩, hq⟩ := law0 l s _ hw tables_1 i0 tf s.heap s.heap.size (Nat.le_refl _) S0 S1 S2 S3 S4 S5 S6 S7 S8 S9 S10 S11 S12 S13 S14 S15 S16 S17 S18 S19 S20 EX INJ p e ha hc hk s m _ below hf ((Spec.applies_iff_loose hf).mp happ).1 ⟨rfl, State.Warmed39.refl s, rfl⟩ trivial
  refine ⟨n, _, h1, h2, h3, hpost _ _ _ _ _ _ ⟨Cond.after_iff.mpr rfl, Cond.after_iff.mpr (eq_i res_at (Term.int_eval (1)) rfl), trivial⟩ ⟨hq.1, hq.2.1, (hq.2.2.sift fun y hy => Or.inr (N y hy)).mono (by decide) (by decide)⟩⟩
theorem main_1_1 : Claimed_1_1 := comes_1 fun _ _ _ _ _ _ h hF => ⟨h.1, hF⟩
theorem main_1_2 : Claimed_1_2 := comes_1 fun _ _ _ _ _ _ h hF => ⟨h.2.1, hF⟩
end Jvm.Pilot.@@N@@
namespace Jvm.Pilot.@@N@@
open Jvm Jvm.ClassFile Sem Op Lib Jvm.Free Jvm.Stand Jvm.Pilot.@@N@@.Jvm.D
/-! MADE BY PROGRAM (witnessworld.py) out of the Statement's table words and the real class files: 13 classes; the members and pool entries that the words name. The judged class is class 1, her method 1. -/
namespace start1
open Jvm.ClassFile
def u (s : String) : CpInfo := .utf8 (stringToUtf16 s)
/-- a pool by its gaps: so many unusable entries, then the entry; so many at the end -/
def gap : Nat → List CpInfo → List CpInfo
  | 0, r => r
  | n + 1, r => .unusable :: gap n r
def poolList (es : List (Nat × CpInfo)) (last : Nat) : List CpInfo := es.foldr (fun e r => gap e.1 (e.2 :: r)) (gap last [])
def pool (es : List (Nat × CpInfo)) (last : Nat) : Array CpInfo := ⟨poolList es last⟩
def fileOf (pool : Array CpInfo) (this : Nat) (attrs : Array Attribute := #[]) (ms : Array MethodInfo := #[]) (fl : Nat := 33) (sup : Nat := 0) (ifs : Array Nat := #[]) (fds : Array FieldInfo := #[]) : ClassFile where
  minorVersion := 0
  majorVersion := 65
  constantPool := pool
  accessFlags := fl
  thisClass := this
  superClass := sup
  interfaces := ifs
  fields := fds
  methods := ms
  attributes := attrs
def plain (name : String) (sup : Option ClassId) : Class where
  name := name
  kind := .ordinary
  loader := none
  accessFlags := 33
  super := sup
  interfaces := #[]
  cf := none
  fields := #[]
  methods := #[]
  instanceTypes := #[]
  staticTypes := #[]
  resolved := #[]
  callSites := []
  init := .initialized
  statics := none
  mirror := none

def pool0 : Array CpInfo := pool [(5, u "<init>"), (0, u "()V"), (1, .class_ 10), (1, u "java/lang/Object")] 113

def k0m0 : Method := { name := "<init>", desc := "()V", sig := { parameters := [], returnType := none }, accessFlags := 1, code := none }
/-- java/lang/Object -/
def k0 : Class := { plain "java/lang/Object" none with
  accessFlags := 33
  interfaces := #[]
  cf := some (fileOf pool0 8 #[] #[{ accessFlags := 1, nameIndex := 5, descriptorIndex := 6, attributes := #[] }] 33 0 #[] #[])
  fields := #[]
  methods := #[k0m0]
  instanceTypes := #[]
  staticTypes := #[]
  resolved := Array.replicate 124 none
  statics := none }

def pool1 : Array CpInfo := pool [(2, .class_ 4), (1, u "java/lang/Object"), (0, u "<init>"), (0, u "()V"), (0, .class_ 8), (0, u "com/example/vetted_query/vettedquery/TokenKind"), (0, .fieldref 7 10), (0, .nameAndType 11 12), (0, u "IDENTIFIER"), (0, u "Lcom/example/vetted_query/vettedquery/TokenKind;"), (0, .fieldref 7 14), (0, .nameAndType 15 12), (0, u "STRING"), (0, .fieldref 7 17), (0, .nameAndType 18 12), (0, u "NUMBER"), (0, .fieldref 7 20), (0, .nameAndType 21 12), (0, u "NAMED_PARAMETER"), (0, .fieldref 7 23), (0, .nameAndType 24 12), (0, u "POSITIONAL_PARAMETER"), (0, .fieldref 7 26), (0, .nameAndType 27 12), (0, u "DOT"), (0, .fieldref 7 29), (0, .nameAndType 30 12), (0, u "COMMA"), (0, .fieldref 7 32), (0, .nameAndType 33 12), (0, u "LEFT_PAREN"), (0, .fieldref 7 35), (0, .nameAndType 36 12), (0, u "RIGHT_PAREN"), (0, .fieldref 7 38), (0, .nameAndType 39 12), (0, u "EQUAL"), (0, .fieldref 7 41), (0, .nameAndType 42 12), (0, u "NOT_EQUAL"), (0, .fieldref 7 44), (0, .nameAndType 45 12), (0, u "LESS"), (0, .fieldref 7 47), (0, .nameAndType 48 12), (0, u "LESS_EQUAL"), (0, .fieldref 7 50), (0, .nameAndType 51 12), (0, u "GREATER"), (0, .fieldref 7 53), (0, .nameAndType 54 12), (0, u "GREATER_EQUAL"), (0, .fieldref 7 56), (0, .nameAndType 57 12), (0, u "PLUS"), (0, .fieldref 7 59), (0, .nameAndType 60 12), (0, u "MINUS"), (0, .fieldref 7 62), (0, .nameAndType 63 12), (0, u "STAR"), (0, .fieldref 7 65), (0, .nameAndType 66 12), (0, u "SLASH"), (0, .fieldref 7 68), (0, .nameAndType 69 12), (0, u "PERCENT"), (0, .fieldref 7 71), (0, .nameAndType 72 12), (0, u "END"), (0, .integer 2147483647), (0, .methodref 7 75), (0, .nameAndType 76 77), (0, u "isComparison"), (0, u "()Z"), (0, .class_ 79), (0, u "com/example/vetted_query/vettedquery/TokenKindIsComparisonPinLaw"), (2, u "law"), (0, u "(I)Z")] 5

def k1m0 : Method := { name := "<init>", desc := "()V", sig := { parameters := [], returnType := none }, accessFlags := 2, code := none }
def k1c1 : Code := { maxStack := 4, maxLocals := 5, code := code, exceptionTable := #[], attributes := #[] }
def k1m1 : Method := { name := "law", desc := "(I)Z", sig := { parameters := [.int], returnType := some .boolean }, accessFlags := 9, code := some k1c1 }
/-- com/example/vetted_query/vettedquery/TokenKindIsComparisonPinLaw -/
def k1 : Class := { plain "com/example/vetted_query/vettedquery/TokenKindIsComparisonPinLaw" (some 0) with
  accessFlags := 49
  interfaces := #[]
  cf := some (fileOf pool1 78 #[] #[{ accessFlags := 2, nameIndex := 5, descriptorIndex := 6, attributes := #[] }, { accessFlags := 9, nameIndex := 82, descriptorIndex := 83, attributes := #[] }] 49 2 #[] #[])
  fields := #[]
  methods := #[k1m0, k1m1]
  instanceTypes := #[]
  staticTypes := #[]
  resolved := Array.replicate 89 none
  statics := none }

def pool2 : Array CpInfo := pool [(1, .class_ 2), (0, u "java/lang/constant/Constable"), (0, .class_ 4), (0, u "java/lang/Object")] 6

/-- java/lang/constant/Constable -/
def k2 : Class := { plain "java/lang/constant/Constable" (some 0) with
  accessFlags := 1537
  interfaces := #[]
  cf := some (fileOf pool2 1 #[] #[] 1537 3 #[] #[])
  fields := #[]
  methods := #[]
  instanceTypes := #[]
  staticTypes := #[]
  resolved := Array.replicate 11 none
  statics := none }

def pool3 : Array CpInfo := pool [(1, .class_ 2), (0, u "java/lang/Comparable"), (0, .class_ 4), (0, u "java/lang/Object")] 7

/-- java/lang/Comparable -/
def k3 : Class := { plain "java/lang/Comparable" (some 0) with
  accessFlags := 1537
  interfaces := #[]
  cf := some (fileOf pool3 1 #[] #[] 1537 3 #[] #[])
  fields := #[]
  methods := #[]
  instanceTypes := #[]
  staticTypes := #[]
  resolved := Array.replicate 12 none
  statics := none }

def pool4 : Array CpInfo := pool [(1, .class_ 2), (0, u "java/io/Serializable"), (0, .class_ 4), (0, u "java/lang/Object")] 2

/-- java/io/Serializable -/
def k4 : Class := { plain "java/io/Serializable" (some 0) with
  accessFlags := 1537
  interfaces := #[]
  cf := some (fileOf pool4 1 #[] #[] 1537 3 #[] #[])
  fields := #[]
  methods := #[]
  instanceTypes := #[]
  staticTypes := #[]
  resolved := Array.replicate 7 none
  statics := none }

def pool5 : Array CpInfo := pool [(2, .class_ 4), (1, u "java/lang/Enum"), (0, u "name"), (0, u "Ljava/lang/String;"), (2, u "ordinal"), (0, u "I"), (1, .class_ 14), (1, u "java/lang/Object"), (4, u "hash"), (86, .class_ 108), (1, u "java/lang/Enum$EnumDesc"), (2, .class_ 112), (0, u "java/lang/constant/Constable"), (0, .class_ 114), (0, u "java/lang/Comparable"), (0, .class_ 116), (0, u "java/io/Serializable")] 87

/-- java/lang/Enum -/
def k5 : Class := { plain "java/lang/Enum" (some 0) with
  accessFlags := 1057
  interfaces := #[2, 3, 4]
  cf := some (fileOf pool5 2 #[.nestMembers #[106]] #[] 1057 12 #[111, 113, 115] #[{ accessFlags := 18, nameIndex := 5, descriptorIndex := 6, attributes := #[] }, { accessFlags := 18, nameIndex := 9, descriptorIndex := 10, attributes := #[] }, { accessFlags := 2, nameIndex := 19, descriptorIndex := 10, attributes := #[] }])
  fields := #[{ name := "name", type := (.object "java/lang/String"), accessFlags := 18, slot := 0, constantValue := 0 }, { name := "ordinal", type := .int, accessFlags := 18, slot := 1, constantValue := 0 }, { name := "hash", type := .int, accessFlags := 2, slot := 2, constantValue := 0 }]
  methods := #[]
  instanceTypes := #[(.object "java/lang/String"), .int, .int]
  staticTypes := #[]
  resolved := Array.replicate 204 none
  statics := none }

def pool6 : Array CpInfo := pool [(1, .class_ 2), (0, u "com/example/vetted_query/vettedquery/TokenKind"), (2, u "IDENTIFIER"), (0, u "Lcom/example/vetted_query/vettedquery/TokenKind;"), (2, u "STRING"), (2, u "NUMBER"), (2, u "NAMED_PARAMETER"), (2, u "POSITIONAL_PARAMETER"), (2, u "DOT"), (2, u "COMMA"), (2, u "LEFT_PAREN"), (2, u "RIGHT_PAREN"), (0, .fieldref 1 32), (0, .nameAndType 33 6), (0, u "EQUAL"), (0, .fieldref 1 35), (0, .nameAndType 36 6), (0, u "NOT_EQUAL"), (0, .fieldref 1 38), (0, .nameAndType 39 6), (0, u "LESS"), (0, .fieldref 1 41), (0, .nameAndType 42 6), (0, u "LESS_EQUAL"), (0, .fieldref 1 44), (0, .nameAndType 45 6), (0, u "GREATER"), (0, .fieldref 1 47), (0, .nameAndType 48 6), (0, u "GREATER_EQUAL"), (2, u "PLUS"), (2, u "MINUS"), (2, u "STAR"), (2, u "SLASH"), (2, u "PERCENT"), (2, u "END"), (2, u "$VALUES"), (0, u "[Lcom/example/vetted_query/vettedquery/TokenKind;"), (6, .class_ 79), (1, u "java/lang/Enum"), (8, u "symbol"), (0, u "Ljava/lang/String;"), (130, u "SYMBOLS"), (0, u "Ljava/util/List;"), (7, u "isComparison"), (0, u "()Z")] 48

def k6c0 : Code := { maxStack := 2, maxLocals := 1, code := prog_47_method_5_code, exceptionTable := #[], attributes := #[] }
def k6m0 : Method := { name := "isComparison", desc := "()Z", sig := { parameters := [], returnType := some .boolean }, accessFlags := 0, code := some k6c0 }
/-- com/example/vetted_query/vettedquery/TokenKind -/
def k6 : Class := { plain "com/example/vetted_query/vettedquery/TokenKind" (some 5) with
  accessFlags := 16432
  interfaces := #[]
  cf := some (fileOf pool6 1 #[] #[{ accessFlags := 0, nameIndex := 229, descriptorIndex := 230, attributes := #[] }] 16432 77 #[] #[{ accessFlags := 16409, nameIndex := 5, descriptorIndex := 6, attributes := #[] }, { accessFlags := 16409, nameIndex := 9, descriptorIndex := 6, attributes := #[] }, { accessFlags := 16409, nameIndex := 12, descriptorIndex := 6, attributes := #[] }, { accessFlags := 16409, nameIndex := 15, descriptorIndex := 6, attributes := #[] }, { accessFlags := 16409, nameIndex := 18, descriptorIndex := 6, attributes := #[] }, { accessFlags := 16409, nameIndex := 21, descriptorIndex := 6, attributes := #[] }, { accessFlags := 16409, nameIndex := 24, descriptorIndex := 6, attributes := #[] }, { accessFlags := 16409, nameIndex := 27, descriptorIndex := 6, attributes := #[] }, { accessFlags := 16409, nameIndex := 30, descriptorIndex := 6, attributes := #[] }, { accessFlags := 16409, nameIndex := 33, descriptorIndex := 6, attributes := #[] }, { accessFlags := 16409, nameIndex := 36, descriptorIndex := 6, attributes := #[] }, { accessFlags := 16409, nameIndex := 39, descriptorIndex := 6, attributes := #[] }, { accessFlags := 16409, nameIndex := 42, descriptorIndex := 6, attributes := #[] }, { accessFlags := 16409, nameIndex := 45, descriptorIndex := 6, attributes := #[] }, { accessFlags := 16409, nameIndex := 48, descriptorIndex := 6, attributes := #[] }, { accessFlags := 16409, nameIndex := 51, descriptorIndex := 6, attributes := #[] }, { accessFlags := 16409, nameIndex := 54, descriptorIndex := 6, attributes := #[] }, { accessFlags := 16409, nameIndex := 57, descriptorIndex := 6, attributes := #[] }, { accessFlags := 16409, nameIndex := 60, descriptorIndex := 6, attributes := #[] }, { accessFlags := 16409, nameIndex := 63, descriptorIndex := 6, attributes := #[] }, { accessFlags := 16409, nameIndex := 66, descriptorIndex := 6, attributes := #[] }, { accessFlags := 24, nameIndex := 220, descriptorIndex := 221, attributes := #[] }, { accessFlags := 18, nameIndex := 88, descriptorIndex := 89, attributes := #[] }, { accessFlags := 4122, nameIndex := 69, descriptorIndex := 70, attributes := #[] }])
  fields := #[{ name := "IDENTIFIER", type := (.object "com/example/vetted_query/vettedquery/TokenKind"), accessFlags := 16409, slot := 0, constantValue := 0 }, { name := "STRING", type := (.object "com/example/vetted_query/vettedquery/TokenKind"), accessFlags := 16409, slot := 1, constantValue := 0 }, { name := "NUMBER", type := (.object "com/example/vetted_query/vettedquery/TokenKind"), accessFlags := 16409, slot := 2, constantValue := 0 }, { name := "NAMED_PARAMETER", type := (.object "com/example/vetted_query/vettedquery/TokenKind"), accessFlags := 16409, slot := 3, constantValue := 0 }, { name := "POSITIONAL_PARAMETER", type := (.object "com/example/vetted_query/vettedquery/TokenKind"), accessFlags := 16409, slot := 4, constantValue := 0 }, { name := "DOT", type := (.object "com/example/vetted_query/vettedquery/TokenKind"), accessFlags := 16409, slot := 5, constantValue := 0 }, { name := "COMMA", type := (.object "com/example/vetted_query/vettedquery/TokenKind"), accessFlags := 16409, slot := 6, constantValue := 0 }, { name := "LEFT_PAREN", type := (.object "com/example/vetted_query/vettedquery/TokenKind"), accessFlags := 16409, slot := 7, constantValue := 0 }, { name := "RIGHT_PAREN", type := (.object "com/example/vetted_query/vettedquery/TokenKind"), accessFlags := 16409, slot := 8, constantValue := 0 }, { name := "EQUAL", type := (.object "com/example/vetted_query/vettedquery/TokenKind"), accessFlags := 16409, slot := 9, constantValue := 0 }, { name := "NOT_EQUAL", type := (.object "com/example/vetted_query/vettedquery/TokenKind"), accessFlags := 16409, slot := 10, constantValue := 0 }, { name := "LESS", type := (.object "com/example/vetted_query/vettedquery/TokenKind"), accessFlags := 16409, slot := 11, constantValue := 0 }, { name := "LESS_EQUAL", type := (.object "com/example/vetted_query/vettedquery/TokenKind"), accessFlags := 16409, slot := 12, constantValue := 0 }, { name := "GREATER", type := (.object "com/example/vetted_query/vettedquery/TokenKind"), accessFlags := 16409, slot := 13, constantValue := 0 }, { name := "GREATER_EQUAL", type := (.object "com/example/vetted_query/vettedquery/TokenKind"), accessFlags := 16409, slot := 14, constantValue := 0 }, { name := "PLUS", type := (.object "com/example/vetted_query/vettedquery/TokenKind"), accessFlags := 16409, slot := 15, constantValue := 0 }, { name := "MINUS", type := (.object "com/example/vetted_query/vettedquery/TokenKind"), accessFlags := 16409, slot := 16, constantValue := 0 }, { name := "STAR", type := (.object "com/example/vetted_query/vettedquery/TokenKind"), accessFlags := 16409, slot := 17, constantValue := 0 }, { name := "SLASH", type := (.object "com/example/vetted_query/vettedquery/TokenKind"), accessFlags := 16409, slot := 18, constantValue := 0 }, { name := "PERCENT", type := (.object "com/example/vetted_query/vettedquery/TokenKind"), accessFlags := 16409, slot := 19, constantValue := 0 }, { name := "END", type := (.object "com/example/vetted_query/vettedquery/TokenKind"), accessFlags := 16409, slot := 20, constantValue := 0 }, { name := "SYMBOLS", type := (.object "java/util/List"), accessFlags := 24, slot := 21, constantValue := 0 }, { name := "symbol", type := (.object "java/lang/String"), accessFlags := 18, slot := 3, constantValue := 0 }, { name := "$VALUES", type := (.array (.object "com/example/vetted_query/vettedquery/TokenKind")), accessFlags := 4122, slot := 22, constantValue := 0 }]
  methods := #[k6m0]
  instanceTypes := #[(.object "java/lang/String"), .int, .int, (.object "java/lang/String")]
  staticTypes := #[(.object "com/example/vetted_query/vettedquery/TokenKind"), (.object "com/example/vetted_query/vettedquery/TokenKind"), (.object "com/example/vetted_query/vettedquery/TokenKind"), (.object "com/example/vetted_query/vettedquery/TokenKind"), (.object "com/example/vetted_query/vettedquery/TokenKind"), (.object "com/example/vetted_query/vettedquery/TokenKind"), (.object "com/example/vetted_query/vettedquery/TokenKind"), (.object "com/example/vetted_query/vettedquery/TokenKind"), (.object "com/example/vetted_query/vettedquery/TokenKind"), (.object "com/example/vetted_query/vettedquery/TokenKind"), (.object "com/example/vetted_query/vettedquery/TokenKind"), (.object "com/example/vetted_query/vettedquery/TokenKind"), (.object "com/example/vetted_query/vettedquery/TokenKind"), (.object "com/example/vetted_query/vettedquery/TokenKind"), (.object "com/example/vetted_query/vettedquery/TokenKind"), (.object "com/example/vetted_query/vettedquery/TokenKind"), (.object "com/example/vetted_query/vettedquery/TokenKind"), (.object "com/example/vetted_query/vettedquery/TokenKind"), (.object "com/example/vetted_query/vettedquery/TokenKind"), (.object "com/example/vetted_query/vettedquery/TokenKind"), (.object "com/example/vetted_query/vettedquery/TokenKind"), (.object "java/util/List"), (.array (.object "com/example/vetted_query/vettedquery/TokenKind"))]
  resolved := Array.replicate 279 none
  statics := some 0 }

def pool7 : Array CpInfo := pool [(1, u "java/lang/Cloneable"), (0, .class_ 1), (0, u "java/lang/Object"), (0, .class_ 3)] 3

/-- java/lang/Cloneable -/
def k7 : Class := { plain "java/lang/Cloneable" (some 0) with
  accessFlags := 1537
  interfaces := #[]
  cf := some (fileOf pool7 2 #[] #[] 1537 4 #[] #[])
  fields := #[]
  methods := #[]
  instanceTypes := #[]
  staticTypes := #[]
  resolved := Array.replicate 8 none
  statics := none }

/-- the primitive byte -/
def k8 : Class := { plain "byte" none with kind := .primitive 'B', accessFlags := 0x411 }
/-- [B -/
def k9 : Class := { plain "[B" (some 0) with kind := .array 8 .byte, interfaces := #[7, 4], accessFlags := 1041 }

/-- the primitive int -/
def k10 : Class := { plain "int" none with kind := .primitive 'I', accessFlags := 0x411 }
/-- [I -/
def k11 : Class := { plain "[I" (some 0) with kind := .array 10 .int, interfaces := #[7, 4], accessFlags := 1041 }

/-- [Lcom/example/vetted_query/vettedquery/TokenKind; -/
def k12 : Class := { plain "[Lcom/example/vetted_query/vettedquery/TokenKind;" (some 0) with kind := .array 6 (.object "com/example/vetted_query/vettedquery/TokenKind"), interfaces := #[7, 4], accessFlags := 1041 }

def heap : Heap := #[{ cls := 6, slots := #[.ref 1, .ref 2, .ref 3, .ref 4, .ref 5, .ref 6, .ref 7, .ref 8, .ref 9, .ref 10, .ref 11, .ref 12, .ref 13, .ref 14, .ref 15, .ref 16, .ref 17, .ref 18, .ref 19, .ref 20, .ref 21, .null, .null], vm := .statics 6 },
  { cls := 6, slots := #[.null, .int 0, .int 0, .null], vm := .none },
  { cls := 6, slots := #[.null, .int 1, .int 0, .null], vm := .none },
  { cls := 6, slots := #[.null, .int 2, .int 0, .null], vm := .none },
  { cls := 6, slots := #[.null, .int 3, .int 0, .null], vm := .none },
  { cls := 6, slots := #[.null, .int 4, .int 0, .null], vm := .none },
  { cls := 6, slots := #[.null, .int 5, .int 0, .null], vm := .none },
  { cls := 6, slots := #[.null, .int 6, .int 0, .null], vm := .none },
  { cls := 6, slots := #[.null, .int 7, .int 0, .null], vm := .none },
  { cls := 6, slots := #[.null, .int 8, .int 0, .null], vm := .none },
  { cls := 6, slots := #[.null, .int 9, .int 0, .null], vm := .none },
  { cls := 6, slots := #[.null, .int 10, .int 0, .null], vm := .none },
  { cls := 6, slots := #[.null, .int 11, .int 0, .null], vm := .none },
  { cls := 6, slots := #[.null, .int 12, .int 0, .null], vm := .none },
  { cls := 6, slots := #[.null, .int 13, .int 0, .null], vm := .none },
  { cls := 6, slots := #[.null, .int 14, .int 0, .null], vm := .none },
  { cls := 6, slots := #[.null, .int 15, .int 0, .null], vm := .none },
  { cls := 6, slots := #[.null, .int 16, .int 0, .null], vm := .none },
  { cls := 6, slots := #[.null, .int 17, .int 0, .null], vm := .none },
  { cls := 6, slots := #[.null, .int 18, .int 0, .null], vm := .none },
  { cls := 6, slots := #[.null, .int 19, .int 0, .null], vm := .none },
  { cls := 6, slots := #[.null, .int 20, .int 0, .null], vm := .none }]
def classes : Array Class := #[k0, k1, k2, k3, k4, k5, k6, k7, k8, k9, k10, k11, k12]
def interned : List (Array UInt16 × Addr) := []
def slotsUsed : Nat := 107
def theMethod : MethodId := ⟨1, 1⟩
def args0 : Array Value := #[.int 5]
def aboutOver (below : List Frame) : State where
  vm := { classes := classes, interned := interned.toArray }
  heap := heap
  slotsUsed := slotsUsed
  threads := #[{ frames := .invoking theMethod args0 :: below }]
def below0 : List Frame := [.native { method := ⟨0, 0⟩, args := #[] }]
def about1 : State := aboutOver below0
def p0 : Program := .bare "" "" ""
def e0 : Env := launch0.env 0 0 0
theorem w_frames : about1.frames = Frame.invoking theMethod args0 :: below0 := rfl
set_option maxRecDepth 65536 in
theorem w_args : argsFit about1.vm theMethod args0 = true := by decide +kernel
set_option maxRecDepth 65536 in
theorem w_heap : heapFits about1 = true := by decide +kernel
set_option maxRecDepth 65536 in
theorem w_runnable : about1.curStatus? = some .runnable := by decide +kernel
set_option maxRecDepth 65536 in
theorem w_alone : about1.alone = true := by decide +kernel
set_option maxRecDepth 65536 in
theorem w_named : about1.methodNamed? x = some theMethod := by decide +kernel
set_option maxRecDepth 65536 in
theorem w_hears : about1.hears theMethod below0 = true := by decide +kernel
set_option maxRecDepth 65536 in
theorem w_ripe : about1.ripe theMethod args0 below0 = true := by decide +kernel
theorem w_running : about1.status = .running := rfl
set_option maxRecDepth 65536 in
theorem w_room : about1.hasRoom e0.platform room_1 = true :=
  launch0.hasRoom_least _ room_1 (by decide +kernel) (by decide +kernel) (by decide +kernel) (by decide +kernel) (by decide +kernel) (by decide +kernel)
theorem allAtoms_all (ts : List Jvm.Cond) (a : Array Jvm.Value) (st : Jvm.State) : (allAtoms ts).before a st = ts.all (fun c => c.before a st) := by
  induction ts with
  | nil => rfl
  | cons c t ih =>
    show (Jvm.Cond.and c (allAtoms t)).before a st = _
    rw [Jvm.Cond.before_and, ih, List.all_cons]
def words1 : List Jvm.Cond := Jvm.Cond.code x code maxLocals ret :: tables_1
/-- a 'code' word, met by the world's own term for the bytes: nothing is compared byte by byte -/
theorem code_word {y : MethodName} {bytes : ByteArray} {mx : Nat} {rt : Option FieldType} {a : Array Value} {s : State} {m : MethodId} {meth : Method} {c : Code} (h1 : s.methodNamed? y = some m) (h2 : s.vm.method? m = some meth) (h3 : meth.code = some c) (h4 : c.code = bytes)
    (h5 : (c.maxLocals == mx && c.exceptionTable.isEmpty && decide (c.maxStack ≤ mostOperands) && decide (meth.sig.returnType = rt) && !meth.locks && decide (parseMethodDescriptor y.desc = some meth.sig)) = true) : (Jvm.Cond.code y bytes mx rt).before a s = true := by
  simp only [Bool.and_eq_true, beq_iff_eq, Bool.not_eq_true', decide_eq_true_eq] at h5
  obtain ⟨⟨⟨⟨⟨g1, g2⟩, g3⟩, g4⟩, g5⟩, g6⟩ := h5
  simp [Cond.before, Cond.holds, Cond.value, h1, h2, h3, h4, g1, g2, g3, g4, g5, g6]
def isCode : Jvm.Cond → Bool
  | .code _ _ _ _ => true
  | _ => false
theorem all_split {L : List Jvm.Cond} {P : Jvm.Cond → Bool} (h1 : L.all (fun c => isCode c || P c) = true) (h2 : ∀ c ∈ L.filter isCode, P c = true) : L.all P = true := by
  refine List.all_eq_true.mpr fun c hc => ?_
  have h := List.all_eq_true.mp h1 c hc
  rcases Bool.eq_false_or_eq_true (isCode c) with hi | hi
  · exact h2 c (List.mem_filter.mpr ⟨hc, hi⟩)
  · simpa [hi] using h
set_option maxRecDepth 65536 in
theorem w_c0 : (Jvm.Cond.code x code maxLocals ret).before args0 about1 = true := code_word (m := ⟨1, 1⟩) (meth := k1m1) (c := k1c1) (by decide +kernel) rfl rfl rfl (by decide +kernel)
set_option maxRecDepth 65536 in
theorem w_c1 : (Jvm.Cond.code ({ cls := "com/example/vetted_query/vettedquery/TokenKind", name := "isComparison", desc := "()Z" } : Jvm.MethodName) prog_47_method_5_code (1 : Nat) (Option.some Jvm.ClassFile.FieldType.boolean)).before args0 about1 = true := code_word (m := ⟨6, 0⟩) (meth := k6m0) (c := k6c0) (by decide +kernel) rfl rfl rfl (by decide +kernel)
def codes1 : List Jvm.Cond := [Jvm.Cond.code x code maxLocals ret, Jvm.Cond.code ({ cls := "com/example/vetted_query/vettedquery/TokenKind", name := "isComparison", desc := "()Z" } : Jvm.MethodName) prog_47_method_5_code (1 : Nat) (Option.some Jvm.ClassFile.FieldType.boolean)]
set_option maxRecDepth 65536 in
theorem codes_eq : words1.filter isCode = codes1 := rfl
theorem w_codes : ∀ c ∈ words1.filter isCode, c.before args0 about1 = true := by
  rw [codes_eq]
  intro c hc
  simp only [codes1, List.mem_cons, List.not_mem_nil, or_false] at hc
  rcases hc with rfl | rfl
  · exact w_c0
  · exact w_c1
set_option maxRecDepth 65536 in
theorem w_t1 : (words1.take 24).all (fun c => isCode c || c.before args0 about1) = true := by decide +kernel
set_option maxRecDepth 65536 in
theorem w_t2 : ((words1.drop 24).take 24).all (fun c => isCode c || c.before args0 about1) = true := by decide +kernel
set_option maxRecDepth 65536 in
theorem w_t3 : ((words1.drop 24).drop 24).all (fun c => isCode c || c.before args0 about1) = true := by decide +kernel
theorem w_tables : (allAtoms (Jvm.Cond.code x code maxLocals ret :: tables_1)).before args0 about1 = true := by
  rw [allAtoms_all]
  show words1.all (fun c => c.before args0 about1) = true
  refine all_split ?_ w_codes
  rw [← List.take_append_drop 24 words1, List.all_append, w_t1, ← List.take_append_drop 24 (words1.drop 24), List.all_append, w_t2, w_t3]
  rfl
set_option maxRecDepth 65536 in
theorem w_case : (Jvm.Cond.and given_1 narrow_1).before args0 about1 = true := by decide +kernel
theorem w_applies : (headSpec (Jvm.Cond.code x code maxLocals ret :: tables_1) room_1).applies x e0.platform about1 = true :=
  (Spec.applies_iff w_frames).mpr ⟨w_running, w_runnable, w_alone, w_named, w_hears, w_ripe, w_room, w_tables⟩
theorem atStart : AtStart classFile x code maxLocals ret World_1 tables_1 room_1 Calls_1 rest_1 Pre_1 launch0 p0 e0 about1 theMethod args0 below0 :=
  ⟨lists_1, trivial, launch0.admits_env _ _ _, launch0.least_env, fairChoices_fair.cas, fairChoices_fair.clock, w_frames, w_args, w_heap, w_applies, trivial, trivial, w_case⟩
end start1
theorem witness_1 : WitnessClaimed_1 := ⟨start1.p0, start1.e0, start1.about1, start1.theMethod, start1.args0, start1.below0, start1.atStart⟩
end Jvm.Pilot.@@N@@
