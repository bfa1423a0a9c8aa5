import JvmDerived
import JvmDerived.Pilot.@@N@@Statement
import JvmDerived.Pilot.@@N@@Code
set_option linter.unusedVariables false
set_option linter.unusedSimpArgs false
namespace Jvm.RoadKit
open Sem ClassFile Op Lib Jvm.Stand Jvm.Free Jvm.LawKit
section OwnKit
variable {p : Program} {l : Launch} {e : Env} {R : Room} {s : State} {m : MethodId} {args : Array Value} {below : List Frame} {meth : Method} {c : Code} {T : State} {locs : List Loc} {cells slots : Nat} {Z : State} {a0 : Array Value} {h : Heap}
abbrev OwnP : Type := Option Value → Heap → List Loc → Prop
/-- from the state A the run comes back with what P says -/
def OwnG (tb : Tables) (e : Env) (below : List Frame) (s : State) (P : OwnP) (rc rs : Nat) (A : State) : Prop :=
  ∃ s₂ o, Steps tb e below A s₂ ∧ s₂.status = .running ∧ Ended s₂ below o ∧ ∃ v L, o = .returned v ∧ P v s₂.heap L ∧ FrameEnd s o s₂ L rc rs
theorem own_go {tb : Tables} {P : OwnP} {rc rs : Nat} {A : State} (T' : State) (m' : MethodId) (pc : Nat) (Ls : Array Slot) (st : List Value) (f : ∀ t, Steps tb e below (T'.setTop (mkF m' pc Ls st)) t → Steps tb e below A t) (k : OwnG tb e below s P rc rs (T'.setTop (mkF m' pc Ls st))) : OwnG tb e below s P rc rs A := by
  obtain ⟨s₂, o, h1, h2⟩ := k
  exact ⟨s₂, o, f _ h1, h2⟩
theorem own_mono {tb : Tables} {P P' : OwnP} {rc rs : Nat} {A : State} (f : ∀ v h L, P v h L → P' v h L) (k : OwnG tb e below s P rc rs A) : OwnG tb e below s P' rc rs A := by
  obtain ⟨s₂, o, h1, h2, h3, v, L, h4, h5, h6⟩ := k
  exact ⟨s₂, o, h1, h2, h3, v, L, h4, f _ _ _ h5, h6⟩
/-- what a walk knows of the body -/
def OwnX (Z : State) (p : Program) (s : State) (m : MethodId) (meth : Method) (c : Code) (bytes : ByteArray) (maxL : Nat) (ret : Option FieldType) (own nm : String) : Prop :=
  p.tables.exec = Jvm.exec ∧ c.code = bytes ∧ c.maxLocals = maxL ∧ s.vm.findClass own = some m.cls ∧ meth.name = nm ∧ meth.sig.returnType = ret ∧ meth.locks = false ∧ Z.Warmed39 s.vm
/-- a body's contract -/
abbrev OwnC (l : Launch) (Z : State) (y : MethodName) (bytes : ByteArray) (maxL : Nat) (ret : Option FieldType) (ws : List Cond) (rm : Room) (as' : Array Value) (h0 : Heap) (P : OwnP) : Prop :=
  MetFree l y (head1 (Cond.code y bytes maxL ret :: ws) rm) (fun a U => a = as' ∧ Z.Warmed39 U.vm ∧ U.heap = h0) (fun _ _ _ _ _ => True) (fun _ U o U' => ∃ v L, o = .returned v ∧ P v U'.heap L ∧ FrameEnd U o U' L rm.cells rm.slots)
theorem own_entry {y : MethodName} {bytes : ByteArray} {maxL : Nat} {ret : Option FieldType} {ws : List Cond} {rm : Room} {as' : Array Value} {h0 : Heap} {P : OwnP} {Ls : Array Slot} (hpl : plainFor y = true) (ef : ∀ m, entryFrame m as' maxL = mkF m 0 Ls [])
    (body : ∀ (p : Program) (e : Env) (s : State) (m : MethodId) (below : List Frame) (meth : Method) (c : Code) (T : State), Stand p l e rm s m as' below meth c T [] 0 0 → OwnX Z p s m meth c bytes maxL ret y.cls y.name → T.heap = h0 → OwnG p.tables e below s P rm.cells rm.slots (T.setTop (mkF m 0 Ls []))) :
    OwnC l Z y bytes maxL ret ws rm as' h0 P := by
  refine MetFree.of_bodySF hpl hisR ?_
  intro p e s m args below meth c s₁ Bd hml0 hP hK
  obtain ⟨rfl, hZ, hh⟩ := hP
  have e0 : s₁.heap = h0 := by rw [← hh, Bd.state]; rfl
  obtain ⟨s₂, o, h1, h2⟩ := body p e s m below meth c s₁ (Stand.of_body Bd) ⟨Bd.exec, Bd.bytes, hml0, findClass_of_methodNamed Bd.named, (name_of_methodNamed Bd.named Bd.method).1, Bd.returns, Bd.notSynchronized, hZ⟩ e0
  exact ⟨s₂, o, castTop (ef m) h1, h2⟩
theorem own_ret {P : OwnP} {rc rs : Nat} (X : Stand p l e R s m args below meth c T locs cells slots) (hx : p.tables.exec = Jvm.exec) (hlk : meth.locks = false) {pc : Nat} {Ls : Array Slot} {w : Value} {t : FieldType} {i : Instr} {rest : List Value} (hret : meth.sig.returnType = some t) (hn : narrow t w = w)
    (hi : (i = .ireturn ∧ (t = .int ∨ t = .boolean ∨ t = .byte ∨ t = .char ∨ t = .short) ∧ ∃ z, w = .int z) ∨ (i = .lreturn ∧ t = .long ∧ ∃ z, w = .long z) ∨ (i = .dreturn ∧ t = .double ∧ ∃ z, w = .double z) ∨ (i = .freturn ∧ t = .float ∧ ∃ z, w = .float z) ∨ (i = .areturn ∧ t.isReference = true ∧ w.isRef = true))
    (hd : decode c.code pc = .ok (i, 1)) (hc : cells ≤ rc) (hs : slots ≤ rs) (hP : P (some w) T.heap locs) : OwnG p.tables e below s P rc rs (T.setTop (mkF m pc Ls (w :: rest))) := by
  obtain ⟨fs, hr, hrun, hended, hW, hsame⟩ := X.leave (v := some w) (fun h => by rw [hret] at h; cases h) hlk
  exact ⟨_, _, retOut X hx hret hn hi hd hr, hrun, hended, _, _, rfl, hP, ⟨_, rfl⟩, hW, hsame.mono hc hs⟩
theorem own_retI {P : OwnP} {rc rs : Nat} (X : Stand p l e R s m args below meth c T locs cells slots) (hx : p.tables.exec = Jvm.exec) (hlk : meth.locks = false) {pc : Nat} {Ls : Array Slot} {z : Int32} {rest : List Value} (hret : meth.sig.returnType = some .int)
    (hd : decode c.code pc = .ok (.ireturn, 1)) (hc : cells ≤ rc) (hs : slots ≤ rs) (hP : P (some (.int z)) T.heap locs) : OwnG p.tables e below s P rc rs (T.setTop (mkF m pc Ls (.int z :: rest))) :=
  own_ret X hx hlk hret rfl (Or.inl ⟨rfl, Or.inl rfl, z, rfl⟩) hd hc hs hP
theorem own_retZ {P : OwnP} {rc rs : Nat} (X : Stand p l e R s m args below meth c T locs cells slots) (hx : p.tables.exec = Jvm.exec) (hlk : meth.locks = false) {pc : Nat} {Ls : Array Slot} {z : Int32} {rest : List Value} (hret : meth.sig.returnType = some .boolean) (hz : z = 0 ∨ z = 1)
    (hd : decode c.code pc = .ok (.ireturn, 1)) (hc : cells ≤ rc) (hs : slots ≤ rs) (hP : P (some (.int z)) T.heap locs) : OwnG p.tables e below s P rc rs (T.setTop (mkF m pc Ls (.int z :: rest))) :=
  own_ret X hx hlk hret (by rcases hz with rfl | rfl <;> rfl) (Or.inl ⟨rfl, Or.inr (Or.inl rfl), z, rfl⟩) hd hc hs hP
theorem own_retB {P : OwnP} {rc rs : Nat} (X : Stand p l e R s m args below meth c T locs cells slots) (hx : p.tables.exec = Jvm.exec) (hlk : meth.locks = false) {pc : Nat} {Ls : Array Slot} {z : Int32} {rest : List Value} (hret : meth.sig.returnType = some .byte) (hz : narrow .byte (.int z) = .int z)
    (hd : decode c.code pc = .ok (.ireturn, 1)) (hc : cells ≤ rc) (hs : slots ≤ rs) (hP : P (some (.int z)) T.heap locs) : OwnG p.tables e below s P rc rs (T.setTop (mkF m pc Ls (.int z :: rest))) :=
  own_ret X hx hlk hret hz (Or.inl ⟨rfl, Or.inr (Or.inr (Or.inl rfl)), z, rfl⟩) hd hc hs hP
theorem own_retJ {P : OwnP} {rc rs : Nat} (X : Stand p l e R s m args below meth c T locs cells slots) (hx : p.tables.exec = Jvm.exec) (hlk : meth.locks = false) {pc : Nat} {Ls : Array Slot} {z : Int64} {rest : List Value} (hret : meth.sig.returnType = some .long)
    (hd : decode c.code pc = .ok (.lreturn, 1)) (hc : cells ≤ rc) (hs : slots ≤ rs) (hP : P (some (.long z)) T.heap locs) : OwnG p.tables e below s P rc rs (T.setTop (mkF m pc Ls (.long z :: rest))) :=
  own_ret X hx hlk hret rfl (Or.inr (Or.inl ⟨rfl, rfl, z, rfl⟩)) hd hc hs hP
theorem own_retA {P : OwnP} {rc rs : Nat} (X : Stand p l e R s m args below meth c T locs cells slots) (hx : p.tables.exec = Jvm.exec) (hlk : meth.locks = false) {pc : Nat} {Ls : Array Slot} {w : Value} {t : FieldType} {rest : List Value} (hret : meth.sig.returnType = some t) (hn : narrow t w = w) (ht : t.isReference = true) (hw : w.isRef = true)
    (hd : decode c.code pc = .ok (.areturn, 1)) (hc : cells ≤ rc) (hs : slots ≤ rs) (hP : P (some w) T.heap locs) : OwnG p.tables e below s P rc rs (T.setTop (mkF m pc Ls (w :: rest))) :=
  own_ret X hx hlk hret hn (Or.inr (Or.inr (Or.inr (Or.inr ⟨rfl, ht, hw⟩)))) hd hc hs hP
theorem own_retV {P : OwnP} {rc rs : Nat} (X : Stand p l e R s m args below meth c T locs cells slots) (hx : p.tables.exec = Jvm.exec) (hlk : meth.locks = false) {pc : Nat} {Ls : Array Slot} (hret : meth.sig.returnType = none)
    (hd : decode c.code pc = .ok (.return_, 1)) (hc : cells ≤ rc) (hs : slots ≤ rs) (hP : P none T.heap locs) : OwnG p.tables e below s P rc rs (T.setTop (mkF m pc Ls [])) := by
  obtain ⟨fs, hr, hrun, hended, hW, hsame⟩ := X.leave (v := none) (fun _ => rfl) hlk
  exact ⟨_, _, X.returnOut hx hret hd hr, hrun, hended, _, _, rfl, hP, ⟨_, rfl⟩, hW, hsame.mono hc hs⟩
theorem own_static (X : Stand p l e R s m args below meth c T locs cells slots) (hx : p.tables.exec = Jvm.exec) (hZ : Z.Warmed39 s.vm) {own : String} {index : Nat} {y : MethodName} {bytes : ByteArray} {maxL : Nat} {ret : Option FieldType} {rm : Room} {as' : Array Value} {P : OwnP}
    (hown : s.vm.findClass own = some m.cls) (w1 : (Cond.methodLink own index y).before a0 Z = true) (w2 : (Cond.static y).before a0 Z = true) (w3 : (Cond.initialized y.cls).before a0 Z = true) (w4 : (Cond.code y bytes maxL ret).before a0 Z = true) (hy : y.cls ≠ "java/lang/invoke/MethodHandle" ∧ y.cls ≠ "java/lang/invoke/VarHandle")
    (hM : OwnC l Z y bytes maxL ret [] rm as' h P) (eT : T.heap = h) {pc : Nat} {Ls : Array Slot} {argsL rest : List Value} (W : Nat) {st : List Value} (hsz : Ls.size = c.maxLocals) (hlen : ∀ sig, parseMethodDescriptor y.desc = some sig → argsL.length = sig.parameters.length) (has : argsL.toArray = as') (hst : st = argsL.reverse ++ rest) (hW : (rest.map fun v => v.category).sum ≤ W)
    (hd : decode c.code pc = .ok (.invokestatic index, 3)) (hf : rm.frames + 1 ≤ R.frames) (hl : W + (maxL + 11) + rm.locals ≤ R.locals) (hc : cells + rm.cells ≤ R.cells) (hs : slots + rm.slots ≤ R.slots) :
    ∃ v T' L, Stand p l e R s m args below meth c T' (locs ++ L) (cells + rm.cells) (slots + rm.slots) ∧ P v T'.heap L ∧ ∀ t, Steps p.tables e below (T'.setTop (mkF m (pc + 3) Ls (v.toList ++ rest))) t → Steps p.tables e below (T.setTop (mkF m pc Ls st)) t := by
  obtain ⟨v, vm₁, ⟨T', L', k', n'⟩, -, X', ⟨L, hQ, l1, l2, l3⟩, stp⟩ := Jvm.LawKit.callS X hx hown (mvT hZ w1) (mvT hZ w2) (mvT hZ w3) (mvT hZ w4) hy (backOf (W := W) hM hZ w4 w3 hf hl) (g := mkF m pc Ls st) rfl hsz (argsL := argsL) (rest := rest) hlen hst (by show 2 * 0 + _ ≤ _; omega) hd (fun _ _ => ⟨has, eT, hc, hs⟩)
  dsimp only [Pt.U, Pt.locs, Pt.cells, Pt.slots] at X' l1 l2 l3 stp hQ
  subst l1 l2 l3
  exact ⟨v, T', L, X', hQ, stp⟩
theorem own_init (X : Stand p l e R s m args below meth c T locs cells slots) (hx : p.tables.exec = Jvm.exec) (hZ : Z.Warmed39 s.vm) {own : String} {index : Nat} {y : MethodName} {bytes : ByteArray} {maxL : Nat} {rm : Room} {as' : Array Value} {P : OwnP} (hy1 : y.name = "<init>")
    (hown : s.vm.findClass own = some m.cls) (w1 : (Cond.methodLink own index y).before a0 Z = true) (w2 : (Cond.instanceMethod y).before a0 Z = true) (w3 : (Cond.initialized y.cls).before a0 Z = true) (w4 : (Cond.code y bytes maxL none).before a0 Z = true) (hy : y.cls ≠ "java/lang/invoke/MethodHandle" ∧ y.cls ≠ "java/lang/invoke/VarHandle")
    (hM : OwnC l Z y bytes maxL none [] rm as' h P) (eT : T.heap = h) {pc : Nat} {Ls : Array Slot} {a : Addr} {argsL rest : List Value} (W : Nat) {st : List Value} (hsz : Ls.size = c.maxLocals) (hlen : ∀ sig, parseMethodDescriptor y.desc = some sig → argsL.length = sig.parameters.length) (has : (.ref a :: argsL).toArray = as') (hst : st = argsL.reverse ++ .ref a :: rest) (hW : (rest.map fun v => v.category).sum ≤ W)
    (hd : decode c.code pc = .ok (.invokespecial index, 3)) (hf : rm.frames + 1 ≤ R.frames) (hl : W + (maxL + 11) + rm.locals ≤ R.locals) (hc : cells + rm.cells ≤ R.cells) (hs : slots + rm.slots ≤ R.slots) :
    ∃ v T' L, Stand p l e R s m args below meth c T' (locs ++ L) (cells + rm.cells) (slots + rm.slots) ∧ P v T'.heap L ∧ ∀ t, Steps p.tables e below (T'.setTop (mkF m (pc + 3) Ls (v.toList ++ rest))) t → Steps p.tables e below (T.setTop (mkF m pc Ls st)) t := by
  obtain ⟨v, vm₁, ⟨T', L', k', n'⟩, -, X', ⟨L, hQ, l1, l2, l3⟩, stp⟩ := X.specialBack hx hy1 hown (mvT hZ w1) (mvT hZ w2) (mvT hZ w4) hy (backOf (W := W) hM hZ w4 w3 hf hl) (g := mkF m pc Ls st) rfl hsz (Steps.refl _) (a := a) (argsL := argsL) (rest := rest) hlen hst (by show 2 * 0 + _ ≤ _; omega) hd (fun _ _ => ⟨has, eT, hc, hs⟩)
  dsimp only [Pt.U, Pt.locs, Pt.cells, Pt.slots] at X' l1 l2 l3 stp hQ
  subst l1 l2 l3
  exact ⟨v, T', L, X', hQ, fun t k => stp.trans k⟩
theorem own_virtual (X : Stand p l e R s m args below meth c T locs cells slots) (hx : p.tables.exec = Jvm.exec) (hZ : Z.Warmed39 s.vm) {own C : String} {index : Nat} {y z : MethodName} {bytes : ByteArray} {maxL : Nat} {ret : Option FieldType} {rm : Room} {as' : Array Value} {P : OwnP}
    (hown : s.vm.findClass own = some m.cls) (w1 : (Cond.methodLink own index y).before a0 Z = true) (w2 : (Cond.declares y).before a0 Z = true) (hnf : NotFace s y) (w5 : (Cond.selects C y z).before a0 Z = true) (w6 : (Cond.instanceMethod z).before a0 Z = true) (w3 : (Cond.initialized z.cls).before a0 Z = true) (w4 : (Cond.code z bytes maxL ret).before a0 Z = true) (hy : y.cls ≠ "java/lang/invoke/MethodHandle" ∧ y.cls ≠ "java/lang/invoke/VarHandle")
    (hM : OwnC l Z z bytes maxL ret [] rm as' h P) (eT : T.heap = h) {a : Addr} (E : Exa Z h a C) {pc : Nat} {Ls : Array Slot} {argsL rest : List Value} (W : Nat) {st : List Value} (hsz : Ls.size = c.maxLocals) (hlen : ∀ sig, parseMethodDescriptor y.desc = some sig → argsL.length = sig.parameters.length) (has : (.ref a :: argsL).toArray = as') (hst : st = argsL.reverse ++ .ref a :: rest) (hW : (rest.map fun v => v.category).sum ≤ W)
    (hd : decode c.code pc = .ok (.invokevirtual index, 3)) (hf : rm.frames + 1 ≤ R.frames) (hl : W + (maxL + 11) + rm.locals ≤ R.locals) (hc : cells + rm.cells ≤ R.cells) (hs : slots + rm.slots ≤ R.slots) :
    ∃ v T' L, Stand p l e R s m args below meth c T' (locs ++ L) (cells + rm.cells) (slots + rm.slots) ∧ P v T'.heap L ∧ ∀ t, Steps p.tables e below (T'.setTop (mkF m (pc + 3) Ls (v.toList ++ rest))) t → Steps p.tables e below (T.setTop (mkF m pc Ls st)) t := by
  obtain ⟨cq, kq, qa, qb, qc⟩ := isOf hZ eT E
  obtain ⟨v, vm₁, ⟨T', L', k', n'⟩, -, X', ⟨L, hQ, l1, l2, l3⟩, stp⟩ := X.virtualBack hx (y := y) (z := z) hown (mvT hZ w1) (mvT hZ w2) hnf (mvT hZ w5) (mvT hZ w6) hy (backOf (W := W) hM hZ w4 w3 hf hl) qa qc (g := mkF m pc Ls st) rfl hsz (Steps.refl _) (argsL := argsL) (rest := rest) hlen hst (by show 2 * 0 + _ ≤ _; omega) hd (fun _ _ => ⟨has, eT, hc, hs⟩)
  dsimp only [Pt.U, Pt.locs, Pt.cells, Pt.slots] at X' l1 l2 l3 stp hQ
  subst l1 l2 l3
  exact ⟨v, T', L, X', hQ, fun t k => stp.trans k⟩
/-- a body that writes nothing and makes nothing -/
def OwnPure (w : Value) (h0 : Heap) : OwnP := fun v h L => v = some w ∧ h = h0 ∧ L = []
theorem own_nil (X : Stand p l e R s m args below meth c T (locs ++ []) cells slots) : Stand p l e R s m args below meth c T locs cells slots := by rwa [List.append_nil] at X
theorem own_iaload (X : Stand p l e R s m args below meth c T locs cells slots) (hx : p.tables.exec = Jvm.exec) (hZ : Z.Warmed39 s.vm) (eT : T.heap = h) {a : Addr} {k : ClassId} {n : Int32} {vs : List Value} {dv : Value} (V : Arv Z h a k .int n vs dv) {j x : Int32} (hj : ¬ j < 0 ∧ j < n) (hv : vs.getD j.toNatClampNeg dv = .int x)
    {pc : Nat} {Ls : Array Slot} {rest : List Value} (hd : decode c.code pc = .ok (.iaload, 1)) : ∀ t, Steps p.tables e below (T.setTop (mkF m (pc + 1) Ls (.int x :: rest))) t → Steps p.tables e below (T.setTop (mkF m pc Ls (.int j :: .ref a :: rest))) t := by
  obtain ⟨cl, A, -, S, -, H, -⟩ := V
  exact fun t k => X.iaload hx (by rw [eT]; exact A.1) (State.isArrayOf_alike hZ.alike A.2.1) A.2.2 (inb_of S hj) (H.at (inb_of S hj) hv) (g := mkF m pc Ls (.int j :: .ref a :: rest)) rfl rfl hd t k
theorem own_baload (X : Stand p l e R s m args below meth c T locs cells slots) (hx : p.tables.exec = Jvm.exec) (hZ : Z.Warmed39 s.vm) (eT : T.heap = h) {a : Addr} {k : ClassId} {n : Int32} {vs : List Value} {dv : Value} (V : Arv Z h a k .byte n vs dv) {j x : Int32} (hj : ¬ j < 0 ∧ j < n) (hv : vs.getD j.toNatClampNeg dv = .int x)
    {pc : Nat} {Ls : Array Slot} {rest : List Value} (hd : decode c.code pc = .ok (.baload, 1)) : ∀ t, Steps p.tables e below (T.setTop (mkF m (pc + 1) Ls (.int x :: rest))) t → Steps p.tables e below (T.setTop (mkF m pc Ls (.int j :: .ref a :: rest))) t := by
  obtain ⟨cl, A, -, S, -, H, -⟩ := V
  exact fun t k => X.baloadBytes hx (by rw [eT]; exact A.1) (State.isArrayOf_alike hZ.alike A.2.1) A.2.2 (inb_of S hj) (H.at (inb_of S hj) hv) (g := mkF m pc Ls (.int j :: .ref a :: rest)) rfl rfl hd t k
theorem own_aaload (X : Stand p l e R s m args below meth c T locs cells slots) (hx : p.tables.exec = Jvm.exec) (hZ : Z.Warmed39 s.vm) (eT : T.heap = h) {a : Addr} {k : ClassId} {ty : FieldType} {n : Int32} {vs : List Value} {dv : Value} (V : Arv Z h a k ty n vs dv) (hty : ty.isReference = true) {j : Int32} {w : Value} (hj : ¬ j < 0 ∧ j < n) (hv : vs.getD j.toNatClampNeg dv = w)
    {pc : Nat} {Ls : Array Slot} {rest : List Value} (hd : decode c.code pc = .ok (.aaload, 1)) : ∀ t, Steps p.tables e below (T.setTop (mkF m (pc + 1) Ls (w :: rest))) t → Steps p.tables e below (T.setTop (mkF m pc Ls (.int j :: .ref a :: rest))) t := by
  obtain ⟨cl, A, -, S, -, H, -⟩ := V
  exact fun t k => X.aaload hx (by rw [eT]; exact A.1) (State.isArrayOf_alike hZ.alike A.2.1) hty A.2.2 (inb_of S hj) (H.at (inb_of S hj) hv) (g := mkF m pc Ls (.int j :: .ref a :: rest)) rfl rfl hd t k
theorem own_alen (X : Stand p l e R s m args below meth c T locs cells slots) (hx : p.tables.exec = Jvm.exec) (hZ : Z.Warmed39 s.vm) (eT : T.heap = h) {a : Addr} {k : ClassId} {ty : FieldType} {n : Int32} {vs : List Value} {dv : Value} (V : Arv Z h a k ty n vs dv)
    {pc : Nat} {Ls : Array Slot} {rest : List Value} (hd : decode c.code pc = .ok (.arraylength, 1)) : ∀ t, Steps p.tables e below (T.setTop (mkF m (pc + 1) Ls (.int n :: rest))) t → Steps p.tables e below (T.setTop (mkF m pc Ls (.ref a :: rest))) t := by
  obtain ⟨cl, A, -, S, N, H, -⟩ := V
  intro t q
  refine X.arraylength hx (by rw [eT]; exact A.1) (State.isArrayOf_alike hZ.alike A.2.1) (g := mkF m pc Ls (.ref a :: rest)) rfl rfl hd t ?_
  rw [len_of S N]
  exact q
theorem own_iastore (X : Stand p l e R s m args below meth c T locs cells slots) (hx : p.tables.exec = Jvm.exec) (hZ : Z.Warmed39 s.vm) (eT : T.heap = h) {a : Addr} {k : ClassId} {n : Int32} {vs : List Value} {dv : Value} (V : Arv Z h a k .int n vs dv) {j x : Int32} (hj : ¬ j < 0 ∧ j < n) (i : Nat) (hi : j.toNatClampNeg = i) (hl : i < vs.length)
    {pc : Nat} {Ls : Array Slot} {rest : List Value} (hd : decode c.code pc = .ok (.iastore, 1)) : ∃ T' h', Stand p l e R s m args below meth c T' (locs ++ [⟨a, i⟩]) cells slots ∧ T'.heap = h' ∧ Wr h h' a i (.int x) ∧ Arv Z h' a k .int n (vs.set i (.int x)) dv ∧ ∀ t, Steps p.tables e below (T'.setTop (mkF m (pc + 1) Ls rest)) t → Steps p.tables e below (T.setTop (mkF m pc Ls (.int x :: .int j :: .ref a :: rest))) t := by
  obtain ⟨cl, A, q1, S, N, H, G⟩ := V
  obtain ⟨T', h', X', e', W', st⟩ := stI X hx hZ eT A (j := j) (x := x) (inb_of S hj) (g := mkF m pc Ls (.int x :: .int j :: .ref a :: rest)) rfl rfl hd
  have V' := Arv.set A q1 S N H G (v := .int x) rfl W' i hi hl
  rw [hi] at X' W'
  exact ⟨T', h', X', e', W', V', st⟩
theorem own_bastore (X : Stand p l e R s m args below meth c T locs cells slots) (hx : p.tables.exec = Jvm.exec) (hZ : Z.Warmed39 s.vm) (eT : T.heap = h) {a : Addr} {k : ClassId} {n : Int32} {vs : List Value} {dv : Value} (V : Arv Z h a k .byte n vs dv) {j x : Int32} (hj : ¬ j < 0 ∧ j < n) (i : Nat) (hi : j.toNatClampNeg = i) (hl : i < vs.length)
    {pc : Nat} {Ls : Array Slot} {rest : List Value} (hd : decode c.code pc = .ok (.bastore, 1)) : ∃ T' h', Stand p l e R s m args below meth c T' (locs ++ [⟨a, i⟩]) cells slots ∧ T'.heap = h' ∧ Wr h h' a i (.int x.toInt8.toInt32) ∧ Arv Z h' a k .byte n (vs.set i (.int x.toInt8.toInt32)) dv ∧ ∀ t, Steps p.tables e below (T'.setTop (mkF m (pc + 1) Ls rest)) t → Steps p.tables e below (T.setTop (mkF m pc Ls (.int x :: .int j :: .ref a :: rest))) t := by
  obtain ⟨cl, A, q1, S, N, H, G⟩ := V
  obtain ⟨T', h', X', e', W', st⟩ := stB X hx hZ eT A (j := j) (x := x) (inb_of S hj) (g := mkF m pc Ls (.int x :: .int j :: .ref a :: rest)) rfl rfl hd
  have V' := Arv.set A q1 S N H G (v := .int x.toInt8.toInt32) (fits_nar_byte x) W' i hi hl
  rw [hi] at X' W'
  exact ⟨T', h', X', e', W', V', st⟩
theorem own_aastore (X : Stand p l e R s m args below meth c T locs cells slots) (hx : p.tables.exec = Jvm.exec) (hZ : Z.Warmed39 s.vm) (eT : T.heap = h) {a : Addr} {k : ClassId} {ty : FieldType} {n : Int32} {vs : List Value} {dv : Value} (V : Arv Z h a k ty n vs dv) (hty : ty.isReference = true) {C : String} (O : Ovr Z k C) {y : Addr} (I : Ins Z h y C true) {j : Int32} (hj : ¬ j < 0 ∧ j < n) (i : Nat) (hi : j.toNatClampNeg = i) (hl : i < vs.length)
    {pc : Nat} {Ls : Array Slot} {rest : List Value} (hd : decode c.code pc = .ok (.aastore, 1)) : ∃ T' h', Stand p l e R s m args below meth c T' (locs ++ [⟨a, i⟩]) cells slots ∧ T'.heap = h' ∧ Wr h h' a i (.ref y) ∧ Arv Z h' a k ty n (vs.set i (.ref y)) dv ∧ ∀ t, Steps p.tables e below (T'.setTop (mkF m (pc + 1) Ls rest)) t → Steps p.tables e below (T.setTop (mkF m pc Ls (.ref y :: .int j :: .ref a :: rest))) t := by
  obtain ⟨cl, A, q1, S, N, H, G⟩ := V
  obtain ⟨T', h', X', e', W', st⟩ := stR X hx hZ eT A (j := j) (v := .ref y) (inb_of S hj) hty (Sto.ofV A q1 O I) (g := mkF m pc Ls (.ref y :: .int j :: .ref a :: rest)) rfl rfl hd
  have V' := Arv.set A q1 S N H G (v := .ref y) (by cases ty <;> first | rfl | (simp [FieldType.isReference] at hty)) W' i hi hl
  rw [hi] at X' W'
  exact ⟨T', h', X', e', W', V', st⟩
theorem own_lt_eq {x y : Int64} (h : x = y) : lcmpW x y = 0 := (lw_eq x y).mpr h
theorem own_rem_ne {x y : Int32} {target : State} {g : JFrame} (X : Stand p l e R s m args below meth c T locs cells slots) (hx : p.tables.exec = Jvm.exec) (hg : g.method = m) {rest : List Value} (hd : decode c.code g.pc = .ok (.irem, 1)) (hs : g.stack = .int y :: .int x :: rest) (hy : y ≠ 0)
    (hr : Steps p.tables e below (T.setTop { g with pc := g.pc + 1, stack := .int (x % y) :: rest }) target) : Steps p.tables e below (T.setTop g) target := iremM X hx hg hd hs hy hr
theorem own_lrem {x y : Int64} {target : State} {g : JFrame} (X : Stand p l e R s m args below meth c T locs cells slots) (hx : p.tables.exec = Jvm.exec) (hg : g.method = m) {rest : List Value} (hd : decode c.code g.pc = .ok (.lrem, 1)) (hs : g.stack = .long y :: .long x :: rest) (hy : y ≠ 0)
    (hr : Steps p.tables e below (T.setTop { g with pc := g.pc + 1, stack := .long (x % y) :: rest }) target) : Steps p.tables e below (T.setTop g) target := by
  refine XS.lrem X.here hx hg hd hs hy ?_
  rw [lrem_mod]
  exact hr
theorem own_fld_int {args : Array Value} {t : Term} {C n d : String} {k : Int32} {a : Addr} (ev : t.eval args Z none [] Z = some (.ref a)) (h : (Cond.eq (Term.field t C n d) (Term.int k)).value args Z none Z [] = some true) : Fld Z Z.heap a C n d (.int k) := by
  obtain ⟨x, y, h1, h2, h3, h4⟩ := cmp_v (Or.inl h)
  have hy : y = .int k := by rw [Term.int_eval] at h2; exact (Option.some.inj h2).symm
  subst hy
  obtain ⟨z, rfl⟩ : ∃ z, x = .int z := h4
  have hz : z = k := by simpa [Cond.value, h1, h2] using h
  subst hz
  rw [fld_at ev] at h1
  exact Fld.start h1
theorem own_sta_keep {C n d : String} {v : Value} {h' : Heap} (F : Sta Z h C n d v) (K : Keep h h' []) : Sta Z h' C n d v := by
  obtain ⟨cf, i, k, f, st, cell, h1, h2, h3, h4, h5, h6⟩ := F
  exact ⟨cf, i, k, f, st, cell, h1, h2, h3, h4, K.2.1 _ _ h5 nin0, h6⟩
/-- the objects of C are no K: C's superclasses are named, K is a class that has objects -/
theorem own_nsroot {O K : String} {n : Nat} (w : (Cond.noSuperclass O).before a0 Z = true) (wk : (Cond.instantiable K n).before a0 Z = true) (hn : O ≠ K) : NS Z O K := by
  obtain ⟨c, k, h1, h2, h3, -, -⟩ := Cond.noSuperclass_spec w
  obtain ⟨t, kt, g1, -⟩ := Cond.instantiable_spec wk
  have ne := ids_ne h1 g1 hn
  refine ⟨c, t, h1, g1, fun fuel => ?_⟩
  cases fuel with
  | zero => rfl
  | succ f => simp [Vm.isSubclassAux, ne, h2, h3]
theorem own_nsno {C S K : String} {n : Nat} (w : (Cond.superclass C S).before a0 Z = true) (wk : (Cond.instantiable K n).before a0 Z = true) (q : NS Z C K) (hn : C ≠ K) : ∃ c t, Z.vm.findClass C = some c ∧ Z.vm.findClass K = some t ∧ Z.vm.assignable c t = false := by
  obtain ⟨c, t, h0, g0, n3⟩ := q
  obtain ⟨p, k, kp, h1, h2, h3, h4, h5, -, h7⟩ := Cond.superclass_spec h0 w
  obtain ⟨t', kt, g1, g2, g3, g4, -⟩ := Cond.instantiable_spec wk
  cases g0.symm.trans g1
  have g5 : kt.isInterface = false := by
    cases hq : kt.isInterface with
    | false => rfl
    | true => rw [hq] at g4; simp at g4
  have ne := ids_ne h0 g0 hn
  refine ⟨c, t, h0, g0, ?_⟩
  show Z.vm.assignableAux (255 + 1) c t = false
  simp [Vm.assignableAux, ne, h2, g2, h5, g3, g5, Vm.isSubclass, n3]
theorem own_s16 (x : Int32) : x.toInt16.toInt32.toInt16.toInt32 = x.toInt16.toInt32 := by simp
theorem own_virtualUp (X : Stand p l e R s m args below meth c T locs cells slots) (hx : p.tables.exec = Jvm.exec) (hZ : Z.Warmed39 s.vm) {own C owner : String} {index : Nat} {x y : MethodName} {bytes : ByteArray} {maxL : Nat} {ret : Option FieldType} {rm : Room} {as' : Array Value} {P : OwnP}
    (hown : s.vm.findClass own = some m.cls) (w1 : (Cond.methodLink own index x).before a0 Z = true) (w2 : (Cond.sameMethod x.cls owner x.name x.desc).before a0 Z = true) (w7 : (Cond.declares ⟨owner, x.name, x.desc⟩).before a0 Z = true) (hy : owner ≠ "java/lang/invoke/MethodHandle" ∧ owner ≠ "java/lang/invoke/VarHandle") (w5 : (Cond.selects C x y).before a0 Z = true) (w6 : (Cond.instanceMethod y).before a0 Z = true) (w3 : (Cond.initialized y.cls).before a0 Z = true) (w4 : (Cond.code y bytes maxL ret).before a0 Z = true)
    (hM : OwnC l Z y bytes maxL ret [] rm as' h P) (eT : T.heap = h) {a : Addr} (E : Exa Z h a C) {pc : Nat} {Ls : Array Slot} {argsL rest : List Value} (W : Nat) {st : List Value} (hsz : Ls.size = c.maxLocals) (hlen : ∀ sig, parseMethodDescriptor x.desc = some sig → argsL.length = sig.parameters.length) (has : (.ref a :: argsL).toArray = as') (hst : st = argsL.reverse ++ .ref a :: rest) (hW : (rest.map fun v => v.category).sum ≤ W)
    (hd : decode c.code pc = .ok (.invokevirtual index, 3)) (hf : rm.frames + 1 ≤ R.frames) (hl : W + (maxL + 11) + rm.locals ≤ R.locals) (hc : cells + rm.cells ≤ R.cells) (hs : slots + rm.slots ≤ R.slots) :
    ∃ v T' L, Stand p l e R s m args below meth c T' (locs ++ L) (cells + rm.cells) (slots + rm.slots) ∧ P v T'.heap L ∧ ∀ t, Steps p.tables e below (T'.setTop (mkF m (pc + 3) Ls (v.toList ++ rest))) t → Steps p.tables e below (T.setTop (mkF m pc Ls st)) t := by
  obtain ⟨cq, kq, qa, qb, qc⟩ := isOf hZ eT E
  obtain ⟨v, vm₁, ⟨T', L', k', n'⟩, -, X', ⟨L, hQ, l1, l2, l3⟩, stp⟩ := X.virtualBackUp hx (x := x) (y := y) hown (mvT hZ w1) (mvT hZ w2) (mvT hZ w7) hy (mvT hZ w5) (mvT hZ w6) (backOf (W := W) hM hZ w4 w3 hf hl) qa qc (g := mkF m pc Ls st) rfl hsz (Steps.refl _) (argsL := argsL) (rest := rest) hlen hst (by show 2 * 0 + _ ≤ _; omega) hd (fun _ _ => ⟨has, eT, hc, hs⟩)
  dsimp only [Pt.U, Pt.locs, Pt.cells, Pt.slots] at X' l1 l2 l3 stp hQ
  subst l1 l2 l3
  exact ⟨v, T', L, X', hQ, fun t k => stp.trans k⟩
theorem own_castore (X : Stand p l e R s m args below meth c T locs cells slots) (hx : p.tables.exec = Jvm.exec) (hZ : Z.Warmed39 s.vm) (eT : T.heap = h) {a : Addr} {k : ClassId} {n : Int32} {vs : List Value} {dv : Value} (V : Arv Z h a k .char n vs dv) {j x : Int32} (hj : ¬ j < 0 ∧ j < n) (i : Nat) (hi : j.toNatClampNeg = i) (hl : i < vs.length)
    {pc : Nat} {Ls : Array Slot} {rest : List Value} (hd : decode c.code pc = .ok (.castore, 1)) : ∃ T' h', Stand p l e R s m args below meth c T' (locs ++ [⟨a, i⟩]) cells slots ∧ T'.heap = h' ∧ Wr h h' a i (.int x.toUInt32.toUInt16.toUInt32.toInt32) ∧ Arv Z h' a k .char n (vs.set i (.int x.toUInt32.toUInt16.toUInt32.toInt32)) dv ∧ ∀ t, Steps p.tables e below (T'.setTop (mkF m (pc + 1) Ls rest)) t → Steps p.tables e below (T.setTop (mkF m pc Ls (.int x :: .int j :: .ref a :: rest))) t := by
  obtain ⟨cl, A, q1, S, N, H, G⟩ := V
  obtain ⟨T', h', X', e', W', st⟩ := stC X hx hZ eT A (j := j) (x := x) (inb_of S hj) (g := mkF m pc Ls (.int x :: .int j :: .ref a :: rest)) rfl rfl hd
  have V' := Arv.set A q1 S N H G (v := .int x.toUInt32.toUInt16.toUInt32.toInt32) (fits_nar_char x) W' i hi hl
  rw [hi] at X' W'
  exact ⟨T', h', X', e', W', V', st⟩
theorem own_sta_keep1 {C n d C' : String} {v : Value} {h' : Heap} {a : Addr} (F : Sta Z h C n d v) (K : Keep h h' [a]) (E : Exa Z h a C') : Sta Z h' C n d v := by
  obtain ⟨cf, i, k, f, st, cell, h1, h2, h3, h4, h5, h6, h7⟩ := F
  obtain ⟨cell', k', e1, -, -, e4, -⟩ := E
  have hne : st ≠ a := fun q => by
    subst q
    cases h5.symm.trans e1
    rw [h6] at e4
    cases e4
  exact ⟨cf, i, k, f, st, cell, h1, h2, h3, h4, K.2.1 _ _ h5 (ninS hne nin0), h6, h7⟩
theorem own_private (X : Stand p l e R s m args below meth c T locs cells slots) (hx : p.tables.exec = Jvm.exec) (hZ : Z.Warmed39 s.vm) {own C : String} {index n : Nat} {y : MethodName} {bytes : ByteArray} {maxL : Nat} {ret : Option FieldType} {rm : Room} {as' : Array Value} {P : OwnP}
    (hown : s.vm.findClass own = some m.cls) (w1 : (Cond.methodLink own index y).before a0 Z = true) (w2 : (Cond.instanceMethod y).before a0 Z = true) (wp : (Cond.privateMethod y).before a0 Z = true) (wi : (Cond.instantiable y.cls n).before a0 Z = true) (w3 : (Cond.initialized y.cls).before a0 Z = true) (w4 : (Cond.code y bytes maxL ret).before a0 Z = true) (hy : y.cls ≠ "java/lang/invoke/MethodHandle" ∧ y.cls ≠ "java/lang/invoke/VarHandle")
    (hM : OwnC l Z y bytes maxL ret [] rm as' h P) (eT : T.heap = h) {a : Addr} (E : Exa Z h a C) {pc : Nat} {Ls : Array Slot} {argsL rest : List Value} (W : Nat) {st : List Value} (hsz : Ls.size = c.maxLocals) (hlen : ∀ sig, parseMethodDescriptor y.desc = some sig → argsL.length = sig.parameters.length) (has : (.ref a :: argsL).toArray = as') (hst : st = argsL.reverse ++ .ref a :: rest) (hW : (rest.map fun v => v.category).sum ≤ W)
    (hd : decode c.code pc = .ok (.invokevirtual index, 3)) (hf : rm.frames + 1 ≤ R.frames) (hl : W + (maxL + 11) + rm.locals ≤ R.locals) (hc : cells + rm.cells ≤ R.cells) (hs : slots + rm.slots ≤ R.slots) :
    ∃ v T' L, Stand p l e R s m args below meth c T' (locs ++ L) (cells + rm.cells) (slots + rm.slots) ∧ P v T'.heap L ∧ ∀ t, Steps p.tables e below (T'.setTop (mkF m (pc + 3) Ls (v.toList ++ rest))) t → Steps p.tables e below (T.setTop (mkF m pc Ls st)) t := by
  obtain ⟨cell, hcell, hobj⟩ := E.cell
  have hpriv := Cond.privateMethod_at (mvP hZ wp (args := args))
  obtain ⟨ci, ki, i1, i2, i3, i4, -⟩ := Cond.instantiable_spec (show (Cond.instantiable y.cls n).before args s = true from mvT hZ wi)
  have hni : ki.isInterface = false := by
    cases hq : ki.isInterface with
    | false => rfl
    | true => rw [hq] at i4; simp at i4
  have hsel := selects_self_of_private (args := args) i1 i2 hni hpriv (mvT hZ w2) hy
  obtain ⟨v, vm₁, ⟨T', L', k', n'⟩, -, X', ⟨L, hQ, l1, l2, l3⟩, stp⟩ := X.privateBack hx (y := y) hown (mvT hZ w1) (mvT hZ w2) hsel hpriv (mvT hZ w4) hy (backOf (W := W) hM hZ w4 w3 hf hl) (g := mkF m pc Ls st) rfl hsz (Steps.refl _) (a := a) (by rw [eT]; exact hcell) hobj (argsL := argsL) (rest := rest) hlen hst (by show 2 * 0 + _ ≤ _; omega) hd (fun _ _ => ⟨has, eT, hc, hs⟩)
  dsimp only [Pt.U, Pt.locs, Pt.cells, Pt.slots] at X' l1 l2 l3 stp hQ
  subst l1 l2 l3
  exact ⟨v, T', L, X', hQ, fun t k => stp.trans k⟩
theorem own_interface (X : Stand p l e R s m args below meth c T locs cells slots) (hx : p.tables.exec = Jvm.exec) (hZ : Z.Warmed39 s.vm) {own C : String} {index count : Nat} {xi y : MethodName} {bytes : ByteArray} {maxL : Nat} {ret : Option FieldType} {rm : Room} {as' : Array Value} {P : OwnP}
    (hown : s.vm.findClass own = some m.cls) (w1 : (Cond.methodLink own index xi).before a0 Z = true) (w2 : (Cond.declares xi).before a0 Z = true) (w7 : (Cond.interfaceMethod xi.cls xi.cls xi.name xi.desc).before args s = true) (w5 : (Cond.selects C xi y).before a0 Z = true) (w6 : (Cond.instanceMethod y).before a0 Z = true) (w8 : (Cond.publicMethod y).before a0 Z = true) (w9 : (Cond.unhidden C xi.name xi.desc).before a0 Z = true) (w10 : (Cond.castable C xi.cls).before a0 Z = true) (w3 : (Cond.initialized y.cls).before a0 Z = true) (w4 : (Cond.code y bytes maxL ret).before a0 Z = true) (hy : xi.cls ≠ "java/lang/invoke/MethodHandle" ∧ xi.cls ≠ "java/lang/invoke/VarHandle")
    (hM : OwnC l Z y bytes maxL ret [] rm as' h P) (eT : T.heap = h) {a : Addr} (E : Exa Z h a C) {pc : Nat} {Ls : Array Slot} {argsL rest : List Value} (W : Nat) {st : List Value} (hsz : Ls.size = c.maxLocals) (hlen : ∀ sig, parseMethodDescriptor xi.desc = some sig → argsL.length = sig.parameters.length) (has : (.ref a :: argsL).toArray = as') (hst : st = argsL.reverse ++ .ref a :: rest) (hW : (rest.map fun v => v.category).sum ≤ W)
    (hd : decode c.code pc = .ok (.invokeinterface index count, 5)) (hf : rm.frames + 1 ≤ R.frames) (hl : W + (maxL + 11) + rm.locals ≤ R.locals) (hc : cells + rm.cells ≤ R.cells) (hs : slots + rm.slots ≤ R.slots) :
    ∃ v T' L, Stand p l e R s m args below meth c T' (locs ++ L) (cells + rm.cells) (slots + rm.slots) ∧ P v T'.heap L ∧ ∀ t, Steps p.tables e below (T'.setTop (mkF m (pc + 5) Ls (v.toList ++ rest))) t → Steps p.tables e below (T.setTop (mkF m pc Ls st)) t := by
  obtain ⟨cq, kq, qa, qb, qc⟩ := isOf hZ eT E
  obtain ⟨v, vm₁, ⟨T', L', k', n'⟩, -, X', ⟨L, hQ, l1, l2, l3⟩, stp⟩ := X.interfaceBack hx (xi := xi) (y := y) hown (mvT hZ w1) (mvT hZ w2) w7 (mvT hZ w5) (mvT hZ w6) (mvT hZ w8) (mvT hZ w9) (mvT hZ w10) hy (backOf (W := W) hM hZ w4 w3 hf hl) qa qb qc (g := mkF m pc Ls st) rfl hsz (Steps.refl _) (argsL := argsL) (rest := rest) hlen hst (by show 2 * 0 + _ ≤ _; omega) hd (fun _ _ => ⟨has, eT, hc, hs⟩)
  dsimp only [Pt.U, Pt.locs, Pt.cells, Pt.slots] at X' l1 l2 l3 stp hQ
  subst l1 l2 l3
  exact ⟨v, T', L, X', hQ, fun t k => stp.trans k⟩
theorem own_staticUp (X : Stand p l e R s m args below meth c T locs cells slots) (hx : p.tables.exec = Jvm.exec) (hZ : Z.Warmed39 s.vm) {own owner : String} {index : Nat} {x : MethodName} {bytes : ByteArray} {maxL : Nat} {ret : Option FieldType} {rm : Room} {as' : Array Value} {P : OwnP}
    (hown : s.vm.findClass own = some m.cls) (w1 : (Cond.methodLink own index x).before a0 Z = true) (w2 : (Cond.sameMethod x.cls owner x.name x.desc).before a0 Z = true) (hy : owner ≠ "java/lang/invoke/MethodHandle" ∧ owner ≠ "java/lang/invoke/VarHandle") (w5 : (Cond.static ⟨owner, x.name, x.desc⟩).before a0 Z = true) (w3 : (Cond.initialized owner).before a0 Z = true) (w4 : (Cond.code ⟨owner, x.name, x.desc⟩ bytes maxL ret).before a0 Z = true)
    (hM : OwnC l Z ⟨owner, x.name, x.desc⟩ bytes maxL ret [] rm as' h P) (eT : T.heap = h) {pc : Nat} {Ls : Array Slot} {argsL rest : List Value} (W : Nat) {st : List Value} (hsz : Ls.size = c.maxLocals) (hlen : ∀ sig, parseMethodDescriptor x.desc = some sig → argsL.length = sig.parameters.length) (has : argsL.toArray = as') (hst : st = argsL.reverse ++ rest) (hW : (rest.map fun v => v.category).sum ≤ W)
    (hd : decode c.code pc = .ok (.invokestatic index, 3)) (hf : rm.frames + 1 ≤ R.frames) (hl : W + (maxL + 11) + rm.locals ≤ R.locals) (hc : cells + rm.cells ≤ R.cells) (hs : slots + rm.slots ≤ R.slots) :
    ∃ v T' L, Stand p l e R s m args below meth c T' (locs ++ L) (cells + rm.cells) (slots + rm.slots) ∧ P v T'.heap L ∧ ∀ t, Steps p.tables e below (T'.setTop (mkF m (pc + 3) Ls (v.toList ++ rest))) t → Steps p.tables e below (T.setTop (mkF m pc Ls st)) t := by
  have c4 : (Cond.code ⟨owner, x.name, x.desc⟩ bytes maxL ret).before args s = true := mvT hZ w4
  obtain ⟨mk, hnamed⟩ := Cond.code_named c4
  obtain ⟨methM, cM, hmethM, -, -, -, -, -, -, hsigM⟩ := Cond.code_spec hnamed c4
  have hstatic : methM.isStatic = true := Cond.static_spec hnamed hmethM (mvT (args := args) hZ w5)
  obtain ⟨kP, hkP, -⟩ := className_of_methodNamed hnamed
  have hinitP : kP.init = .initialized := Cond.initialized_spec (findClass_of_methodNamed hnamed) hkP (mvT (args := args) hZ w3)
  obtain ⟨vm₁, X₁, hstep₁⟩ := X.invokestaticUp hx hown (mvT hZ w1) (mvT hZ w2) hy hnamed hmethM hstatic hkP hinitP (g := mkF m pc Ls st) rfl (argsL := argsL) (rest := rest) (hlen _ hsigM) hst hd
  obtain ⟨v, ⟨T', L', k', n'⟩, X', ⟨L, hQ, l1, l2, l3⟩, hsteps⟩ := (backOf (len := 3) (W := W) hM hZ w4 w3 hf hl) m meth c ⟨T.setVm vm₁, locs, cells, slots⟩ { mkF m pc Ls st with stack := rest } (.invokestatic index) mk argsL.toArray X₁ rfl hsz hd (by show 2 * 0 + (rest.map fun v => v.category).sum ≤ W; rw [Nat.mul_zero, Nat.zero_add]; exact hW) (X₁.named hnamed) ⟨has, eT, hc, hs⟩
  dsimp only [Pt.U, Pt.locs, Pt.cells, Pt.slots] at X' l1 l2 l3 hsteps hQ
  subst l1 l2 l3
  exact ⟨v, T', L, X', hQ, fun t k => ((hstep₁ _ fun acts => by rw [doInvoke_state]; exact Steps.refl _).trans hsteps).trans k⟩
theorem own_getfRef (X : Stand p l e R s m args below meth c T locs cells slots) (hx : p.tables.exec = Jvm.exec) (hZ : Z.Warmed39 s.vm) {own O n d : String} {index : Nat} (hown : s.vm.findClass own = some m.cls) (w : (Cond.fieldRef own index O n d).before a0 Z = true) (eT : T.heap = h) {a : Addr} {v : Value} (F : Fld Z h a O n d v)
    {pc : Nat} {Ls : Array Slot} {rest : List Value} (hd : decode c.code pc = .ok (.getfield index, 3)) : ∀ t, Steps p.tables e below (T.setTop (mkF m (pc + 3) Ls (v :: rest))) t → Steps p.tables e below (T.setTop (mkF m pc Ls (.ref a :: rest))) t := by
  obtain ⟨cell, cf, k, i, f, h1, h2, h3, h4, -, -, h7⟩ := F
  have hW : Z.Warmed39 T.vm := wtrans hZ X.warmed
  have hw := Cond.fieldRef_warmed39 hW w
  have hcur : (Z.setVm T.vm).vm.findClass own = some m.cls := by
    show T.vm.findClass own = _
    rw [X.warmed.alike.findClass]
    exact hown
  obtain ⟨c', k', i', f', q1, q2⟩ := Cond.fieldRef_spec hcur hw
  obtain ⟨k2, hi, -⟩ := State.fieldFound?_setVm (s := Z) hW.alike h2
  rw [hi] at q1
  cases q1
  exact fun t kk => (X.getfieldR hx (g := mkF m pc Ls (.ref a :: rest)) rfl q2 h3 rfl (by rw [eT]; exact h1) h4 h7 hd (Steps.refl _)).trans kk
theorem own_sneE {a b : Addr} {cell : Cell} {C : String} (h1 : h[a]? = some cell) (h2 : cell.vm.isStatics = true) (E : Exa Z h b C) : a ≠ b := fun q => by
  obtain ⟨cell', k', e1, -, -, e4, -⟩ := E
  subst q
  cases h1.symm.trans e1
  rw [h2] at e4
  cases e4
theorem own_sneA {a b : Addr} {cell : Cell} {k : ClassId} {ty : FieldType} {n : Int32} {vs : List Value} {dv : Value} (h1 : h[a]? = some cell) (h2 : cell.vm.isStatics = true) (V : Arv Z h b k ty n vs dv) : a ≠ b := fun q => by
  obtain ⟨cl, A, -⟩ := V
  subst q
  cases h1.symm.trans A.1
  have := A.plain
  rw [h2] at this
  cases this
theorem own_sta_keepL {C n d : String} {v : Value} {h' : Heap} {ws : List Addr} (F : Sta Z h C n d v) (K : Keep h h' ws) (q : ∀ (a : Addr) (cell : Cell), h[a]? = some cell → cell.vm.isStatics = true → a ∉ ws) : Sta Z h' C n d v := by
  obtain ⟨cf, i, k, f, st, cell, h1, h2, h3, h4, h5, h6, h7⟩ := F
  exact ⟨cf, i, k, f, st, cell, h1, h2, h3, h4, K.2.1 _ _ h5 (q _ _ h5 h6), h6, h7⟩
theorem own_nf {args : Array Value} {s : State} {C : String} {x y z : MethodName} (hsel : (Cond.selects C x z).before args s = true) (hc : y.cls = z.cls) : NotFace s y := fun r0 h0 => by
  obtain ⟨c2, r2, m2, q1, q2, q3, q4, kP, hkP, hkPi⟩ := Cond.selects_spec hsel
  have e1 := findClass_of_methodNamed h0
  have e2 := findClass_of_methodNamed q3
  rw [hc] at e1
  have e3 : r0.cls = m2.cls := Option.some.inj (e1.symm.trans e2)
  exact ⟨kP, by rw [e3]; exact hkP, hkPi⟩
end OwnKit
end Jvm.RoadKit
namespace Jvm.Pilot.@@N@@
open Jvm Jvm.ClassFile Sem Op Lib Jvm.Free Jvm.Stand Jvm.LawKit Jvm.RoadKit Bundle Jvm.Pilot.@@N@@.Jvm.D
theorem own_w {Z : State} {a0 : Array Value} (hw : ∀ d ∈ tables_1, d.before a0 Z = true) (i : Nat) {d : Jvm.Cond} (h : tables_1[i]? = some d) : d.before a0 Z = true := hw _ (List.mem_of_getElem? h)
theorem own_i {a : Addr} {L : List Addr} {Q : Prop} (i : Nat) (h : L[i]? = some a) : a ∈ L ∨ Q := Or.inl (List.mem_of_getElem? h)
theorem pd__JJJ_V : parseMethodDescriptor "(JJJ)V" = some ⟨[.long, .long, .long], none⟩ := by decide +kernel
theorem pd___V : parseMethodDescriptor "()V" = some ⟨[], none⟩ := by decide +kernel
theorem pd__Ljava_lang_Object__Z : parseMethodDescriptor "(Ljava/lang/Object;)Z" = some ⟨[(.object "java/lang/Object")], some .boolean⟩ := by decide +kernel
theorem pd__J_Ljava_lang_Long_ : parseMethodDescriptor "(J)Ljava/lang/Long;" = some ⟨[.long], some (.object "java/lang/Long")⟩ := by decide +kernel
theorem pd__J_V : parseMethodDescriptor "(J)V" = some ⟨[.long], none⟩ := by decide +kernel
theorem d1_0 : decode prog_20_method_1_code 0 = .ok (.aload_n 0, 1) := by decide +kernel
theorem d1_1 : decode prog_20_method_1_code 1 = .ok (.invokespecial 1, 3) := by decide +kernel
theorem d1_4 : decode prog_20_method_1_code 4 = .ok (.aload_n 0, 1) := by decide +kernel
theorem d1_5 : decode prog_20_method_1_code 5 = .ok (.lload_n 1, 1) := by decide +kernel
theorem d1_6 : decode prog_20_method_1_code 6 = .ok (.putfield 7, 3) := by decide +kernel
theorem d1_9 : decode prog_20_method_1_code 9 = .ok (.aload_n 0, 1) := by decide +kernel
theorem d1_10 : decode prog_20_method_1_code 10 = .ok (.lload_n 3, 1) := by decide +kernel
theorem d1_11 : decode prog_20_method_1_code 11 = .ok (.putfield 13, 3) := by decide +kernel
theorem d1_14 : decode prog_20_method_1_code 14 = .ok (.aload_n 0, 1) := by decide +kernel
theorem d1_15 : decode prog_20_method_1_code 15 = .ok (.lload 5, 2) := by decide +kernel
theorem d1_17 : decode prog_20_method_1_code 17 = .ok (.putfield 16, 3) := by decide +kernel
theorem d1_20 : decode prog_20_method_1_code 20 = .ok (.return_, 1) := by decide +kernel
theorem pf_com_example_semel_semel_log_AbortedTransaction__init___JJJ_V : plainFor (⟨"com/example/semel/semel/log/AbortedTransaction", "<init>", "(JJJ)V"⟩ : MethodName) = true := by first | exact plainFor_of_name (by first | (simp [plainName, overriddenIn]; done) | decide +kernel) | exact Jvm.Free.JP.mathPlain rfl (by decide +kernel) | decide +kernel
theorem ef_rm1 (m : MethodId) (q0 : Addr) (q1 : Int64) (q2 : Int64) (q3 : Int64) : entryFrame m #[(.ref q0), (.long q1), (.long q2), (.long q3)] 7 = mkF m 0 #[rv q0, .val (.long q1), .second, .val (.long q2), .second, .val (.long q3), .second] [] := by first | (simp [entryFrame, mkF, argsToLocals, Value.category]; done) | rfl
set_option maxRecDepth 65536 in
set_option maxHeartbeats 40000000 in
theorem rm1 (l : Launch) (Z : State) (a0 : Array Value) (hw : ∀ d ∈ tables_1, d.before a0 Z = true) (ws : List Jvm.Cond) (x0 : Addr) (x1 : Int64) (x2 : Int64) (x3 : Int64) (h0 : Heap) (n0 : Nat) (Z0 : n0 ≤ h0.size) (E_x0 : Exa Z h0 x0 "com/example/semel/semel/log/AbortedTransaction") (g_x0 : n0 ≤ x0) (F_producerId : Fld Z h0 x0 "com/example/semel/semel/log/AbortedTransaction" "producerId" "J" (.long 0)) (F_firstOffset : Fld Z h0 x0 "com/example/semel/semel/log/AbortedTransaction" "firstOffset" "J" (.long 0)) (F_lastOffset : Fld Z h0 x0 "com/example/semel/semel/log/AbortedTransaction" "lastOffset" "J" (.long 0)) :
    OwnC l Z (⟨"com/example/semel/semel/log/AbortedTransaction", "<init>", "(JJJ)V"⟩ : MethodName) prog_20_method_1_code 7 none ws ({ frames := 1, cells := 0, slots := 0, locals := 12 } : Room) #[(.ref x0), (.long x1), (.long x2), (.long x3)] h0 (fun v h L => v = none ∧ Fr n0 L ∧ Keep h0 h [x0] ∧ Exa Z h x0 "com/example/semel/semel/log/AbortedTransaction" ∧ Fld Z h x0 "com/example/semel/semel/log/AbortedTransaction" "producerId" "J" (.long x1) ∧ Fld Z h x0 "com/example/semel/semel/log/AbortedTransaction" "firstOffset" "J" (.long x2) ∧ Fld Z h x0 "com/example/semel/semel/log/AbortedTransaction" "lastOffset" "J" (.long x3)) := by
  refine own_entry pf_com_example_semel_semel_log_AbortedTransaction__init___JJJ_V (fun m => ef_rm1 m x0 x1 x2 x3) ?_
  intro p e s m below meth c T0 X0 hC e0
  obtain ⟨hx, hby, hml, hown, hnm, hret, hlk, hZ⟩ := hC
  have N0 := Fr.nil n0
  have K0 := Keep.refl h0 [x0]
  refine own_go T0 m 1 #[rv x0, .val (.long x1), .second, .val (.long x2), .second, .val (.long x3), .second] [(.ref x0)] (fun t k => XS.aloadN X0.here hx rfl (hb hby d1_0) rfl rfl k) ?_
  obtain ⟨T1, X1, e1, st1⟩ := initO X0 hx hZ hown (own_w hw 6 rfl) (own_w hw 7 rfl) (own_w hw 8 rfl) e0 (g := (mkF m 1 #[rv x0, .val (.long x1), .second, .val (.long x2), .second, .val (.long x3), .second] [(.ref x0)])) rfl (by rw [hml]; rfl) rfl (hb hby d1_1) (by decide) (W := 0) (by show 2 * 0 + _ ≤ _; exact Nat.le_of_eq rfl) (by decide)
  refine own_go T1 m 4 #[rv x0, .val (.long x1), .second, .val (.long x2), .second, .val (.long x3), .second] [] (st1) ?_
  refine own_go T1 m 5 #[rv x0, .val (.long x1), .second, .val (.long x2), .second, .val (.long x3), .second] [(.ref x0)] (fun t k => XS.aloadN X1.here hx rfl (hb hby d1_4) rfl rfl k) ?_
  refine own_go T1 m 6 #[rv x0, .val (.long x1), .second, .val (.long x2), .second, .val (.long x3), .second] [(.long x1), (.ref x0)] (fun t k => XS.lloadN X1.here hx rfl (hb hby d1_5) rfl k) ?_
  obtain ⟨T2, h2, X2, e2, W2, st2⟩ := putF X1 hx hZ hown (host := "") (Or.inl (own_w hw 9 rfl)) Via.refl e1 F_producerId E_x0 (Or.inr ⟨(own_w hw 10 rfl), rfl, hnm⟩) (own_w hw 1 rfl) (ty := .long) (by decide) rfl rfl (g := (mkF m 6 #[rv x0, .val (.long x1), .second, .val (.long x2), .second, .val (.long x3), .second] [(.long x1), (.ref x0)])) rfl rfl (hb hby d1_6)
  have F2 := F_producerId.same W2
  have cf3 := E_x0.wr W2
  have cf4 := F_firstOffset.other W2 (Or.inr (slot_ne (Or.inr (own_w hw 12 rfl)) (Or.inr (own_w hw 10 rfl)) (by decide) (t := .long) (t' := .long) (by decide) (by decide)))
  have cf5 := F_lastOffset.other W2 (Or.inr (slot_ne (Or.inr (own_w hw 14 rfl)) (Or.inr (own_w hw 10 rfl)) (by decide) (t := .long) (t' := .long) (by decide) (by decide)))
  have Z_2 : n0 ≤ h2.size := Nat.le_trans Z0 (Keep.of_wr W2).1
  have K_2 : Keep h0 h2 [x0] := K0.wr W2 (own_i 0 rfl)
  have N2 := Fr.snoc X2 N0 g_x0
  refine own_go T2 m 9 #[rv x0, .val (.long x1), .second, .val (.long x2), .second, .val (.long x3), .second] [] (st2) ?_
  refine own_go T2 m 10 #[rv x0, .val (.long x1), .second, .val (.long x2), .second, .val (.long x3), .second] [(.ref x0)] (fun t k => XS.aloadN X2.here hx rfl (hb hby d1_9) rfl rfl k) ?_
  refine own_go T2 m 11 #[rv x0, .val (.long x1), .second, .val (.long x2), .second, .val (.long x3), .second] [(.long x2), (.ref x0)] (fun t k => XS.lloadN X2.here hx rfl (hb hby d1_10) rfl k) ?_
  obtain ⟨T6, h6, X6, e6, W6, st6⟩ := putF X2 hx hZ hown (host := "") (Or.inl (own_w hw 11 rfl)) Via.refl e2 cf4 cf3 (Or.inr ⟨(own_w hw 12 rfl), rfl, hnm⟩) (own_w hw 1 rfl) (ty := .long) (by decide) rfl rfl (g := (mkF m 11 #[rv x0, .val (.long x1), .second, .val (.long x2), .second, .val (.long x3), .second] [(.long x2), (.ref x0)])) rfl rfl (hb hby d1_11)
  have F6 := cf4.same W6
  have cf7 := cf3.wr W6
  have cf8 := cf5.other W6 (Or.inr (slot_ne (Or.inr (own_w hw 14 rfl)) (Or.inr (own_w hw 12 rfl)) (by decide) (t := .long) (t' := .long) (by decide) (by decide)))
  have cf9 := F2.other W6 (Or.inr (slot_ne (Or.inr (own_w hw 10 rfl)) (Or.inr (own_w hw 12 rfl)) (by decide) (t := .long) (t' := .long) (by decide) (by decide)))
  have Z_6 : n0 ≤ h6.size := Nat.le_trans Z_2 (Keep.of_wr W6).1
  have K_6 : Keep h0 h6 [x0] := K_2.wr W6 (own_i 0 rfl)
  have N6 := Fr.snoc X6 N2 g_x0
  refine own_go T6 m 14 #[rv x0, .val (.long x1), .second, .val (.long x2), .second, .val (.long x3), .second] [] (st6) ?_
  refine own_go T6 m 15 #[rv x0, .val (.long x1), .second, .val (.long x2), .second, .val (.long x3), .second] [(.ref x0)] (fun t k => XS.aloadN X6.here hx rfl (hb hby d1_14) rfl rfl k) ?_
  refine own_go T6 m 17 #[rv x0, .val (.long x1), .second, .val (.long x2), .second, .val (.long x3), .second] [(.long x3), (.ref x0)] (fun t k => XS.lload X6.here hx rfl (hb hby d1_15) rfl k) ?_
  obtain ⟨T10, h10, X10, e10, W10, st10⟩ := putF X6 hx hZ hown (host := "") (Or.inl (own_w hw 13 rfl)) Via.refl e6 cf8 cf7 (Or.inr ⟨(own_w hw 14 rfl), rfl, hnm⟩) (own_w hw 1 rfl) (ty := .long) (by decide) rfl rfl (g := (mkF m 17 #[rv x0, .val (.long x1), .second, .val (.long x2), .second, .val (.long x3), .second] [(.long x3), (.ref x0)])) rfl rfl (hb hby d1_17)
  have F10 := cf8.same W10
  have cf11 := cf7.wr W10
  have cf12 := cf9.other W10 (Or.inr (slot_ne (Or.inr (own_w hw 10 rfl)) (Or.inr (own_w hw 14 rfl)) (by decide) (t := .long) (t' := .long) (by decide) (by decide)))
  have cf13 := F6.other W10 (Or.inr (slot_ne (Or.inr (own_w hw 12 rfl)) (Or.inr (own_w hw 14 rfl)) (by decide) (t := .long) (t' := .long) (by decide) (by decide)))
  have Z_10 : n0 ≤ h10.size := Nat.le_trans Z_6 (Keep.of_wr W10).1
  have K_10 : Keep h0 h10 [x0] := K_6.wr W10 (own_i 0 rfl)
  have N10 := Fr.snoc X10 N6 g_x0
  refine own_go T10 m 20 #[rv x0, .val (.long x1), .second, .val (.long x2), .second, .val (.long x3), .second] [] (st10) ?_
  refine own_retV X10 hx hlk hret (hb hby d1_20) (by decide) (by decide) ?_
  rw [e10]
  exact ⟨rfl, N10, K_10, cf11, cf12, cf13, F10⟩
def own_eq (a0 : Int64) (a1 : Int64) (a2 : Int64) (b0 : Int64) (b1 : Int64) (b2 : Int64) : Int32 := if a0 = b0 then if a1 = b1 then if a2 = b2 then 1 else 0 else 0 else 0
theorem d3_0 : decode prog_20_method_5_code 0 = .ok (.aload_n 1, 1) := by decide +kernel
theorem d3_1 : decode prog_20_method_5_code 1 = .ok (.instanceof 8, 3) := by decide +kernel
theorem d3_4 : decode prog_20_method_5_code 4 = .ok (.ifCond .eq 48, 3) := by decide +kernel
theorem d3_7 : decode prog_20_method_5_code 7 = .ok (.aload_n 1, 1) := by decide +kernel
theorem d3_8 : decode prog_20_method_5_code 8 = .ok (.checkcast 8, 3) := by decide +kernel
theorem d3_11 : decode prog_20_method_5_code 11 = .ok (.astore_n 2, 1) := by decide +kernel
theorem d3_12 : decode prog_20_method_5_code 12 = .ok (.aload_n 0, 1) := by decide +kernel
theorem d3_13 : decode prog_20_method_5_code 13 = .ok (.getfield 7, 3) := by decide +kernel
theorem d3_16 : decode prog_20_method_5_code 16 = .ok (.aload_n 2, 1) := by decide +kernel
theorem d3_17 : decode prog_20_method_5_code 17 = .ok (.getfield 7, 3) := by decide +kernel
theorem d3_20 : decode prog_20_method_5_code 20 = .ok (.lcmp, 1) := by decide +kernel
theorem d3_21 : decode prog_20_method_5_code 21 = .ok (.ifCond .ne 31, 3) := by decide +kernel
theorem d3_24 : decode prog_20_method_5_code 24 = .ok (.aload_n 0, 1) := by decide +kernel
theorem d3_25 : decode prog_20_method_5_code 25 = .ok (.getfield 13, 3) := by decide +kernel
theorem d3_28 : decode prog_20_method_5_code 28 = .ok (.aload_n 2, 1) := by decide +kernel
theorem d3_29 : decode prog_20_method_5_code 29 = .ok (.getfield 13, 3) := by decide +kernel
theorem d3_32 : decode prog_20_method_5_code 32 = .ok (.lcmp, 1) := by decide +kernel
theorem d3_33 : decode prog_20_method_5_code 33 = .ok (.ifCond .ne 19, 3) := by decide +kernel
theorem d3_36 : decode prog_20_method_5_code 36 = .ok (.aload_n 0, 1) := by decide +kernel
theorem d3_37 : decode prog_20_method_5_code 37 = .ok (.getfield 16, 3) := by decide +kernel
theorem d3_40 : decode prog_20_method_5_code 40 = .ok (.aload_n 2, 1) := by decide +kernel
theorem d3_41 : decode prog_20_method_5_code 41 = .ok (.getfield 16, 3) := by decide +kernel
theorem d3_44 : decode prog_20_method_5_code 44 = .ok (.lcmp, 1) := by decide +kernel
theorem d3_45 : decode prog_20_method_5_code 45 = .ok (.ifCond .ne 7, 3) := by decide +kernel
theorem d3_48 : decode prog_20_method_5_code 48 = .ok (.iconst 1, 1) := by decide +kernel
theorem d3_49 : decode prog_20_method_5_code 49 = .ok (.goto 4, 3) := by decide +kernel
theorem d3_52 : decode prog_20_method_5_code 52 = .ok (.iconst 0, 1) := by decide +kernel
theorem d3_53 : decode prog_20_method_5_code 53 = .ok (.ireturn, 1) := by decide +kernel
theorem pf_com_example_semel_semel_log_AbortedTransaction_equals__Ljava_lang_Object__Z : plainFor (⟨"com/example/semel/semel/log/AbortedTransaction", "equals", "(Ljava/lang/Object;)Z"⟩ : MethodName) = true := by first | exact plainFor_of_name (by first | (simp [plainName, overriddenIn]; done) | decide +kernel) | exact Jvm.Free.JP.mathPlain rfl (by decide +kernel) | decide +kernel
theorem ef_rmEn (m : MethodId) (q0 : Addr) : entryFrame m #[(.ref q0), .null] 3 = mkF m 0 #[rv q0, .val .null, .unset] [] := by first | (simp [entryFrame, mkF, argsToLocals, Value.category]; done) | rfl
set_option maxRecDepth 65536 in
set_option maxHeartbeats 40000000 in
theorem rmEn (l : Launch) (Z : State) (a0 : Array Value) (hw : ∀ d ∈ tables_1, d.before a0 Z = true) (ws : List Jvm.Cond) (x0 : Addr) (h0 : Heap) :
    OwnC l Z (⟨"com/example/semel/semel/log/AbortedTransaction", "equals", "(Ljava/lang/Object;)Z"⟩ : MethodName) prog_20_method_5_code 3 (some .boolean) ws ({ frames := 0, cells := 0, slots := 0, locals := 0 } : Room) #[(.ref x0), .null] h0 (OwnPure (.int 0) h0) := by
  refine own_entry pf_com_example_semel_semel_log_AbortedTransaction_equals__Ljava_lang_Object__Z (fun m => ef_rmEn m x0) ?_
  intro p e s m below meth c T0 X0 hC e0
  obtain ⟨hx, hby, hml, hown, hnm, hret, hlk, hZ⟩ := hC
  refine own_go T0 m 1 #[rv x0, .val .null, .unset] [.null] (fun t k => XS.aloadN X0.here hx rfl (hb hby d3_0) rfl rfl k) ?_
  refine own_go T0 m 4 #[rv x0, .val .null, .unset] [(.int 0)] (X0.instanceofNull hx (g := (mkF m 1 #[rv x0, .val .null, .unset] [.null])) rfl rfl (hb hby d3_1)) ?_
  refine own_go T0 m 52 #[rv x0, .val .null, .unset] [] (fun t k => XS.ifYes X0.here hx rfl (pc0 := 4) (pc' := 52) rfl (hb hby d3_4) rfl ((if0 _ _).trans (teq (by decide)).1) (by decide) (by decide) k) ?_
  refine own_go T0 m 53 #[rv x0, .val .null, .unset] [(.int 0)] (fun t k => XS.iconst X0.here hx rfl (hb hby d3_52) k) ?_
  refine own_retZ X0 hx hlk hret (by decide) (hb hby d3_53) (by decide) (by decide) ?_
  exact ⟨rfl, e0, rfl⟩
theorem ef_rmEb (m : MethodId) (q0 : Addr) (q1 : Addr) : entryFrame m #[(.ref q0), (.ref q1)] 3 = mkF m 0 #[rv q0, rv q1, .unset] [] := by first | (simp [entryFrame, mkF, argsToLocals, Value.category]; done) | rfl
set_option maxRecDepth 65536 in
set_option maxHeartbeats 40000000 in
theorem rmEb (l : Launch) (Z : State) (a0 : Array Value) (hw : ∀ d ∈ tables_1, d.before a0 Z = true) (ws : List Jvm.Cond) (x0 : Addr) (x1 : Addr) (a0 : Int64) (a1 : Int64) (a2 : Int64) (b0 : Int64) (b1 : Int64) (b2 : Int64) (h0 : Heap) (F_producerId_x0 : Fld Z h0 x0 "com/example/semel/semel/log/AbortedTransaction" "producerId" "J" (.long a0)) (F_firstOffset_x0 : Fld Z h0 x0 "com/example/semel/semel/log/AbortedTransaction" "firstOffset" "J" (.long a1)) (F_lastOffset_x0 : Fld Z h0 x0 "com/example/semel/semel/log/AbortedTransaction" "lastOffset" "J" (.long a2)) (F_producerId_x1 : Fld Z h0 x1 "com/example/semel/semel/log/AbortedTransaction" "producerId" "J" (.long b0)) (F_firstOffset_x1 : Fld Z h0 x1 "com/example/semel/semel/log/AbortedTransaction" "firstOffset" "J" (.long b1)) (F_lastOffset_x1 : Fld Z h0 x1 "com/example/semel/semel/log/AbortedTransaction" "lastOffset" "J" (.long b2)) (E_x1 : Exa Z h0 x1 "com/example/semel/semel/log/AbortedTransaction") :
    OwnC l Z (⟨"com/example/semel/semel/log/AbortedTransaction", "equals", "(Ljava/lang/Object;)Z"⟩ : MethodName) prog_20_method_5_code 3 (some .boolean) ws ({ frames := 0, cells := 0, slots := 0, locals := 0 } : Room) #[(.ref x0), (.ref x1)] h0 (OwnPure (.int (own_eq a0 a1 a2 b0 b1 b2)) h0) := by
  refine own_entry pf_com_example_semel_semel_log_AbortedTransaction_equals__Ljava_lang_Object__Z (fun m => ef_rmEb m x0 x1) ?_
  intro p e s m below meth c T0 X0 hC e0
  obtain ⟨hx, hby, hml, hown, hnm, hret, hlk, hZ⟩ := hC
  refine own_go T0 m 1 #[rv x0, rv x1, .unset] [(.ref x1)] (fun t k => XS.aloadN X0.here hx rfl (hb hby d3_0) rfl rfl k) ?_
  obtain ⟨T1, X1, e1, st1⟩ := instY X0 hx hZ hown (own_w hw 20 rfl) e0 (Ins.self E_x1) (g := (mkF m 1 #[rv x0, rv x1, .unset] [(.ref x1)])) rfl rfl (hb hby d3_1)
  refine own_go T1 m 4 #[rv x0, rv x1, .unset] [(.int 1)] (st1) ?_
  refine own_go T1 m 7 #[rv x0, rv x1, .unset] [] (fun t k => XS.ifNo X1.here hx rfl (hb hby d3_4) rfl ((if0 _ _).trans (feq (by decide)).1) k) ?_
  refine own_go T1 m 8 #[rv x0, rv x1, .unset] [(.ref x1)] (fun t k => XS.aloadN X1.here hx rfl (hb hby d3_7) rfl rfl k) ?_
  obtain ⟨T2, X2, e2, st2⟩ := castY X1 hx hZ hown (own_w hw 20 rfl) e1 (Ins.self E_x1) (g := (mkF m 8 #[rv x0, rv x1, .unset] [(.ref x1)])) rfl rfl (hb hby d3_8)
  refine own_go T2 m 11 #[rv x0, rv x1, .unset] [(.ref x1)] (st2) ?_
  refine own_go T2 m 12 #[rv x0, rv x1, rv x1] [] (fun t k => XS.astoreN X2.here hx rfl (hb hby d3_11) rfl rfl rfl k) ?_
  refine own_go T2 m 13 #[rv x0, rv x1, rv x1] [(.ref x0)] (fun t k => XS.aloadN X2.here hx rfl (hb hby d3_12) rfl rfl k) ?_
  obtain ⟨T3, X3, e3, st3⟩ := getF X2 hx hZ hown (host := "") (Or.inl (own_w hw 9 rfl)) Via.refl e2 F_producerId_x0 (g := (mkF m 13 #[rv x0, rv x1, rv x1] [(.ref x0)])) rfl rfl (hb hby d3_13)
  refine own_go T3 m 16 #[rv x0, rv x1, rv x1] [(.long a0)] (st3) ?_
  refine own_go T3 m 17 #[rv x0, rv x1, rv x1] [(.ref x1), (.long a0)] (fun t k => XS.aloadN X3.here hx rfl (hb hby d3_16) rfl rfl k) ?_
  obtain ⟨T4, X4, e4, st4⟩ := getF X3 hx hZ hown (host := "") (Or.inl (own_w hw 9 rfl)) Via.refl e3 F_producerId_x1 (g := (mkF m 17 #[rv x0, rv x1, rv x1] [(.ref x1), (.long a0)])) rfl rfl (hb hby d3_17)
  refine own_go T4 m 20 #[rv x0, rv x1, rv x1] [(.long b0), (.long a0)] (st4) ?_
  refine own_go T4 m 21 #[rv x0, rv x1, rv x1] [(.int (lcmpW a0 b0))] (fun t k => XS.lcmp X4.here hx rfl (hb hby d3_20) rfl k) ?_
  by_cases hc21_5 : a0 = b0
  · refine own_go T4 m 24 #[rv x0, rv x1, rv x1] [] (fun t k => XS.ifNo X4.here hx rfl (hb hby d3_21) rfl ((if0 _ _).trans (teq ((lw_eq a0 b0).mpr hc21_5)).2) k) ?_
    refine own_go T4 m 25 #[rv x0, rv x1, rv x1] [(.ref x0)] (fun t k => XS.aloadN X4.here hx rfl (hb hby d3_24) rfl rfl k) ?_
    obtain ⟨T6, X6, e6, st6⟩ := getF X4 hx hZ hown (host := "") (Or.inl (own_w hw 11 rfl)) Via.refl e4 F_firstOffset_x0 (g := (mkF m 25 #[rv x0, rv x1, rv x1] [(.ref x0)])) rfl rfl (hb hby d3_25)
    refine own_go T6 m 28 #[rv x0, rv x1, rv x1] [(.long a1)] (st6) ?_
    refine own_go T6 m 29 #[rv x0, rv x1, rv x1] [(.ref x1), (.long a1)] (fun t k => XS.aloadN X6.here hx rfl (hb hby d3_28) rfl rfl k) ?_
    obtain ⟨T7, X7, e7, st7⟩ := getF X6 hx hZ hown (host := "") (Or.inl (own_w hw 11 rfl)) Via.refl e6 F_firstOffset_x1 (g := (mkF m 29 #[rv x0, rv x1, rv x1] [(.ref x1), (.long a1)])) rfl rfl (hb hby d3_29)
    refine own_go T7 m 32 #[rv x0, rv x1, rv x1] [(.long b1), (.long a1)] (st7) ?_
    refine own_go T7 m 33 #[rv x0, rv x1, rv x1] [(.int (lcmpW a1 b1))] (fun t k => XS.lcmp X7.here hx rfl (hb hby d3_32) rfl k) ?_
    by_cases hc33_8 : a1 = b1
    · refine own_go T7 m 36 #[rv x0, rv x1, rv x1] [] (fun t k => XS.ifNo X7.here hx rfl (hb hby d3_33) rfl ((if0 _ _).trans (teq ((lw_eq a1 b1).mpr hc33_8)).2) k) ?_
      refine own_go T7 m 37 #[rv x0, rv x1, rv x1] [(.ref x0)] (fun t k => XS.aloadN X7.here hx rfl (hb hby d3_36) rfl rfl k) ?_
      obtain ⟨T9, X9, e9, st9⟩ := getF X7 hx hZ hown (host := "") (Or.inl (own_w hw 13 rfl)) Via.refl e7 F_lastOffset_x0 (g := (mkF m 37 #[rv x0, rv x1, rv x1] [(.ref x0)])) rfl rfl (hb hby d3_37)
      refine own_go T9 m 40 #[rv x0, rv x1, rv x1] [(.long a2)] (st9) ?_
      refine own_go T9 m 41 #[rv x0, rv x1, rv x1] [(.ref x1), (.long a2)] (fun t k => XS.aloadN X9.here hx rfl (hb hby d3_40) rfl rfl k) ?_
      obtain ⟨T10, X10, e10, st10⟩ := getF X9 hx hZ hown (host := "") (Or.inl (own_w hw 13 rfl)) Via.refl e9 F_lastOffset_x1 (g := (mkF m 41 #[rv x0, rv x1, rv x1] [(.ref x1), (.long a2)])) rfl rfl (hb hby d3_41)
      refine own_go T10 m 44 #[rv x0, rv x1, rv x1] [(.long b2), (.long a2)] (st10) ?_
      refine own_go T10 m 45 #[rv x0, rv x1, rv x1] [(.int (lcmpW a2 b2))] (fun t k => XS.lcmp X10.here hx rfl (hb hby d3_44) rfl k) ?_
      by_cases hc45_11 : a2 = b2
      · refine own_go T10 m 48 #[rv x0, rv x1, rv x1] [] (fun t k => XS.ifNo X10.here hx rfl (hb hby d3_45) rfl ((if0 _ _).trans (teq ((lw_eq a2 b2).mpr hc45_11)).2) k) ?_
        refine own_go T10 m 49 #[rv x0, rv x1, rv x1] [(.int 1)] (fun t k => XS.iconst X10.here hx rfl (hb hby d3_48) k) ?_
        refine own_go T10 m 53 #[rv x0, rv x1, rv x1] [(.int 1)] (fun t k => XS.goto X10.here hx rfl (pc0 := 49) (pc' := 53) rfl (hb hby d3_49) (by decide) (by decide) k) ?_
        refine own_retZ X10 hx hlk hret (by decide) (hb hby d3_53) (by decide) (by decide) ?_
        refine ⟨?_, e10, rfl⟩
        simp [own_eq, hc21_5, hc33_8, hc45_11]
      · refine own_go T10 m 52 #[rv x0, rv x1, rv x1] [] (fun t k => XS.ifYes X10.here hx rfl (pc0 := 45) (pc' := 52) rfl (hb hby d3_45) rfl ((if0 _ _).trans (feq (mt (lw_eq a2 b2).mp hc45_11)).2) (by decide) (by decide) k) ?_
        refine own_go T10 m 53 #[rv x0, rv x1, rv x1] [(.int 0)] (fun t k => XS.iconst X10.here hx rfl (hb hby d3_52) k) ?_
        refine own_retZ X10 hx hlk hret (by decide) (hb hby d3_53) (by decide) (by decide) ?_
        refine ⟨?_, e10, rfl⟩
        simp [own_eq, hc21_5, hc33_8, hc45_11]
    · refine own_go T7 m 52 #[rv x0, rv x1, rv x1] [] (fun t k => XS.ifYes X7.here hx rfl (pc0 := 33) (pc' := 52) rfl (hb hby d3_33) rfl ((if0 _ _).trans (feq (mt (lw_eq a1 b1).mp hc33_8)).2) (by decide) (by decide) k) ?_
      refine own_go T7 m 53 #[rv x0, rv x1, rv x1] [(.int 0)] (fun t k => XS.iconst X7.here hx rfl (hb hby d3_52) k) ?_
      refine own_retZ X7 hx hlk hret (by decide) (hb hby d3_53) (by decide) (by decide) ?_
      refine ⟨?_, e7, rfl⟩
      simp [own_eq, hc21_5, hc33_8]
  · refine own_go T4 m 52 #[rv x0, rv x1, rv x1] [] (fun t k => XS.ifYes X4.here hx rfl (pc0 := 21) (pc' := 52) rfl (hb hby d3_21) rfl ((if0 _ _).trans (feq (mt (lw_eq a0 b0).mp hc21_5)).2) (by decide) (by decide) k) ?_
    refine own_go T4 m 53 #[rv x0, rv x1, rv x1] [(.int 0)] (fun t k => XS.iconst X4.here hx rfl (hb hby d3_52) k) ?_
    refine own_retZ X4 hx hlk hret (by decide) (hb hby d3_53) (by decide) (by decide) ?_
    refine ⟨?_, e4, rfl⟩
    simp [own_eq, hc21_5]
def OwnCache (Z : State) (h : Heap) (aC : Addr) (cell : Cell) : Prop :=
  Sta Z h "java/lang/Long$LongCache" "cache" "[Ljava/lang/Long;" (.ref aC) ∧ Arr Z h aC cell (.object "java/lang/Long") ∧ ∀ w : Int64, ¬ w < -128 → ¬ (127 : Int64) < w → ¬ ((w.toInt32 + 128) < 0 ∨ cell.slots.size ≤ (w.toInt32 + 128).toNatClampNeg) ∧ ∃ r, cell.slots[(w.toInt32 + 128).toNatClampNeg]? = some (.ref r) ∧ Exa Z h r "java/lang/Long"
theorem own_cache_keep {Z : State} {h h' : Heap} {aC : Addr} {cell : Cell} (HC : OwnCache Z h aC cell) (K : Keep h h' []) : OwnCache Z h' aC cell := by
  refine ⟨own_sta_keep HC.1 K, ⟨K.2.1 _ _ HC.2.1.1 nin0, HC.2.1.2⟩, fun w h1 h2 => ?_⟩
  obtain ⟨a, r, b, c⟩ := HC.2.2 w h1 h2
  exact ⟨a, r, b, c.keep K⟩
theorem own_cache {s : State} {args : Array Value} {D : Jvm.Cond} (hA : (Jvm.Cond.arrayOf (Term.static "java/lang/Long$LongCache" "cache" "[Ljava/lang/Long;") (.object "java/lang/Long")).before args s = true) (hi : (Jvm.Cond.initializedFor "java/lang/Long$LongCache" "cache" "[Ljava/lang/Long;").before args s = true)
    (hl : (Jvm.Cond.eq (.length (Term.static "java/lang/Long$LongCache" "cache" "[Ljava/lang/Long;")) (.int 256)).before args s = true) (hall : (Jvm.Cond.all (Term.static "java/lang/Long$LongCache" "cache" "[Ljava/lang/Long;") (.and (.exactly (.elem (Term.static "java/lang/Long$LongCache" "cache" "[Ljava/lang/Long;") (.index 0)) "java/lang/Long") D)).before args s = true) : ∃ aC cell, OwnCache s s.heap aC cell := by
  obtain ⟨aC, ev⟩ := arr_v (Cond.before_iff.mp hA)
  obtain ⟨cell, A⟩ := Arr.start ev (Cond.before_iff.mp hA)
  have S := Sta.start ev (Or.inl hi)
  obtain ⟨hsz, h256⟩ := Jvm.Free.IntBox.length_fwd hl ev A.1 A.2.1 A.2.2
  have hsize : cell.slots.size = 256 := by
    have q := len_toInt hsz
    rw [h256] at q
    have : ((256 : Int32)).toInt = 256 := by decide
    omega
  have hat := Arr.fin (Vm.Alike.refl _) A
  have H := Cond.all_elim ev hat (Cond.before_iff.mp hall)
  refine ⟨aC, cell, S, A, fun w h1 h2 => ?_⟩
  obtain ⟨hb, hlt⟩ := Jvm.Free.LongBox.place_okL w h1 h2
  rw [hsize]
  refine ⟨hb, ?_⟩
  have hi := H _ (by rw [hsize]; exact hlt)
  obtain ⟨hx, -⟩ := and_e hi
  obtain ⟨r, hr⟩ := exa_v hx
  have hj : ¬ (w.toInt32 + 128) < 0 := fun q => hb (Or.inl q)
  have evi : (Term.static "java/lang/Long$LongCache" "cache" "[Ljava/lang/Long;").eval args s none [(w.toInt32 + 128).toNatClampNeg] s = some (.ref aC) := by simpa [Term.eval] using ev
  have q := elem_f evi (idx_at hj) hat hj
  exact ⟨r, q.symm.trans hr, exa_at hr hx⟩
theorem d6_0 : decode jdk_18_method_1_code 0 = .ok (.aload_n 0, 1) := by decide +kernel
theorem d6_1 : decode jdk_18_method_1_code 1 = .ok (.invokespecial 1, 3) := by decide +kernel
theorem d6_4 : decode jdk_18_method_1_code 4 = .ok (.return_, 1) := by decide +kernel
theorem pf_java_lang_Number__init____V : plainFor (⟨"java/lang/Number", "<init>", "()V"⟩ : MethodName) = true := by first | exact plainFor_of_name (by first | (simp [plainName, overriddenIn]; done) | decide +kernel) | exact Jvm.Free.JP.mathPlain rfl (by decide +kernel) | decide +kernel
theorem ef_rm6 (m : MethodId) (q0 : Addr) : entryFrame m #[(.ref q0)] 1 = mkF m 0 #[rv q0] [] := by first | (simp [entryFrame, mkF, argsToLocals, Value.category]; done) | rfl
set_option maxRecDepth 65536 in
set_option maxHeartbeats 40000000 in
theorem rm6 (l : Launch) (Z : State) (a0 : Array Value) (hw : ∀ d ∈ tables_1, d.before a0 Z = true) (ws : List Jvm.Cond) (x0 : Addr) (h0 : Heap) :
    OwnC l Z (⟨"java/lang/Number", "<init>", "()V"⟩ : MethodName) jdk_18_method_1_code 1 none ws ({ frames := 1, cells := 0, slots := 0, locals := 12 } : Room) #[(.ref x0)] h0 (fun v h L => v = none ∧ h = h0 ∧ L = []) := by
  refine own_entry pf_java_lang_Number__init____V (fun m => ef_rm6 m x0) ?_
  intro p e s m below meth c T0 X0 hC e0
  obtain ⟨hx, hby, hml, hown, hnm, hret, hlk, hZ⟩ := hC
  refine own_go T0 m 1 #[rv x0] [(.ref x0)] (fun t k => XS.aloadN X0.here hx rfl (hb hby d6_0) rfl rfl k) ?_
  obtain ⟨T1, X1, e1, st1⟩ := initO X0 hx hZ hown (own_w hw 40 rfl) (own_w hw 7 rfl) (own_w hw 8 rfl) e0 (g := (mkF m 1 #[rv x0] [(.ref x0)])) rfl (by rw [hml]; rfl) rfl (hb hby d6_1) (by decide) (W := 0) (by show 2 * 0 + _ ≤ _; exact Nat.le_of_eq rfl) (by decide)
  refine own_go T1 m 4 #[rv x0] [] (st1) ?_
  refine own_retV X1 hx hlk hret (hb hby d6_4) (by decide) (by decide) ?_
  exact ⟨rfl, e1, rfl⟩
theorem d5_0 : decode jdk_35_method_26_code 0 = .ok (.aload_n 0, 1) := by decide +kernel
theorem d5_1 : decode jdk_35_method_26_code 1 = .ok (.invokespecial 270, 3) := by decide +kernel
theorem d5_4 : decode jdk_35_method_26_code 4 = .ok (.aload_n 0, 1) := by decide +kernel
theorem d5_5 : decode jdk_35_method_26_code 5 = .ok (.lload_n 1, 1) := by decide +kernel
theorem d5_6 : decode jdk_35_method_26_code 6 = .ok (.putfield 273, 3) := by decide +kernel
theorem d5_9 : decode jdk_35_method_26_code 9 = .ok (.return_, 1) := by decide +kernel
theorem pf_java_lang_Long__init___J_V : plainFor (⟨"java/lang/Long", "<init>", "(J)V"⟩ : MethodName) = true := by first | exact plainFor_of_name (by first | (simp [plainName, overriddenIn]; done) | decide +kernel) | exact Jvm.Free.JP.mathPlain rfl (by decide +kernel) | decide +kernel
theorem ef_rm5 (m : MethodId) (q0 : Addr) (q1 : Int64) : entryFrame m #[(.ref q0), (.long q1)] 3 = mkF m 0 #[rv q0, .val (.long q1), .second] [] := by first | (simp [entryFrame, mkF, argsToLocals, Value.category]; done) | rfl
set_option maxRecDepth 65536 in
set_option maxHeartbeats 40000000 in
theorem rm5 (l : Launch) (Z : State) (a0 : Array Value) (hw : ∀ d ∈ tables_1, d.before a0 Z = true) (ws : List Jvm.Cond) (x0 : Addr) (x1 : Int64) (h0 : Heap) (n0 : Nat) (Z0 : n0 ≤ h0.size) (E_x0 : Exa Z h0 x0 "java/lang/Long") (g_x0 : n0 ≤ x0) (F_value : Fld Z h0 x0 "java/lang/Long" "value" "J" (.long 0)) :
    OwnC l Z (⟨"java/lang/Long", "<init>", "(J)V"⟩ : MethodName) jdk_35_method_26_code 3 none ws ({ frames := 2, cells := 0, slots := 0, locals := 24 } : Room) #[(.ref x0), (.long x1)] h0 (fun v h L => v = none ∧ Fr n0 L ∧ Keep h0 h [x0] ∧ Exa Z h x0 "java/lang/Long" ∧ Fld Z h x0 "java/lang/Long" "value" "J" (.long x1)) := by
  refine own_entry pf_java_lang_Long__init___J_V (fun m => ef_rm5 m x0 x1) ?_
  intro p e s m below meth c T0 X0 hC e0
  obtain ⟨hx, hby, hml, hown, hnm, hret, hlk, hZ⟩ := hC
  have N0 := Fr.nil n0
  have K0 := Keep.refl h0 [x0]
  refine own_go T0 m 1 #[rv x0, .val (.long x1), .second] [(.ref x0)] (fun t k => XS.aloadN X0.here hx rfl (hb hby d5_0) rfl rfl k) ?_
  obtain ⟨_, T1, L1, X1, ⟨rfl, e1, rfl⟩, st1⟩ := own_init X0 hx hZ (y := (⟨"java/lang/Number", "<init>", "()V"⟩ : MethodName)) rfl hown (own_w hw 34 rfl) (own_w hw 35 rfl) (own_w hw 38 rfl) (own_w hw 39 rfl) (by decide) (rm6 l Z a0 hw [] x0 h0) e0 (a := x0) 0 (argsL := []) (rest := []) (Ls := #[rv x0, .val (.long x1), .second]) (by rw [hml]; rfl) (lenOf pd___V rfl) rfl rfl (Nat.le_of_eq rfl) (hb hby d5_1) (by decide) (by decide) (by decide) (by decide)
  replace X1 := own_nil X1
  refine own_go T1 m 4 #[rv x0, .val (.long x1), .second] [] (st1) ?_
  refine own_go T1 m 5 #[rv x0, .val (.long x1), .second] [(.ref x0)] (fun t k => XS.aloadN X1.here hx rfl (hb hby d5_4) rfl rfl k) ?_
  refine own_go T1 m 6 #[rv x0, .val (.long x1), .second] [(.long x1), (.ref x0)] (fun t k => XS.lloadN X1.here hx rfl (hb hby d5_5) rfl k) ?_
  obtain ⟨T2, h2, X2, e2, W2, st2⟩ := putF X1 hx hZ hown (host := "") (Or.inl (own_w hw 41 rfl)) Via.refl e1 F_value E_x0 (Or.inr ⟨(own_w hw 42 rfl), rfl, hnm⟩) (own_w hw 29 rfl) (ty := .long) (by decide) rfl rfl (g := (mkF m 6 #[rv x0, .val (.long x1), .second] [(.long x1), (.ref x0)])) rfl rfl (hb hby d5_6)
  have F2 := F_value.same W2
  have cf3 := E_x0.wr W2
  have Z_2 : n0 ≤ h2.size := Nat.le_trans Z0 (Keep.of_wr W2).1
  have K_2 : Keep h0 h2 [x0] := K0.wr W2 (own_i 0 rfl)
  have N2 := Fr.snoc X2 N0 g_x0
  refine own_go T2 m 9 #[rv x0, .val (.long x1), .second] [] (st2) ?_
  refine own_retV X2 hx hlk hret (hb hby d5_9) (by decide) (by decide) ?_
  rw [e2]
  exact ⟨rfl, N2, K_2, cf3, F2⟩
theorem d4_0 : decode jdk_35_method_24_code 0 = .ok (.sipush 128, 3) := by decide +kernel
theorem d4_3 : decode jdk_35_method_24_code 3 = .ok (.istore_n 2, 1) := by decide +kernel
theorem d4_4 : decode jdk_35_method_24_code 4 = .ok (.lload_n 0, 1) := by decide +kernel
theorem d4_5 : decode jdk_35_method_24_code 5 = .ok (.ldc2_w 230, 3) := by decide +kernel
theorem d4_8 : decode jdk_35_method_24_code 8 = .ok (.lcmp, 1) := by decide +kernel
theorem d4_9 : decode jdk_35_method_24_code 9 = .ok (.ifCond .lt 22, 3) := by decide +kernel
theorem d4_12 : decode jdk_35_method_24_code 12 = .ok (.lload_n 0, 1) := by decide +kernel
theorem d4_13 : decode jdk_35_method_24_code 13 = .ok (.ldc2_w 232, 3) := by decide +kernel
theorem d4_16 : decode jdk_35_method_24_code 16 = .ok (.lcmp, 1) := by decide +kernel
theorem d4_17 : decode jdk_35_method_24_code 17 = .ok (.ifCond .gt 14, 3) := by decide +kernel
theorem d4_20 : decode jdk_35_method_24_code 20 = .ok (.getstatic 234, 3) := by decide +kernel
theorem d4_23 : decode jdk_35_method_24_code 23 = .ok (.lload_n 0, 1) := by decide +kernel
theorem d4_24 : decode jdk_35_method_24_code 24 = .ok (.l2i, 1) := by decide +kernel
theorem d4_25 : decode jdk_35_method_24_code 25 = .ok (.sipush 128, 3) := by decide +kernel
theorem d4_28 : decode jdk_35_method_24_code 28 = .ok (.iadd, 1) := by decide +kernel
theorem d4_29 : decode jdk_35_method_24_code 29 = .ok (.aaload, 1) := by decide +kernel
theorem d4_30 : decode jdk_35_method_24_code 30 = .ok (.areturn, 1) := by decide +kernel
theorem d4_31 : decode jdk_35_method_24_code 31 = .ok (.new 1, 3) := by decide +kernel
theorem d4_34 : decode jdk_35_method_24_code 34 = .ok (.dup, 1) := by decide +kernel
theorem d4_35 : decode jdk_35_method_24_code 35 = .ok (.lload_n 0, 1) := by decide +kernel
theorem d4_36 : decode jdk_35_method_24_code 36 = .ok (.invokespecial 240, 3) := by decide +kernel
theorem d4_39 : decode jdk_35_method_24_code 39 = .ok (.areturn, 1) := by decide +kernel
theorem pf_java_lang_Long_valueOf__J_Ljava_lang_Long_ : plainFor (⟨"java/lang/Long", "valueOf", "(J)Ljava/lang/Long;"⟩ : MethodName) = true := by first | exact plainFor_of_name (by first | (simp [plainName, overriddenIn]; done) | decide +kernel) | exact Jvm.Free.JP.mathPlain rfl (by decide +kernel) | decide +kernel
theorem ef_rm4 (m : MethodId) (q0 : Int64) : entryFrame m #[(.long q0)] 3 = mkF m 0 #[.val (.long q0), .second, .unset] [] := by first | (simp [entryFrame, mkF, argsToLocals, Value.category]; done) | rfl
set_option maxRecDepth 65536 in
set_option maxHeartbeats 40000000 in
theorem rm4 (l : Launch) (Z : State) (a0 : Array Value) (hw : ∀ d ∈ tables_1, d.before a0 Z = true) (ws : List Jvm.Cond) (x0 : Int64) (aC : Addr) (cell : Cell) (h0 : Heap) (n0 : Nat) (Z0 : n0 ≤ h0.size) (HC : OwnCache Z h0 aC cell) :
    OwnC l Z (⟨"java/lang/Long", "valueOf", "(J)Ljava/lang/Long;"⟩ : MethodName) jdk_35_method_24_code 3 (some (.object "java/lang/Long")) ws ({ frames := 3, cells := 1, slots := 1, locals := 39 } : Room) #[(.long x0)] h0 (fun v h L => ∃ r, v = some (.ref r) ∧ Exa Z h r "java/lang/Long" ∧ Keep h0 h [] ∧ Fr n0 L) := by
  refine own_entry pf_java_lang_Long_valueOf__J_Ljava_lang_Long_ (fun m => ef_rm4 m x0) ?_
  intro p e s m below meth c T0 X0 hC e0
  obtain ⟨hx, hby, hml, hown, hnm, hret, hlk, hZ⟩ := hC
  have N0 := Fr.nil n0
  have K0 := Keep.refl h0 []
  refine own_go T0 m 3 #[.val (.long x0), .second, .unset] [(.int 128)] (fun t k => XS.sipush X0.here hx rfl (hb hby d4_0) k) ?_
  refine own_go T0 m 4 #[.val (.long x0), .second, iv 128] [] (fun t k => XS.istoreN X0.here hx rfl (hb hby d4_3) rfl rfl k) ?_
  refine own_go T0 m 5 #[.val (.long x0), .second, iv 128] [(.long x0)] (fun t k => XS.lloadN X0.here hx rfl (hb hby d4_4) rfl k) ?_
  refine own_go T0 m 8 #[.val (.long x0), .second, iv 128] [(.long (-128)), (.long x0)] (X0.ldc2Long hx hown (mvT hZ (own_w hw 26 rfl)) (g := (mkF m 5 #[.val (.long x0), .second, iv 128] [(.long x0)])) rfl (hb hby d4_5)) ?_
  refine own_go T0 m 9 #[.val (.long x0), .second, iv 128] [(.int (lcmpW x0 (-128 : Int64)))] (fun t k => XS.lcmp X0.here hx rfl (hb hby d4_8) rfl k) ?_
  by_cases hc9_1 : x0 < (-128 : Int64)
  · refine own_go T0 m 31 #[.val (.long x0), .second, iv 128] [] (fun t k => XS.ifYes X0.here hx rfl (pc0 := 9) (pc' := 31) rfl (hb hby d4_9) rfl ((if0 _ _).trans (tlt ((lw_lt x0 (-128 : Int64)).mpr hc9_1)).1) (by decide) (by decide) k) ?_
    obtain ⟨T2, h2, X2, e2, E2, A2, D2, -, st2⟩ := newO X0 hx hZ hown (own_w hw 28 rfl) (own_w hw 29 rfl) (own_w hw 24 rfl) e0 (g := (mkF m 31 #[.val (.long x0), .second, iv 128] [])) rfl (hb hby d4_31) (by decide) (by decide)
    obtain ⟨b2, g2⟩ : ∃ z, z = h0.size := ⟨_, rfl⟩
    rw [← g2] at A2 D2 st2
    have g_b2 : n0 ≤ b2 := Nat.le_trans Z0 (Nat.le_of_eq g2.symm)
    have sz_b2 : h0.size ≤ b2 := Nat.le_trans K0.1 (Nat.le_of_eq g2.symm)
    have cf3 := HC.1.ext E2
    have Z_2 : n0 ≤ h2.size := Nat.le_trans Z0 E2.1
    have K_2 : Keep h0 h2 [] := K0.ext E2
    have F_value_2 : Fld Z h2 b2 "java/lang/Long" "value" "J" (.long 0) := D2 (Or.inr (own_w hw 42 rfl)) (ty := .long) (by decide)
    refine own_go T2 m 34 #[.val (.long x0), .second, iv 128] [(.ref b2)] (st2) ?_
    refine own_go T2 m 35 #[.val (.long x0), .second, iv 128] [(.ref b2), (.ref b2)] (fun t k => XS.dup X2.here hx rfl (hb hby d4_34) rfl rfl k) ?_
    refine own_go T2 m 36 #[.val (.long x0), .second, iv 128] [(.long x0), (.ref b2), (.ref b2)] (fun t k => XS.lloadN X2.here hx rfl (hb hby d4_35) rfl k) ?_
    obtain ⟨_, T4, L4, X4, ⟨rfl, Nq4, Kq4, Aq4, Fq4_0⟩, st4⟩ := own_init X2 hx hZ (y := (⟨"java/lang/Long", "<init>", "(J)V"⟩ : MethodName)) rfl hown (own_w hw 30 rfl) (own_w hw 31 rfl) (own_w hw 24 rfl) (own_w hw 33 rfl) (by decide) (rm5 l Z a0 hw [] b2 x0 h2 n0 Z_2 A2 g_b2 F_value_2 ) e2 (a := b2) 1 (argsL := [(.long x0)]) (rest := [(.ref b2)]) (Ls := #[.val (.long x0), .second, iv 128]) (by rw [hml]; rfl) (lenOf pd__J_V rfl) rfl rfl (Nat.le_of_eq rfl) (hb hby d4_36) (by decide) (by decide) (by decide) (by decide)
    have N4 := Fr.app N0 Nq4
    have cf5 := own_sta_keep1 cf3 Kq4 A2
    have cf6 := A2.keep Kq4
    have Z_4 : n0 ≤ T4.heap.size := Nat.le_trans Z_2 Kq4.1
    have K_4 : Keep h0 T4.heap [] := K_2.trans Kq4 (allS (Or.inr sz_b2) all0)
    refine own_go T4 m 39 #[.val (.long x0), .second, iv 128] [(.ref b2)] (st4) ?_
    refine own_retA X4 hx hlk hret rfl rfl rfl (hb hby d4_39) (by decide) (by decide) ?_
    exact ⟨b2, rfl, Aq4, K_4, N4⟩
  · refine own_go T0 m 12 #[.val (.long x0), .second, iv 128] [] (fun t k => XS.ifNo X0.here hx rfl (hb hby d4_9) rfl ((if0 _ _).trans (flt (mt (lw_lt x0 (-128 : Int64)).mp hc9_1)).1) k) ?_
    refine own_go T0 m 13 #[.val (.long x0), .second, iv 128] [(.long x0)] (fun t k => XS.lloadN X0.here hx rfl (hb hby d4_12) rfl k) ?_
    refine own_go T0 m 16 #[.val (.long x0), .second, iv 128] [(.long 127), (.long x0)] (X0.ldc2Long hx hown (mvT hZ (own_w hw 27 rfl)) (g := (mkF m 13 #[.val (.long x0), .second, iv 128] [(.long x0)])) rfl (hb hby d4_13)) ?_
    refine own_go T0 m 17 #[.val (.long x0), .second, iv 128] [(.int (lcmpW x0 (127 : Int64)))] (fun t k => XS.lcmp X0.here hx rfl (hb hby d4_16) rfl k) ?_
    by_cases hc17_7 : (127 : Int64) < x0
    · refine own_go T0 m 31 #[.val (.long x0), .second, iv 128] [] (fun t k => XS.ifYes X0.here hx rfl (pc0 := 17) (pc' := 31) rfl (hb hby d4_17) rfl ((if0 _ _).trans (tlt ((lw_gt x0 (127 : Int64)).mpr hc17_7)).2.2.1) (by decide) (by decide) k) ?_
      obtain ⟨T8, h8, X8, e8, E8, A8, D8, -, st8⟩ := newO X0 hx hZ hown (own_w hw 28 rfl) (own_w hw 29 rfl) (own_w hw 24 rfl) e0 (g := (mkF m 31 #[.val (.long x0), .second, iv 128] [])) rfl (hb hby d4_31) (by decide) (by decide)
      obtain ⟨b8, g8⟩ : ∃ z, z = h0.size := ⟨_, rfl⟩
      rw [← g8] at A8 D8 st8
      have g_b8 : n0 ≤ b8 := Nat.le_trans Z0 (Nat.le_of_eq g8.symm)
      have sz_b8 : h0.size ≤ b8 := Nat.le_trans K0.1 (Nat.le_of_eq g8.symm)
      have cf9 := HC.1.ext E8
      have Z_8 : n0 ≤ h8.size := Nat.le_trans Z0 E8.1
      have K_8 : Keep h0 h8 [] := K0.ext E8
      have F_value_8 : Fld Z h8 b8 "java/lang/Long" "value" "J" (.long 0) := D8 (Or.inr (own_w hw 42 rfl)) (ty := .long) (by decide)
      refine own_go T8 m 34 #[.val (.long x0), .second, iv 128] [(.ref b8)] (st8) ?_
      refine own_go T8 m 35 #[.val (.long x0), .second, iv 128] [(.ref b8), (.ref b8)] (fun t k => XS.dup X8.here hx rfl (hb hby d4_34) rfl rfl k) ?_
      refine own_go T8 m 36 #[.val (.long x0), .second, iv 128] [(.long x0), (.ref b8), (.ref b8)] (fun t k => XS.lloadN X8.here hx rfl (hb hby d4_35) rfl k) ?_
      obtain ⟨_, T10, L10, X10, ⟨rfl, Nq10, Kq10, Aq10, Fq10_0⟩, st10⟩ := own_init X8 hx hZ (y := (⟨"java/lang/Long", "<init>", "(J)V"⟩ : MethodName)) rfl hown (own_w hw 30 rfl) (own_w hw 31 rfl) (own_w hw 24 rfl) (own_w hw 33 rfl) (by decide) (rm5 l Z a0 hw [] b8 x0 h8 n0 Z_8 A8 g_b8 F_value_8 ) e8 (a := b8) 1 (argsL := [(.long x0)]) (rest := [(.ref b8)]) (Ls := #[.val (.long x0), .second, iv 128]) (by rw [hml]; rfl) (lenOf pd__J_V rfl) rfl rfl (Nat.le_of_eq rfl) (hb hby d4_36) (by decide) (by decide) (by decide) (by decide)
      have N10 := Fr.app N0 Nq10
      have cf11 := own_sta_keep1 cf9 Kq10 A8
      have cf12 := A8.keep Kq10
      have Z_10 : n0 ≤ T10.heap.size := Nat.le_trans Z_8 Kq10.1
      have K_10 : Keep h0 T10.heap [] := K_8.trans Kq10 (allS (Or.inr sz_b8) all0)
      refine own_go T10 m 39 #[.val (.long x0), .second, iv 128] [(.ref b8)] (st10) ?_
      refine own_retA X10 hx hlk hret rfl rfl rfl (hb hby d4_39) (by decide) (by decide) ?_
      exact ⟨b8, rfl, Aq10, K_10, N10⟩
    · refine own_go T0 m 20 #[.val (.long x0), .second, iv 128] [] (fun t k => XS.ifNo X0.here hx rfl (hb hby d4_17) rfl ((if0 _ _).trans (flt (mt (lw_gt x0 (127 : Int64)).mp hc17_7)).2.2.1) k) ?_
      obtain ⟨T13, X13, e13, st13⟩ := getS2 X0 hx hZ hown (host := "") (Or.inl (own_w hw 46 rfl)) Via.refl e0 HC.1 (g := (mkF m 20 #[.val (.long x0), .second, iv 128] [])) rfl (hb hby d4_20)
      refine own_go T13 m 23 #[.val (.long x0), .second, iv 128] [(.ref aC)] (st13) ?_
      refine own_go T13 m 24 #[.val (.long x0), .second, iv 128] [(.long x0), (.ref aC)] (fun t k => XS.lloadN X13.here hx rfl (hb hby d4_23) rfl k) ?_
      refine own_go T13 m 25 #[.val (.long x0), .second, iv 128] [(.int x0.toInt32), (.ref aC)] (fun t k => XS.l2i X13.here hx rfl (hb hby d4_24) rfl k) ?_
      refine own_go T13 m 28 #[.val (.long x0), .second, iv 128] [(.int 128), (.int x0.toInt32), (.ref aC)] (fun t k => XS.sipush X13.here hx rfl (hb hby d4_25) k) ?_
      refine own_go T13 m 29 #[.val (.long x0), .second, iv 128] [(.int (x0.toInt32 + (128 : Int32))), (.ref aC)] (fun t k => XS.iadd X13.here hx rfl (hb hby d4_28) rfl k) ?_
      obtain ⟨hin, box, hat, Eb⟩ := HC.2.2 x0 hc9_1 hc17_7
      refine own_go T13 m 30 #[.val (.long x0), .second, iv 128] [(.ref box)] (fun t k => X13.aaload hx (by rw [e13]; exact HC.2.1.1) (State.isArrayOf_alike hZ.alike HC.2.1.2.1) rfl HC.2.1.2.2 hin hat (g := (mkF m 29 #[.val (.long x0), .second, iv 128] [(.int (x0.toInt32 + (128 : Int32))), (.ref aC)])) rfl rfl (hb hby d4_29) t k) ?_
      refine own_retA X13 hx hlk hret rfl rfl rfl (hb hby d4_30) (by decide) (by decide) ?_
      rw [e13]
      exact ⟨_, rfl, Eb, K0, N0⟩
theorem ef_rmEc0 (m : MethodId) (q0 : Addr) (q1 : Addr) : entryFrame m #[(.ref q0), (.ref q1)] 3 = mkF m 0 #[rv q0, rv q1, .unset] [] := by first | (simp [entryFrame, mkF, argsToLocals, Value.category]; done) | rfl
set_option maxRecDepth 65536 in
set_option maxHeartbeats 40000000 in
theorem rmEc0 (l : Launch) (Z : State) (a0 : Array Value) (hw : ∀ d ∈ tables_1, d.before a0 Z = true) (ws : List Jvm.Cond) (x0 : Addr) (x1 : Addr) (h0 : Heap) (E_x1 : Exa Z h0 x1 "java/lang/Long") :
    OwnC l Z (⟨"com/example/semel/semel/log/AbortedTransaction", "equals", "(Ljava/lang/Object;)Z"⟩ : MethodName) prog_20_method_5_code 3 (some .boolean) ws ({ frames := 0, cells := 0, slots := 0, locals := 0 } : Room) #[(.ref x0), (.ref x1)] h0 (OwnPure (.int 0) h0) := by
  refine own_entry pf_com_example_semel_semel_log_AbortedTransaction_equals__Ljava_lang_Object__Z (fun m => ef_rmEc0 m x0 x1) ?_
  intro p e s m below meth c T0 X0 hC e0
  obtain ⟨hx, hby, hml, hown, hnm, hret, hlk, hZ⟩ := hC
  refine own_go T0 m 1 #[rv x0, rv x1, .unset] [(.ref x1)] (fun t k => XS.aloadN X0.here hx rfl (hb hby d3_0) rfl rfl k) ?_
  obtain ⟨T1, X1, e1, st1⟩ := instNo X0 hx hZ hown (own_w hw 20 rfl) e0 E_x1 (own_nsno (own_w hw 43 rfl) (own_w hw 1 rfl) (NS.step (own_w hw 43 rfl) (NS.step (own_w hw 44 rfl) (own_nsroot (own_w hw 45 rfl) (own_w hw 1 rfl) (by decide)) (by decide)) (by decide)) (by decide)) (g := (mkF m 1 #[rv x0, rv x1, .unset] [(.ref x1)])) rfl rfl (hb hby d3_1)
  refine own_go T1 m 4 #[rv x0, rv x1, .unset] [(.int 0)] (st1) ?_
  refine own_go T1 m 52 #[rv x0, rv x1, .unset] [] (fun t k => XS.ifYes X1.here hx rfl (pc0 := 4) (pc' := 52) rfl (hb hby d3_4) rfl ((if0 _ _).trans (teq (by decide)).1) (by decide) (by decide) k) ?_
  refine own_go T1 m 53 #[rv x0, rv x1, .unset] [(.int 0)] (fun t k => XS.iconst X1.here hx rfl (hb hby d3_52) k) ?_
  refine own_retZ X1 hx hlk hret (by decide) (hb hby d3_53) (by decide) (by decide) ?_
  exact ⟨rfl, e1, rfl⟩
theorem own_add0 (p d : Int64) : p = p + d ↔ d = 0 := by
  simp only [← Int64.toInt_inj]
  have h := c_ladd p d
  have h1 := rng64 p
  have h2 := rng64 d
  have h3 := rng64 (p + d)
  have e : (0 : Int64).toInt = 0 := by decide
  omega
theorem own_add0' (p d : Int64) : p + d = p ↔ d = 0 := eq_comm.trans (own_add0 p d)
theorem own_bits (s : Int32) : s &&& 7 = 0 ↔ (s &&& 1 = 0 ∧ s &&& 2 = 0 ∧ s &&& 4 = 0) := by
  have key : ∀ b : BitVec 32, (b &&& 7#32 = 0#32) ↔ (b &&& 1#32 = 0#32 ∧ b &&& 2#32 = 0#32 ∧ b &&& 4#32 = 0#32) := by
    intro b
    constructor
    · intro h
      refine ⟨?_, ?_, ?_⟩
      · have : b &&& 1#32 = (b &&& 7#32) &&& 1#32 := by rw [BitVec.and_assoc]; rfl
        rw [this, h]; rfl
      · have : b &&& 2#32 = (b &&& 7#32) &&& 2#32 := by rw [BitVec.and_assoc]; rfl
        rw [this, h]; rfl
      · have : b &&& 4#32 = (b &&& 7#32) &&& 4#32 := by rw [BitVec.and_assoc]; rfl
        rw [this, h]; rfl
    · rintro ⟨h1, h2, h3⟩
      have : b &&& 7#32 = (b &&& 1#32) ||| ((b &&& 2#32) ||| (b &&& 4#32)) := by rw [← BitVec.and_or_distrib_left, ← BitVec.and_or_distrib_left]; rfl
      rw [this, h1, h2, h3]; rfl
  simp only [← Int32.toBitVec_inj, Int32.toBitVec_and]
  exact key s.toBitVec
def own_pk (b : Int32) (p d : Int64) : Int64 := if b = 0 then p else p + d
theorem own_pk0 (b : Int32) (p d : Int64) : p = own_pk b p d ↔ (b = 0 ∨ d = 0) := by
  unfold own_pk
  split
  · rename_i h; simp [h]
  · rename_i h; simp [h, own_add0]
theorem own_exp (s : Int32) (p f l d : Int64) : own_eq p f l (own_pk (s &&& 1) p d) (own_pk (s &&& 2) f d) (own_pk (s &&& 4) l d) = if s &&& 7 = 0 ∨ d = 0 then 1 else 0 := by
  unfold own_eq
  simp only [own_pk0, own_bits]
  by_cases hd : d = 0
  · simp [hd]
  · simp only [hd, or_false]
    by_cases h1 : s &&& 1 = 0 <;> by_cases h2 : s &&& 2 = 0 <;> by_cases h3 : s &&& 4 = 0 <;> simp [h1, h2, h3]
theorem own_eqs (a b c a' b' c' : Int64) : own_eq a b c a' b' c' = own_eq a' b' c' a b c := by
  unfold own_eq
  simp only [eq_comm]
theorem pf_com_example_semel_semel_log_AbortedTransactionEqualsPinLaw_law__JJJJII_Z : plainFor (⟨"com/example/semel/semel/log/AbortedTransactionEqualsPinLaw", "law", "(JJJJII)Z"⟩ : MethodName) = true := by first | exact plainFor_of_name (by first | (simp [plainName, overriddenIn]; done) | decide +kernel) | exact Jvm.Free.JP.mathPlain rfl (by decide +kernel) | decide +kernel
theorem ef_rm0 (m : MethodId) (q0 : Int64) (q1 : Int64) (q2 : Int64) (q3 : Int64) (q4 : Int32) (q5 : Int32) : entryFrame m #[(.long q0), (.long q1), (.long q2), (.long q3), (.int q4), (.int q5)] maxLocals = mkF m 0 #[.val (.long q0), .second, .val (.long q1), .second, .val (.long q2), .second, .val (.long q3), .second, iv q4, iv q5, .unset, .unset, .unset, .unset, .unset, .unset, .unset, .unset, .unset, .unset] [] := by first | (simp [entryFrame, mkF, argsToLocals, Value.category, maxLocals]; done) | rfl
set_option maxRecDepth 65536 in
set_option maxHeartbeats 40000000 in
theorem rm0 (l : Launch) (Z : State) (a0 : Array Value) (hw : ∀ d ∈ tables_1, d.before a0 Z = true) (ws : List Jvm.Cond) (x0 : Int64) (x1 : Int64) (x2 : Int64) (x3 : Int64) (x4 : Int32) (x5 : Int32) (aC : Addr) (cell : Cell) (h0 : Heap) (n0 : Nat) (Z0 : n0 ≤ h0.size) (HC : OwnCache Z h0 aC cell) :
    OwnC l Z x code maxLocals ret ws room_1 #[(.long x0), (.long x1), (.long x2), (.long x3), (.int x4), (.int x5)] h0 (fun v h L => v = some (.int 1) ∧ Fr n0 L) := by
  refine own_entry pf_com_example_semel_semel_log_AbortedTransactionEqualsPinLaw_law__JJJJII_Z (fun m => ef_rm0 m x0 x1 x2 x3 x4 x5) ?_
  intro p e s m below meth c T0 X0 hC e0
  obtain ⟨hx, hby, hml, hown, hnm, hret, hlk, hZ⟩ := hC
  have hml : c.maxLocals = 20 := hml
  have N0 := Fr.nil n0
  have K0 := Keep.refl h0 []
  obtain ⟨T1, h1, X1, e1, E1, A1, D1, -, st1⟩ := newO X0 hx hZ hown (own_w hw 0 rfl) (own_w hw 1 rfl) (own_w hw 2 rfl) e0 (g := (mkF m 0 #[.val (.long x0), .second, .val (.long x1), .second, .val (.long x2), .second, .val (.long x3), .second, iv x4, iv x5, .unset, .unset, .unset, .unset, .unset, .unset, .unset, .unset, .unset, .unset] [])) rfl (hb hby at_0) (by decide) (by decide)
  obtain ⟨b1, g1⟩ : ∃ z, z = h0.size := ⟨_, rfl⟩
  rw [← g1] at A1 D1 st1
  have g_b1 : n0 ≤ b1 := Nat.le_trans Z0 (Nat.le_of_eq g1.symm)
  have sz_b1 : h0.size ≤ b1 := Nat.le_trans K0.1 (Nat.le_of_eq g1.symm)
  have Z_1 : n0 ≤ h1.size := Nat.le_trans Z0 E1.1
  have K_1 : Keep h0 h1 [] := K0.ext E1
  have F_producerId_1 : Fld Z h1 b1 "com/example/semel/semel/log/AbortedTransaction" "producerId" "J" (.long 0) := D1 (Or.inr (own_w hw 10 rfl)) (ty := .long) (by decide)
  have F_firstOffset_1 : Fld Z h1 b1 "com/example/semel/semel/log/AbortedTransaction" "firstOffset" "J" (.long 0) := D1 (Or.inr (own_w hw 12 rfl)) (ty := .long) (by decide)
  have F_lastOffset_1 : Fld Z h1 b1 "com/example/semel/semel/log/AbortedTransaction" "lastOffset" "J" (.long 0) := D1 (Or.inr (own_w hw 14 rfl)) (ty := .long) (by decide)
  refine own_go T1 m 3 #[.val (.long x0), .second, .val (.long x1), .second, .val (.long x2), .second, .val (.long x3), .second, iv x4, iv x5, .unset, .unset, .unset, .unset, .unset, .unset, .unset, .unset, .unset, .unset] [(.ref b1)] (st1) ?_
  refine own_go T1 m 4 #[.val (.long x0), .second, .val (.long x1), .second, .val (.long x2), .second, .val (.long x3), .second, iv x4, iv x5, .unset, .unset, .unset, .unset, .unset, .unset, .unset, .unset, .unset, .unset] [(.ref b1), (.ref b1)] (fun t k => XS.dup X1.here hx rfl (hb hby at_3) rfl rfl k) ?_
  refine own_go T1 m 5 #[.val (.long x0), .second, .val (.long x1), .second, .val (.long x2), .second, .val (.long x3), .second, iv x4, iv x5, .unset, .unset, .unset, .unset, .unset, .unset, .unset, .unset, .unset, .unset] [(.long x0), (.ref b1), (.ref b1)] (fun t k => XS.lloadN X1.here hx rfl (hb hby at_4) rfl k) ?_
  refine own_go T1 m 6 #[.val (.long x0), .second, .val (.long x1), .second, .val (.long x2), .second, .val (.long x3), .second, iv x4, iv x5, .unset, .unset, .unset, .unset, .unset, .unset, .unset, .unset, .unset, .unset] [(.long x1), (.long x0), (.ref b1), (.ref b1)] (fun t k => XS.lloadN X1.here hx rfl (hb hby at_5) rfl k) ?_
  refine own_go T1 m 8 #[.val (.long x0), .second, .val (.long x1), .second, .val (.long x2), .second, .val (.long x3), .second, iv x4, iv x5, .unset, .unset, .unset, .unset, .unset, .unset, .unset, .unset, .unset, .unset] [(.long x2), (.long x1), (.long x0), (.ref b1), (.ref b1)] (fun t k => XS.lload X1.here hx rfl (hb hby at_6) rfl k) ?_
  obtain ⟨_, T2, L2, X2, ⟨rfl, Nq2, Kq2, Aq2, Fq2_0, Fq2_1, Fq2_2⟩, st2⟩ := own_init X1 hx hZ (y := (⟨"com/example/semel/semel/log/AbortedTransaction", "<init>", "(JJJ)V"⟩ : MethodName)) rfl hown (own_w hw 3 rfl) (own_w hw 4 rfl) (own_w hw 2 rfl) (own_w hw 5 rfl) (by decide) (rm1 l Z a0 hw [] b1 x0 x1 x2 h1 n0 Z_1 A1 g_b1 F_producerId_1 F_firstOffset_1 F_lastOffset_1 ) e1 (a := b1) 1 (argsL := [(.long x0), (.long x1), (.long x2)]) (rest := [(.ref b1)]) (Ls := #[.val (.long x0), .second, .val (.long x1), .second, .val (.long x2), .second, .val (.long x3), .second, iv x4, iv x5, .unset, .unset, .unset, .unset, .unset, .unset, .unset, .unset, .unset, .unset]) (by rw [hml]; rfl) (lenOf pd__JJJ_V rfl) rfl rfl (Nat.le_of_eq rfl) (hb hby at_8) (by decide) (by decide) (by decide) (by decide)
  have N2 := Fr.app N0 Nq2
  have cf3 := A1.keep Kq2
  have Z_2 : n0 ≤ T2.heap.size := Nat.le_trans Z_1 Kq2.1
  have K_2 : Keep h0 T2.heap [] := K_1.trans Kq2 (allS (Or.inr sz_b1) all0)
  refine own_go T2 m 11 #[.val (.long x0), .second, .val (.long x1), .second, .val (.long x2), .second, .val (.long x3), .second, iv x4, iv x5, .unset, .unset, .unset, .unset, .unset, .unset, .unset, .unset, .unset, .unset] [(.ref b1)] (st2) ?_
  refine own_go T2 m 13 #[.val (.long x0), .second, .val (.long x1), .second, .val (.long x2), .second, .val (.long x3), .second, iv x4, iv x5, rv b1, .unset, .unset, .unset, .unset, .unset, .unset, .unset, .unset, .unset] [] (fun t k => XS.astore X2.here hx rfl (hb hby at_11) rfl rfl rfl k) ?_
  refine own_go T2 m 15 #[.val (.long x0), .second, .val (.long x1), .second, .val (.long x2), .second, .val (.long x3), .second, iv x4, iv x5, rv b1, .unset, .unset, .unset, .unset, .unset, .unset, .unset, .unset, .unset] [(.int x4)] (fun t k => XS.iload X2.here hx rfl (hb hby at_13) rfl k) ?_
  refine own_go T2 m 16 #[.val (.long x0), .second, .val (.long x1), .second, .val (.long x2), .second, .val (.long x3), .second, iv x4, iv x5, rv b1, .unset, .unset, .unset, .unset, .unset, .unset, .unset, .unset, .unset] [(.int 1), (.int x4)] (fun t k => XS.iconst X2.here hx rfl (hb hby at_15) k) ?_
  refine own_go T2 m 17 #[.val (.long x0), .second, .val (.long x1), .second, .val (.long x2), .second, .val (.long x3), .second, iv x4, iv x5, rv b1, .unset, .unset, .unset, .unset, .unset, .unset, .unset, .unset, .unset] [(.int (x4 &&& (1 : Int32)))] (fun t k => XS.iand X2.here hx rfl (hb hby at_16) rfl k) ?_
  have seg30 : OwnG p.tables e below s (fun v h L => v = some (.int 1) ∧ Fr n0 L) room_1.cells room_1.slots (T2.setTop (mkF m 30 #[.val (.long x0), .second, .val (.long x1), .second, .val (.long x2), .second, .val (.long x3), .second, iv x4, iv x5, rv b1, .val (.long (own_pk (x4 &&& (1 : Int32)) x0 x3)), .second, .unset, .unset, .unset, .unset, .unset, .unset, .unset] [])) := by
    refine own_go T2 m 32 #[.val (.long x0), .second, .val (.long x1), .second, .val (.long x2), .second, .val (.long x3), .second, iv x4, iv x5, rv b1, .val (.long (own_pk (x4 &&& (1 : Int32)) x0 x3)), .second, .unset, .unset, .unset, .unset, .unset, .unset, .unset] [(.int x4)] (fun t k => XS.iload X2.here hx rfl (hb hby at_30) rfl k) ?_
    refine own_go T2 m 33 #[.val (.long x0), .second, .val (.long x1), .second, .val (.long x2), .second, .val (.long x3), .second, iv x4, iv x5, rv b1, .val (.long (own_pk (x4 &&& (1 : Int32)) x0 x3)), .second, .unset, .unset, .unset, .unset, .unset, .unset, .unset] [(.int 2), (.int x4)] (fun t k => XS.iconst X2.here hx rfl (hb hby at_32) k) ?_
    refine own_go T2 m 34 #[.val (.long x0), .second, .val (.long x1), .second, .val (.long x2), .second, .val (.long x3), .second, iv x4, iv x5, rv b1, .val (.long (own_pk (x4 &&& (1 : Int32)) x0 x3)), .second, .unset, .unset, .unset, .unset, .unset, .unset, .unset] [(.int (x4 &&& (2 : Int32)))] (fun t k => XS.iand X2.here hx rfl (hb hby at_33) rfl k) ?_
    have seg47 : OwnG p.tables e below s (fun v h L => v = some (.int 1) ∧ Fr n0 L) room_1.cells room_1.slots (T2.setTop (mkF m 47 #[.val (.long x0), .second, .val (.long x1), .second, .val (.long x2), .second, .val (.long x3), .second, iv x4, iv x5, rv b1, .val (.long (own_pk (x4 &&& (1 : Int32)) x0 x3)), .second, .val (.long (own_pk (x4 &&& (2 : Int32)) x1 x3)), .second, .unset, .unset, .unset, .unset, .unset] [])) := by
      refine own_go T2 m 49 #[.val (.long x0), .second, .val (.long x1), .second, .val (.long x2), .second, .val (.long x3), .second, iv x4, iv x5, rv b1, .val (.long (own_pk (x4 &&& (1 : Int32)) x0 x3)), .second, .val (.long (own_pk (x4 &&& (2 : Int32)) x1 x3)), .second, .unset, .unset, .unset, .unset, .unset] [(.int x4)] (fun t k => XS.iload X2.here hx rfl (hb hby at_47) rfl k) ?_
      refine own_go T2 m 50 #[.val (.long x0), .second, .val (.long x1), .second, .val (.long x2), .second, .val (.long x3), .second, iv x4, iv x5, rv b1, .val (.long (own_pk (x4 &&& (1 : Int32)) x0 x3)), .second, .val (.long (own_pk (x4 &&& (2 : Int32)) x1 x3)), .second, .unset, .unset, .unset, .unset, .unset] [(.int 4), (.int x4)] (fun t k => XS.iconst X2.here hx rfl (hb hby at_49) k) ?_
      refine own_go T2 m 51 #[.val (.long x0), .second, .val (.long x1), .second, .val (.long x2), .second, .val (.long x3), .second, iv x4, iv x5, rv b1, .val (.long (own_pk (x4 &&& (1 : Int32)) x0 x3)), .second, .val (.long (own_pk (x4 &&& (2 : Int32)) x1 x3)), .second, .unset, .unset, .unset, .unset, .unset] [(.int (x4 &&& (4 : Int32)))] (fun t k => XS.iand X2.here hx rfl (hb hby at_50) rfl k) ?_
      have seg66 : OwnG p.tables e below s (fun v h L => v = some (.int 1) ∧ Fr n0 L) room_1.cells room_1.slots (T2.setTop (mkF m 66 #[.val (.long x0), .second, .val (.long x1), .second, .val (.long x2), .second, .val (.long x3), .second, iv x4, iv x5, rv b1, .val (.long (own_pk (x4 &&& (1 : Int32)) x0 x3)), .second, .val (.long (own_pk (x4 &&& (2 : Int32)) x1 x3)), .second, .val (.long (own_pk (x4 &&& (4 : Int32)) x2 x3)), .second, .unset, .unset, .unset] [])) := by
        obtain ⟨T7, h7, X7, e7, E7, A7, D7, -, st7⟩ := newO X2 hx hZ hown (own_w hw 0 rfl) (own_w hw 1 rfl) (own_w hw 2 rfl) rfl (g := (mkF m 66 #[.val (.long x0), .second, .val (.long x1), .second, .val (.long x2), .second, .val (.long x3), .second, iv x4, iv x5, rv b1, .val (.long (own_pk (x4 &&& (1 : Int32)) x0 x3)), .second, .val (.long (own_pk (x4 &&& (2 : Int32)) x1 x3)), .second, .val (.long (own_pk (x4 &&& (4 : Int32)) x2 x3)), .second, .unset, .unset, .unset] [])) rfl (hb hby at_66) (by decide) (by decide)
        obtain ⟨b7, g7⟩ : ∃ z, z = T2.heap.size := ⟨_, rfl⟩
        rw [← g7] at A7 D7 st7
        have ne_b1_b7 : b1 ≠ b7 := Nat.ne_of_lt (Nat.lt_of_lt_of_eq Aq2.lt g7.symm)
        have g_b7 : n0 ≤ b7 := Nat.le_trans Z_2 (Nat.le_of_eq g7.symm)
        have sz_b7 : h0.size ≤ b7 := Nat.le_trans K_2.1 (Nat.le_of_eq g7.symm)
        have cf8 := Aq2.ext E7
        have cf9 := Fq2_0.ext E7
        have cf10 := Fq2_1.ext E7
        have cf11 := Fq2_2.ext E7
        have Z_7 : n0 ≤ h7.size := Nat.le_trans Z_2 E7.1
        have K_7 : Keep h0 h7 [] := K_2.ext E7
        have F_producerId_7 : Fld Z h7 b7 "com/example/semel/semel/log/AbortedTransaction" "producerId" "J" (.long 0) := D7 (Or.inr (own_w hw 10 rfl)) (ty := .long) (by decide)
        have F_firstOffset_7 : Fld Z h7 b7 "com/example/semel/semel/log/AbortedTransaction" "firstOffset" "J" (.long 0) := D7 (Or.inr (own_w hw 12 rfl)) (ty := .long) (by decide)
        have F_lastOffset_7 : Fld Z h7 b7 "com/example/semel/semel/log/AbortedTransaction" "lastOffset" "J" (.long 0) := D7 (Or.inr (own_w hw 14 rfl)) (ty := .long) (by decide)
        refine own_go T7 m 69 #[.val (.long x0), .second, .val (.long x1), .second, .val (.long x2), .second, .val (.long x3), .second, iv x4, iv x5, rv b1, .val (.long (own_pk (x4 &&& (1 : Int32)) x0 x3)), .second, .val (.long (own_pk (x4 &&& (2 : Int32)) x1 x3)), .second, .val (.long (own_pk (x4 &&& (4 : Int32)) x2 x3)), .second, .unset, .unset, .unset] [(.ref b7)] (st7) ?_
        refine own_go T7 m 70 #[.val (.long x0), .second, .val (.long x1), .second, .val (.long x2), .second, .val (.long x3), .second, iv x4, iv x5, rv b1, .val (.long (own_pk (x4 &&& (1 : Int32)) x0 x3)), .second, .val (.long (own_pk (x4 &&& (2 : Int32)) x1 x3)), .second, .val (.long (own_pk (x4 &&& (4 : Int32)) x2 x3)), .second, .unset, .unset, .unset] [(.ref b7), (.ref b7)] (fun t k => XS.dup X7.here hx rfl (hb hby at_69) rfl rfl k) ?_
        refine own_go T7 m 72 #[.val (.long x0), .second, .val (.long x1), .second, .val (.long x2), .second, .val (.long x3), .second, iv x4, iv x5, rv b1, .val (.long (own_pk (x4 &&& (1 : Int32)) x0 x3)), .second, .val (.long (own_pk (x4 &&& (2 : Int32)) x1 x3)), .second, .val (.long (own_pk (x4 &&& (4 : Int32)) x2 x3)), .second, .unset, .unset, .unset] [(.long (own_pk (x4 &&& (1 : Int32)) x0 x3)), (.ref b7), (.ref b7)] (fun t k => XS.lload X7.here hx rfl (hb hby at_70) rfl k) ?_
        refine own_go T7 m 74 #[.val (.long x0), .second, .val (.long x1), .second, .val (.long x2), .second, .val (.long x3), .second, iv x4, iv x5, rv b1, .val (.long (own_pk (x4 &&& (1 : Int32)) x0 x3)), .second, .val (.long (own_pk (x4 &&& (2 : Int32)) x1 x3)), .second, .val (.long (own_pk (x4 &&& (4 : Int32)) x2 x3)), .second, .unset, .unset, .unset] [(.long (own_pk (x4 &&& (2 : Int32)) x1 x3)), (.long (own_pk (x4 &&& (1 : Int32)) x0 x3)), (.ref b7), (.ref b7)] (fun t k => XS.lload X7.here hx rfl (hb hby at_72) rfl k) ?_
        refine own_go T7 m 76 #[.val (.long x0), .second, .val (.long x1), .second, .val (.long x2), .second, .val (.long x3), .second, iv x4, iv x5, rv b1, .val (.long (own_pk (x4 &&& (1 : Int32)) x0 x3)), .second, .val (.long (own_pk (x4 &&& (2 : Int32)) x1 x3)), .second, .val (.long (own_pk (x4 &&& (4 : Int32)) x2 x3)), .second, .unset, .unset, .unset] [(.long (own_pk (x4 &&& (4 : Int32)) x2 x3)), (.long (own_pk (x4 &&& (2 : Int32)) x1 x3)), (.long (own_pk (x4 &&& (1 : Int32)) x0 x3)), (.ref b7), (.ref b7)] (fun t k => XS.lload X7.here hx rfl (hb hby at_74) rfl k) ?_
        obtain ⟨_, T12, L12, X12, ⟨rfl, Nq12, Kq12, Aq12, Fq12_0, Fq12_1, Fq12_2⟩, st12⟩ := own_init X7 hx hZ (y := (⟨"com/example/semel/semel/log/AbortedTransaction", "<init>", "(JJJ)V"⟩ : MethodName)) rfl hown (own_w hw 3 rfl) (own_w hw 4 rfl) (own_w hw 2 rfl) (own_w hw 5 rfl) (by decide) (rm1 l Z a0 hw [] b7 (own_pk (x4 &&& (1 : Int32)) x0 x3) (own_pk (x4 &&& (2 : Int32)) x1 x3) (own_pk (x4 &&& (4 : Int32)) x2 x3) h7 n0 Z_7 A7 g_b7 F_producerId_7 F_firstOffset_7 F_lastOffset_7 ) e7 (a := b7) 1 (argsL := [(.long (own_pk (x4 &&& (1 : Int32)) x0 x3)), (.long (own_pk (x4 &&& (2 : Int32)) x1 x3)), (.long (own_pk (x4 &&& (4 : Int32)) x2 x3))]) (rest := [(.ref b7)]) (Ls := #[.val (.long x0), .second, .val (.long x1), .second, .val (.long x2), .second, .val (.long x3), .second, iv x4, iv x5, rv b1, .val (.long (own_pk (x4 &&& (1 : Int32)) x0 x3)), .second, .val (.long (own_pk (x4 &&& (2 : Int32)) x1 x3)), .second, .val (.long (own_pk (x4 &&& (4 : Int32)) x2 x3)), .second, .unset, .unset, .unset]) (by rw [hml]; rfl) (lenOf pd__JJJ_V rfl) rfl rfl (Nat.le_of_eq rfl) (hb hby at_76) (by decide) (by decide) (by decide) (by decide)
        have N12 := Fr.app N2 Nq12
        have cf13 := cf8.keep Kq12
        have cf14 := cf9.keep Kq12 (ninS ne_b1_b7 nin0)
        have cf15 := cf10.keep Kq12 (ninS ne_b1_b7 nin0)
        have cf16 := cf11.keep Kq12 (ninS ne_b1_b7 nin0)
        have cf17 := A7.keep Kq12
        have Z_12 : n0 ≤ T12.heap.size := Nat.le_trans Z_7 Kq12.1
        have K_12 : Keep h0 T12.heap [] := K_7.trans Kq12 (allS (Or.inr sz_b7) all0)
        refine own_go T12 m 79 #[.val (.long x0), .second, .val (.long x1), .second, .val (.long x2), .second, .val (.long x3), .second, iv x4, iv x5, rv b1, .val (.long (own_pk (x4 &&& (1 : Int32)) x0 x3)), .second, .val (.long (own_pk (x4 &&& (2 : Int32)) x1 x3)), .second, .val (.long (own_pk (x4 &&& (4 : Int32)) x2 x3)), .second, .unset, .unset, .unset] [(.ref b7)] (st12) ?_
        refine own_go T12 m 81 #[.val (.long x0), .second, .val (.long x1), .second, .val (.long x2), .second, .val (.long x3), .second, iv x4, iv x5, rv b1, .val (.long (own_pk (x4 &&& (1 : Int32)) x0 x3)), .second, .val (.long (own_pk (x4 &&& (2 : Int32)) x1 x3)), .second, .val (.long (own_pk (x4 &&& (4 : Int32)) x2 x3)), .second, rv b7, .unset, .unset] [] (fun t k => XS.astore X12.here hx rfl (hb hby at_79) rfl rfl rfl k) ?_
        refine own_go T12 m 83 #[.val (.long x0), .second, .val (.long x1), .second, .val (.long x2), .second, .val (.long x3), .second, iv x4, iv x5, rv b1, .val (.long (own_pk (x4 &&& (1 : Int32)) x0 x3)), .second, .val (.long (own_pk (x4 &&& (2 : Int32)) x1 x3)), .second, .val (.long (own_pk (x4 &&& (4 : Int32)) x2 x3)), .second, rv b7, .unset, .unset] [(.int x5)] (fun t k => XS.iload X12.here hx rfl (hb hby at_81) rfl k) ?_
        refine own_go T12 m 84 #[.val (.long x0), .second, .val (.long x1), .second, .val (.long x2), .second, .val (.long x3), .second, iv x4, iv x5, rv b1, .val (.long (own_pk (x4 &&& (1 : Int32)) x0 x3)), .second, .val (.long (own_pk (x4 &&& (2 : Int32)) x1 x3)), .second, .val (.long (own_pk (x4 &&& (4 : Int32)) x2 x3)), .second, rv b7, .unset, .unset] [(.int 3), (.int x5)] (fun t k => XS.iconst X12.here hx rfl (hb hby at_83) k) ?_
        refine own_go T12 m 85 #[.val (.long x0), .second, .val (.long x1), .second, .val (.long x2), .second, .val (.long x3), .second, iv x4, iv x5, rv b1, .val (.long (own_pk (x4 &&& (1 : Int32)) x0 x3)), .second, .val (.long (own_pk (x4 &&& (2 : Int32)) x1 x3)), .second, .val (.long (own_pk (x4 &&& (4 : Int32)) x2 x3)), .second, rv b7, .unset, .unset] [(.int (x5 &&& (3 : Int32)))] (fun t k => XS.iand X12.here hx rfl (hb hby at_84) rfl k) ?_
        refine own_go T12 m 87 #[.val (.long x0), .second, .val (.long x1), .second, .val (.long x2), .second, .val (.long x3), .second, iv x4, iv x5, rv b1, .val (.long (own_pk (x4 &&& (1 : Int32)) x0 x3)), .second, .val (.long (own_pk (x4 &&& (2 : Int32)) x1 x3)), .second, .val (.long (own_pk (x4 &&& (4 : Int32)) x2 x3)), .second, rv b7, iv (x5 &&& (3 : Int32)), .unset] [] (fun t k => XS.istore X12.here hx rfl (hb hby at_85) rfl rfl k) ?_
        refine own_go T12 m 89 #[.val (.long x0), .second, .val (.long x1), .second, .val (.long x2), .second, .val (.long x3), .second, iv x4, iv x5, rv b1, .val (.long (own_pk (x4 &&& (1 : Int32)) x0 x3)), .second, .val (.long (own_pk (x4 &&& (2 : Int32)) x1 x3)), .second, .val (.long (own_pk (x4 &&& (4 : Int32)) x2 x3)), .second, rv b7, iv (x5 &&& (3 : Int32)), .unset] [(.int (x5 &&& (3 : Int32)))] (fun t k => XS.iload X12.here hx rfl (hb hby at_87) rfl k) ?_
        refine own_go T12 m 90 #[.val (.long x0), .second, .val (.long x1), .second, .val (.long x2), .second, .val (.long x3), .second, iv x4, iv x5, rv b1, .val (.long (own_pk (x4 &&& (1 : Int32)) x0 x3)), .second, .val (.long (own_pk (x4 &&& (2 : Int32)) x1 x3)), .second, .val (.long (own_pk (x4 &&& (4 : Int32)) x2 x3)), .second, rv b7, iv (x5 &&& (3 : Int32)), .unset] [(.int 1), (.int (x5 &&& (3 : Int32)))] (fun t k => XS.iconst X12.here hx rfl (hb hby at_89) k) ?_
        by_cases hc90_18 : (x5 &&& (3 : Int32)) = (1 : Int32)
        · refine own_go T12 m 93 #[.val (.long x0), .second, .val (.long x1), .second, .val (.long x2), .second, .val (.long x3), .second, iv x4, iv x5, rv b1, .val (.long (own_pk (x4 &&& (1 : Int32)) x0 x3)), .second, .val (.long (own_pk (x4 &&& (2 : Int32)) x1 x3)), .second, .val (.long (own_pk (x4 &&& (4 : Int32)) x2 x3)), .second, rv b7, iv (x5 &&& (3 : Int32)), .unset] [] (fun t k => XS.icmpNo X12.here hx rfl (hb hby at_90) rfl (teq hc90_18).2 k) ?_
          refine own_go T12 m 95 #[.val (.long x0), .second, .val (.long x1), .second, .val (.long x2), .second, .val (.long x3), .second, iv x4, iv x5, rv b1, .val (.long (own_pk (x4 &&& (1 : Int32)) x0 x3)), .second, .val (.long (own_pk (x4 &&& (2 : Int32)) x1 x3)), .second, .val (.long (own_pk (x4 &&& (4 : Int32)) x2 x3)), .second, rv b7, iv (x5 &&& (3 : Int32)), .unset] [(.ref b1)] (fun t k => XS.aload X12.here hx rfl (hb hby at_93) rfl rfl k) ?_
          refine own_go T12 m 96 #[.val (.long x0), .second, .val (.long x1), .second, .val (.long x2), .second, .val (.long x3), .second, iv x4, iv x5, rv b1, .val (.long (own_pk (x4 &&& (1 : Int32)) x0 x3)), .second, .val (.long (own_pk (x4 &&& (2 : Int32)) x1 x3)), .second, .val (.long (own_pk (x4 &&& (4 : Int32)) x2 x3)), .second, rv b7, iv (x5 &&& (3 : Int32)), .unset] [.null, (.ref b1)] (fun t k => XS.aconstNull X12.here hx rfl (hb hby at_95) k) ?_
          obtain ⟨_, T19, L19, X19, ⟨rfl, e19, rfl⟩, st19⟩ := own_virtual X12 hx hZ (y := (⟨"com/example/semel/semel/log/AbortedTransaction", "equals", "(Ljava/lang/Object;)Z"⟩ : MethodName)) (z := (⟨"com/example/semel/semel/log/AbortedTransaction", "equals", "(Ljava/lang/Object;)Z"⟩ : MethodName)) hown (own_w hw 15 rfl) (own_w hw 16 rfl) (notFace_of_selects (args := #[]) (mvT hZ (own_w hw 18 rfl))) (own_w hw 18 rfl) (own_w hw 17 rfl) (own_w hw 2 rfl) (own_w hw 19 rfl) (by decide) (rmEn l Z a0 hw [] b1 T12.heap) rfl cf13 0 (argsL := [.null]) (rest := []) (Ls := #[.val (.long x0), .second, .val (.long x1), .second, .val (.long x2), .second, .val (.long x3), .second, iv x4, iv x5, rv b1, .val (.long (own_pk (x4 &&& (1 : Int32)) x0 x3)), .second, .val (.long (own_pk (x4 &&& (2 : Int32)) x1 x3)), .second, .val (.long (own_pk (x4 &&& (4 : Int32)) x2 x3)), .second, rv b7, iv (x5 &&& (3 : Int32)), .unset]) (by rw [hml]; rfl) (lenOf pd__Ljava_lang_Object__Z rfl) rfl rfl (Nat.le_of_eq rfl) (hb hby at_96) (by decide) (by decide) (by decide) (by decide)
          replace X19 := own_nil X19
          refine own_go T19 m 99 #[.val (.long x0), .second, .val (.long x1), .second, .val (.long x2), .second, .val (.long x3), .second, iv x4, iv x5, rv b1, .val (.long (own_pk (x4 &&& (1 : Int32)) x0 x3)), .second, .val (.long (own_pk (x4 &&& (2 : Int32)) x1 x3)), .second, .val (.long (own_pk (x4 &&& (4 : Int32)) x2 x3)), .second, rv b7, iv (x5 &&& (3 : Int32)), .unset] [(.int 0)] (st19) ?_
          refine own_go T19 m 102 #[.val (.long x0), .second, .val (.long x1), .second, .val (.long x2), .second, .val (.long x3), .second, iv x4, iv x5, rv b1, .val (.long (own_pk (x4 &&& (1 : Int32)) x0 x3)), .second, .val (.long (own_pk (x4 &&& (2 : Int32)) x1 x3)), .second, .val (.long (own_pk (x4 &&& (4 : Int32)) x2 x3)), .second, rv b7, iv (x5 &&& (3 : Int32)), .unset] [] (fun t k => XS.ifNo X19.here hx rfl (hb hby at_99) rfl ((if0 _ _).trans (teq (by decide)).2) k) ?_
          refine own_go T19 m 103 #[.val (.long x0), .second, .val (.long x1), .second, .val (.long x2), .second, .val (.long x3), .second, iv x4, iv x5, rv b1, .val (.long (own_pk (x4 &&& (1 : Int32)) x0 x3)), .second, .val (.long (own_pk (x4 &&& (2 : Int32)) x1 x3)), .second, .val (.long (own_pk (x4 &&& (4 : Int32)) x2 x3)), .second, rv b7, iv (x5 &&& (3 : Int32)), .unset] [(.int 1)] (fun t k => XS.iconst X19.here hx rfl (hb hby at_102) k) ?_
          refine own_go T19 m 107 #[.val (.long x0), .second, .val (.long x1), .second, .val (.long x2), .second, .val (.long x3), .second, iv x4, iv x5, rv b1, .val (.long (own_pk (x4 &&& (1 : Int32)) x0 x3)), .second, .val (.long (own_pk (x4 &&& (2 : Int32)) x1 x3)), .second, .val (.long (own_pk (x4 &&& (4 : Int32)) x2 x3)), .second, rv b7, iv (x5 &&& (3 : Int32)), .unset] [(.int 1)] (fun t k => XS.goto X19.here hx rfl (pc0 := 103) (pc' := 107) rfl (hb hby at_103) (by decide) (by decide) k) ?_
          refine own_retZ X19 hx hlk hret (by decide) (hb hby at_107) (by decide) (by decide) ?_
          exact ⟨rfl, N12⟩
        · refine own_go T12 m 108 #[.val (.long x0), .second, .val (.long x1), .second, .val (.long x2), .second, .val (.long x3), .second, iv x4, iv x5, rv b1, .val (.long (own_pk (x4 &&& (1 : Int32)) x0 x3)), .second, .val (.long (own_pk (x4 &&& (2 : Int32)) x1 x3)), .second, .val (.long (own_pk (x4 &&& (4 : Int32)) x2 x3)), .second, rv b7, iv (x5 &&& (3 : Int32)), .unset] [] (fun t k => XS.icmpYes X12.here hx rfl (pc0 := 90) (pc' := 108) rfl (hb hby at_90) rfl (feq hc90_18).2 (by decide) (by decide) k) ?_
          refine own_go T12 m 110 #[.val (.long x0), .second, .val (.long x1), .second, .val (.long x2), .second, .val (.long x3), .second, iv x4, iv x5, rv b1, .val (.long (own_pk (x4 &&& (1 : Int32)) x0 x3)), .second, .val (.long (own_pk (x4 &&& (2 : Int32)) x1 x3)), .second, .val (.long (own_pk (x4 &&& (4 : Int32)) x2 x3)), .second, rv b7, iv (x5 &&& (3 : Int32)), .unset] [(.int (x5 &&& (3 : Int32)))] (fun t k => XS.iload X12.here hx rfl (hb hby at_108) rfl k) ?_
          refine own_go T12 m 111 #[.val (.long x0), .second, .val (.long x1), .second, .val (.long x2), .second, .val (.long x3), .second, iv x4, iv x5, rv b1, .val (.long (own_pk (x4 &&& (1 : Int32)) x0 x3)), .second, .val (.long (own_pk (x4 &&& (2 : Int32)) x1 x3)), .second, .val (.long (own_pk (x4 &&& (4 : Int32)) x2 x3)), .second, rv b7, iv (x5 &&& (3 : Int32)), .unset] [(.int 2), (.int (x5 &&& (3 : Int32)))] (fun t k => XS.iconst X12.here hx rfl (hb hby at_110) k) ?_
          by_cases hc111_20 : (x5 &&& (3 : Int32)) = (2 : Int32)
          · refine own_go T12 m 114 #[.val (.long x0), .second, .val (.long x1), .second, .val (.long x2), .second, .val (.long x3), .second, iv x4, iv x5, rv b1, .val (.long (own_pk (x4 &&& (1 : Int32)) x0 x3)), .second, .val (.long (own_pk (x4 &&& (2 : Int32)) x1 x3)), .second, .val (.long (own_pk (x4 &&& (4 : Int32)) x2 x3)), .second, rv b7, iv (x5 &&& (3 : Int32)), .unset] [] (fun t k => XS.icmpNo X12.here hx rfl (hb hby at_111) rfl (teq hc111_20).2 k) ?_
            refine own_go T12 m 116 #[.val (.long x0), .second, .val (.long x1), .second, .val (.long x2), .second, .val (.long x3), .second, iv x4, iv x5, rv b1, .val (.long (own_pk (x4 &&& (1 : Int32)) x0 x3)), .second, .val (.long (own_pk (x4 &&& (2 : Int32)) x1 x3)), .second, .val (.long (own_pk (x4 &&& (4 : Int32)) x2 x3)), .second, rv b7, iv (x5 &&& (3 : Int32)), .unset] [(.ref b1)] (fun t k => XS.aload X12.here hx rfl (hb hby at_114) rfl rfl k) ?_
            refine own_go T12 m 117 #[.val (.long x0), .second, .val (.long x1), .second, .val (.long x2), .second, .val (.long x3), .second, iv x4, iv x5, rv b1, .val (.long (own_pk (x4 &&& (1 : Int32)) x0 x3)), .second, .val (.long (own_pk (x4 &&& (2 : Int32)) x1 x3)), .second, .val (.long (own_pk (x4 &&& (4 : Int32)) x2 x3)), .second, rv b7, iv (x5 &&& (3 : Int32)), .unset] [(.long x0), (.ref b1)] (fun t k => XS.lloadN X12.here hx rfl (hb hby at_116) rfl k) ?_
            obtain ⟨_, T21, L21, X21, ⟨r21, rfl, Aq21, Kq21, Nq21⟩, st21⟩ := own_static X12 hx hZ (y := (⟨"java/lang/Long", "valueOf", "(J)Ljava/lang/Long;"⟩ : MethodName)) hown (own_w hw 22 rfl) (own_w hw 23 rfl) (own_w hw 24 rfl) (own_w hw 25 rfl) (by decide) (rm4 l Z a0 hw [] x0 aC cell T12.heap n0 Z_12 (own_cache_keep HC K_12)) rfl 1 (argsL := [(.long x0)]) (rest := [(.ref b1)]) (Ls := #[.val (.long x0), .second, .val (.long x1), .second, .val (.long x2), .second, .val (.long x3), .second, iv x4, iv x5, rv b1, .val (.long (own_pk (x4 &&& (1 : Int32)) x0 x3)), .second, .val (.long (own_pk (x4 &&& (2 : Int32)) x1 x3)), .second, .val (.long (own_pk (x4 &&& (4 : Int32)) x2 x3)), .second, rv b7, iv (x5 &&& (3 : Int32)), .unset]) (by rw [hml]; rfl) (lenOf pd__J_Ljava_lang_Long_ rfl) rfl rfl (Nat.le_of_eq rfl) (hb hby at_117) (by decide) (by decide) (by decide) (by decide)
            have N21 := Fr.app N12 Nq21
            have cf22 := cf13.keep Kq21
            have cf23 := cf14.keep Kq21 nin0
            have cf24 := cf15.keep Kq21 nin0
            have cf25 := cf16.keep Kq21 nin0
            have cf26 := Aq12.keep Kq21
            have cf27 := Fq12_0.keep Kq21 nin0
            have cf28 := Fq12_1.keep Kq21 nin0
            have cf29 := Fq12_2.keep Kq21 nin0
            have Z_21 : n0 ≤ T21.heap.size := Nat.le_trans Z_12 Kq21.1
            have K_21 : Keep h0 T21.heap [] := K_12.trans Kq21 all0
            refine own_go T21 m 120 #[.val (.long x0), .second, .val (.long x1), .second, .val (.long x2), .second, .val (.long x3), .second, iv x4, iv x5, rv b1, .val (.long (own_pk (x4 &&& (1 : Int32)) x0 x3)), .second, .val (.long (own_pk (x4 &&& (2 : Int32)) x1 x3)), .second, .val (.long (own_pk (x4 &&& (4 : Int32)) x2 x3)), .second, rv b7, iv (x5 &&& (3 : Int32)), .unset] [(.ref r21), (.ref b1)] (st21) ?_
            obtain ⟨_, T30, L30, X30, ⟨rfl, e30, rfl⟩, st30⟩ := own_virtual X21 hx hZ (y := (⟨"com/example/semel/semel/log/AbortedTransaction", "equals", "(Ljava/lang/Object;)Z"⟩ : MethodName)) (z := (⟨"com/example/semel/semel/log/AbortedTransaction", "equals", "(Ljava/lang/Object;)Z"⟩ : MethodName)) hown (own_w hw 15 rfl) (own_w hw 16 rfl) (notFace_of_selects (args := #[]) (mvT hZ (own_w hw 18 rfl))) (own_w hw 18 rfl) (own_w hw 17 rfl) (own_w hw 2 rfl) (own_w hw 19 rfl) (by decide) (rmEc0 l Z a0 hw [] b1 r21 T21.heap Aq21) rfl cf22 0 (argsL := [(.ref r21)]) (rest := []) (Ls := #[.val (.long x0), .second, .val (.long x1), .second, .val (.long x2), .second, .val (.long x3), .second, iv x4, iv x5, rv b1, .val (.long (own_pk (x4 &&& (1 : Int32)) x0 x3)), .second, .val (.long (own_pk (x4 &&& (2 : Int32)) x1 x3)), .second, .val (.long (own_pk (x4 &&& (4 : Int32)) x2 x3)), .second, rv b7, iv (x5 &&& (3 : Int32)), .unset]) (by rw [hml]; rfl) (lenOf pd__Ljava_lang_Object__Z rfl) rfl rfl (Nat.le_of_eq rfl) (hb hby at_120) (by decide) (by decide) (by decide) (by decide)
            replace X30 := own_nil X30
            refine own_go T30 m 123 #[.val (.long x0), .second, .val (.long x1), .second, .val (.long x2), .second, .val (.long x3), .second, iv x4, iv x5, rv b1, .val (.long (own_pk (x4 &&& (1 : Int32)) x0 x3)), .second, .val (.long (own_pk (x4 &&& (2 : Int32)) x1 x3)), .second, .val (.long (own_pk (x4 &&& (4 : Int32)) x2 x3)), .second, rv b7, iv (x5 &&& (3 : Int32)), .unset] [(.int 0)] (st30) ?_
            refine own_go T30 m 126 #[.val (.long x0), .second, .val (.long x1), .second, .val (.long x2), .second, .val (.long x3), .second, iv x4, iv x5, rv b1, .val (.long (own_pk (x4 &&& (1 : Int32)) x0 x3)), .second, .val (.long (own_pk (x4 &&& (2 : Int32)) x1 x3)), .second, .val (.long (own_pk (x4 &&& (4 : Int32)) x2 x3)), .second, rv b7, iv (x5 &&& (3 : Int32)), .unset] [] (fun t k => XS.ifNo X30.here hx rfl (hb hby at_123) rfl ((if0 _ _).trans (teq (by decide)).2) k) ?_
            refine own_go T30 m 127 #[.val (.long x0), .second, .val (.long x1), .second, .val (.long x2), .second, .val (.long x3), .second, iv x4, iv x5, rv b1, .val (.long (own_pk (x4 &&& (1 : Int32)) x0 x3)), .second, .val (.long (own_pk (x4 &&& (2 : Int32)) x1 x3)), .second, .val (.long (own_pk (x4 &&& (4 : Int32)) x2 x3)), .second, rv b7, iv (x5 &&& (3 : Int32)), .unset] [(.int 1)] (fun t k => XS.iconst X30.here hx rfl (hb hby at_126) k) ?_
            refine own_go T30 m 131 #[.val (.long x0), .second, .val (.long x1), .second, .val (.long x2), .second, .val (.long x3), .second, iv x4, iv x5, rv b1, .val (.long (own_pk (x4 &&& (1 : Int32)) x0 x3)), .second, .val (.long (own_pk (x4 &&& (2 : Int32)) x1 x3)), .second, .val (.long (own_pk (x4 &&& (4 : Int32)) x2 x3)), .second, rv b7, iv (x5 &&& (3 : Int32)), .unset] [(.int 1)] (fun t k => XS.goto X30.here hx rfl (pc0 := 127) (pc' := 131) rfl (hb hby at_127) (by decide) (by decide) k) ?_
            refine own_retZ X30 hx hlk hret (by decide) (hb hby at_131) (by decide) (by decide) ?_
            exact ⟨rfl, N21⟩
          · refine own_go T12 m 132 #[.val (.long x0), .second, .val (.long x1), .second, .val (.long x2), .second, .val (.long x3), .second, iv x4, iv x5, rv b1, .val (.long (own_pk (x4 &&& (1 : Int32)) x0 x3)), .second, .val (.long (own_pk (x4 &&& (2 : Int32)) x1 x3)), .second, .val (.long (own_pk (x4 &&& (4 : Int32)) x2 x3)), .second, rv b7, iv (x5 &&& (3 : Int32)), .unset] [] (fun t k => XS.icmpYes X12.here hx rfl (pc0 := 111) (pc' := 132) rfl (hb hby at_111) rfl (feq hc111_20).2 (by decide) (by decide) k) ?_
            refine own_go T12 m 134 #[.val (.long x0), .second, .val (.long x1), .second, .val (.long x2), .second, .val (.long x3), .second, iv x4, iv x5, rv b1, .val (.long (own_pk (x4 &&& (1 : Int32)) x0 x3)), .second, .val (.long (own_pk (x4 &&& (2 : Int32)) x1 x3)), .second, .val (.long (own_pk (x4 &&& (4 : Int32)) x2 x3)), .second, rv b7, iv (x5 &&& (3 : Int32)), .unset] [(.int (x5 &&& (3 : Int32)))] (fun t k => XS.iload X12.here hx rfl (hb hby at_132) rfl k) ?_
            refine own_go T12 m 135 #[.val (.long x0), .second, .val (.long x1), .second, .val (.long x2), .second, .val (.long x3), .second, iv x4, iv x5, rv b1, .val (.long (own_pk (x4 &&& (1 : Int32)) x0 x3)), .second, .val (.long (own_pk (x4 &&& (2 : Int32)) x1 x3)), .second, .val (.long (own_pk (x4 &&& (4 : Int32)) x2 x3)), .second, rv b7, iv (x5 &&& (3 : Int32)), .unset] [(.int 3), (.int (x5 &&& (3 : Int32)))] (fun t k => XS.iconst X12.here hx rfl (hb hby at_134) k) ?_
            by_cases hc135_31 : (x5 &&& (3 : Int32)) = (3 : Int32)
            · refine own_go T12 m 138 #[.val (.long x0), .second, .val (.long x1), .second, .val (.long x2), .second, .val (.long x3), .second, iv x4, iv x5, rv b1, .val (.long (own_pk (x4 &&& (1 : Int32)) x0 x3)), .second, .val (.long (own_pk (x4 &&& (2 : Int32)) x1 x3)), .second, .val (.long (own_pk (x4 &&& (4 : Int32)) x2 x3)), .second, rv b7, iv (x5 &&& (3 : Int32)), .unset] [] (fun t k => XS.icmpNo X12.here hx rfl (hb hby at_135) rfl (teq hc135_31).2 k) ?_
              refine own_go T12 m 140 #[.val (.long x0), .second, .val (.long x1), .second, .val (.long x2), .second, .val (.long x3), .second, iv x4, iv x5, rv b1, .val (.long (own_pk (x4 &&& (1 : Int32)) x0 x3)), .second, .val (.long (own_pk (x4 &&& (2 : Int32)) x1 x3)), .second, .val (.long (own_pk (x4 &&& (4 : Int32)) x2 x3)), .second, rv b7, iv (x5 &&& (3 : Int32)), .unset] [(.ref b1)] (fun t k => XS.aload X12.here hx rfl (hb hby at_138) rfl rfl k) ?_
              refine own_go T12 m 142 #[.val (.long x0), .second, .val (.long x1), .second, .val (.long x2), .second, .val (.long x3), .second, iv x4, iv x5, rv b1, .val (.long (own_pk (x4 &&& (1 : Int32)) x0 x3)), .second, .val (.long (own_pk (x4 &&& (2 : Int32)) x1 x3)), .second, .val (.long (own_pk (x4 &&& (4 : Int32)) x2 x3)), .second, rv b7, iv (x5 &&& (3 : Int32)), .unset] [(.ref b1), (.ref b1)] (fun t k => XS.aload X12.here hx rfl (hb hby at_140) rfl rfl k) ?_
              obtain ⟨_, T32, L32, X32, ⟨rfl, e32, rfl⟩, st32⟩ := own_virtual X12 hx hZ (y := (⟨"com/example/semel/semel/log/AbortedTransaction", "equals", "(Ljava/lang/Object;)Z"⟩ : MethodName)) (z := (⟨"com/example/semel/semel/log/AbortedTransaction", "equals", "(Ljava/lang/Object;)Z"⟩ : MethodName)) hown (own_w hw 15 rfl) (own_w hw 16 rfl) (notFace_of_selects (args := #[]) (mvT hZ (own_w hw 18 rfl))) (own_w hw 18 rfl) (own_w hw 17 rfl) (own_w hw 2 rfl) (own_w hw 19 rfl) (by decide) (rmEb l Z a0 hw [] b1 b1 x0 x1 x2 x0 x1 x2 T12.heap cf14 cf15 cf16 cf14 cf15 cf16 cf13) rfl cf13 0 (argsL := [(.ref b1)]) (rest := []) (Ls := #[.val (.long x0), .second, .val (.long x1), .second, .val (.long x2), .second, .val (.long x3), .second, iv x4, iv x5, rv b1, .val (.long (own_pk (x4 &&& (1 : Int32)) x0 x3)), .second, .val (.long (own_pk (x4 &&& (2 : Int32)) x1 x3)), .second, .val (.long (own_pk (x4 &&& (4 : Int32)) x2 x3)), .second, rv b7, iv (x5 &&& (3 : Int32)), .unset]) (by rw [hml]; rfl) (lenOf pd__Ljava_lang_Object__Z rfl) rfl rfl (Nat.le_of_eq rfl) (hb hby at_142) (by decide) (by decide) (by decide) (by decide)
              replace X32 := own_nil X32
              refine own_go T32 m 145 #[.val (.long x0), .second, .val (.long x1), .second, .val (.long x2), .second, .val (.long x3), .second, iv x4, iv x5, rv b1, .val (.long (own_pk (x4 &&& (1 : Int32)) x0 x3)), .second, .val (.long (own_pk (x4 &&& (2 : Int32)) x1 x3)), .second, .val (.long (own_pk (x4 &&& (4 : Int32)) x2 x3)), .second, rv b7, iv (x5 &&& (3 : Int32)), .unset] [(.int (own_eq x0 x1 x2 x0 x1 x2))] (st32) ?_
              rw [show (own_eq x0 x1 x2 x0 x1 x2) = (1 : Int32) from by simp [own_eq]]
              refine own_retZ X32 hx hlk hret (by decide) (hb hby at_145) (by decide) (by decide) ?_
              exact ⟨rfl, N12⟩
            · refine own_go T12 m 146 #[.val (.long x0), .second, .val (.long x1), .second, .val (.long x2), .second, .val (.long x3), .second, iv x4, iv x5, rv b1, .val (.long (own_pk (x4 &&& (1 : Int32)) x0 x3)), .second, .val (.long (own_pk (x4 &&& (2 : Int32)) x1 x3)), .second, .val (.long (own_pk (x4 &&& (4 : Int32)) x2 x3)), .second, rv b7, iv (x5 &&& (3 : Int32)), .unset] [] (fun t k => XS.icmpYes X12.here hx rfl (pc0 := 135) (pc' := 146) rfl (hb hby at_135) rfl (feq hc135_31).2 (by decide) (by decide) k) ?_
              refine own_go T12 m 148 #[.val (.long x0), .second, .val (.long x1), .second, .val (.long x2), .second, .val (.long x3), .second, iv x4, iv x5, rv b1, .val (.long (own_pk (x4 &&& (1 : Int32)) x0 x3)), .second, .val (.long (own_pk (x4 &&& (2 : Int32)) x1 x3)), .second, .val (.long (own_pk (x4 &&& (4 : Int32)) x2 x3)), .second, rv b7, iv (x5 &&& (3 : Int32)), .unset] [(.int x4)] (fun t k => XS.iload X12.here hx rfl (hb hby at_146) rfl k) ?_
              refine own_go T12 m 150 #[.val (.long x0), .second, .val (.long x1), .second, .val (.long x2), .second, .val (.long x3), .second, iv x4, iv x5, rv b1, .val (.long (own_pk (x4 &&& (1 : Int32)) x0 x3)), .second, .val (.long (own_pk (x4 &&& (2 : Int32)) x1 x3)), .second, .val (.long (own_pk (x4 &&& (4 : Int32)) x2 x3)), .second, rv b7, iv (x5 &&& (3 : Int32)), .unset] [(.int 7), (.int x4)] (fun t k => XS.bipush X12.here hx rfl (hb hby at_148) k) ?_
              refine own_go T12 m 151 #[.val (.long x0), .second, .val (.long x1), .second, .val (.long x2), .second, .val (.long x3), .second, iv x4, iv x5, rv b1, .val (.long (own_pk (x4 &&& (1 : Int32)) x0 x3)), .second, .val (.long (own_pk (x4 &&& (2 : Int32)) x1 x3)), .second, .val (.long (own_pk (x4 &&& (4 : Int32)) x2 x3)), .second, rv b7, iv (x5 &&& (3 : Int32)), .unset] [(.int (x4 &&& (7 : Int32)))] (fun t k => XS.iand X12.here hx rfl (hb hby at_150) rfl k) ?_
              by_cases hc151_33 : (x4 &&& (7 : Int32)) = (0 : Int32)
              · refine own_go T12 m 161 #[.val (.long x0), .second, .val (.long x1), .second, .val (.long x2), .second, .val (.long x3), .second, iv x4, iv x5, rv b1, .val (.long (own_pk (x4 &&& (1 : Int32)) x0 x3)), .second, .val (.long (own_pk (x4 &&& (2 : Int32)) x1 x3)), .second, .val (.long (own_pk (x4 &&& (4 : Int32)) x2 x3)), .second, rv b7, iv (x5 &&& (3 : Int32)), .unset] [] (fun t k => XS.ifYes X12.here hx rfl (pc0 := 151) (pc' := 161) rfl (hb hby at_151) rfl ((if0 _ _).trans (teq hc151_33).1) (by decide) (by decide) k) ?_
                refine own_go T12 m 162 #[.val (.long x0), .second, .val (.long x1), .second, .val (.long x2), .second, .val (.long x3), .second, iv x4, iv x5, rv b1, .val (.long (own_pk (x4 &&& (1 : Int32)) x0 x3)), .second, .val (.long (own_pk (x4 &&& (2 : Int32)) x1 x3)), .second, .val (.long (own_pk (x4 &&& (4 : Int32)) x2 x3)), .second, rv b7, iv (x5 &&& (3 : Int32)), .unset] [(.int 1)] (fun t k => XS.iconst X12.here hx rfl (hb hby at_161) k) ?_
                refine own_go T12 m 166 #[.val (.long x0), .second, .val (.long x1), .second, .val (.long x2), .second, .val (.long x3), .second, iv x4, iv x5, rv b1, .val (.long (own_pk (x4 &&& (1 : Int32)) x0 x3)), .second, .val (.long (own_pk (x4 &&& (2 : Int32)) x1 x3)), .second, .val (.long (own_pk (x4 &&& (4 : Int32)) x2 x3)), .second, rv b7, iv (x5 &&& (3 : Int32)), .unset] [(.int 1)] (fun t k => XS.goto X12.here hx rfl (pc0 := 162) (pc' := 166) rfl (hb hby at_162) (by decide) (by decide) k) ?_
                refine own_go T12 m 168 #[.val (.long x0), .second, .val (.long x1), .second, .val (.long x2), .second, .val (.long x3), .second, iv x4, iv x5, rv b1, .val (.long (own_pk (x4 &&& (1 : Int32)) x0 x3)), .second, .val (.long (own_pk (x4 &&& (2 : Int32)) x1 x3)), .second, .val (.long (own_pk (x4 &&& (4 : Int32)) x2 x3)), .second, rv b7, iv (x5 &&& (3 : Int32)), iv 1] [] (fun t k => XS.istore X12.here hx rfl (hb hby at_166) rfl rfl k) ?_
                refine own_go T12 m 170 #[.val (.long x0), .second, .val (.long x1), .second, .val (.long x2), .second, .val (.long x3), .second, iv x4, iv x5, rv b1, .val (.long (own_pk (x4 &&& (1 : Int32)) x0 x3)), .second, .val (.long (own_pk (x4 &&& (2 : Int32)) x1 x3)), .second, .val (.long (own_pk (x4 &&& (4 : Int32)) x2 x3)), .second, rv b7, iv (x5 &&& (3 : Int32)), iv 1] [(.ref b1)] (fun t k => XS.aload X12.here hx rfl (hb hby at_168) rfl rfl k) ?_
                refine own_go T12 m 172 #[.val (.long x0), .second, .val (.long x1), .second, .val (.long x2), .second, .val (.long x3), .second, iv x4, iv x5, rv b1, .val (.long (own_pk (x4 &&& (1 : Int32)) x0 x3)), .second, .val (.long (own_pk (x4 &&& (2 : Int32)) x1 x3)), .second, .val (.long (own_pk (x4 &&& (4 : Int32)) x2 x3)), .second, rv b7, iv (x5 &&& (3 : Int32)), iv 1] [(.ref b7), (.ref b1)] (fun t k => XS.aload X12.here hx rfl (hb hby at_170) rfl rfl k) ?_
                obtain ⟨_, T34, L34, X34, ⟨rfl, e34, rfl⟩, st34⟩ := own_virtual X12 hx hZ (y := (⟨"com/example/semel/semel/log/AbortedTransaction", "equals", "(Ljava/lang/Object;)Z"⟩ : MethodName)) (z := (⟨"com/example/semel/semel/log/AbortedTransaction", "equals", "(Ljava/lang/Object;)Z"⟩ : MethodName)) hown (own_w hw 15 rfl) (own_w hw 16 rfl) (notFace_of_selects (args := #[]) (mvT hZ (own_w hw 18 rfl))) (own_w hw 18 rfl) (own_w hw 17 rfl) (own_w hw 2 rfl) (own_w hw 19 rfl) (by decide) (rmEb l Z a0 hw [] b1 b7 x0 x1 x2 (own_pk (x4 &&& (1 : Int32)) x0 x3) (own_pk (x4 &&& (2 : Int32)) x1 x3) (own_pk (x4 &&& (4 : Int32)) x2 x3) T12.heap cf14 cf15 cf16 Fq12_0 Fq12_1 Fq12_2 Aq12) rfl cf13 0 (argsL := [(.ref b7)]) (rest := []) (Ls := #[.val (.long x0), .second, .val (.long x1), .second, .val (.long x2), .second, .val (.long x3), .second, iv x4, iv x5, rv b1, .val (.long (own_pk (x4 &&& (1 : Int32)) x0 x3)), .second, .val (.long (own_pk (x4 &&& (2 : Int32)) x1 x3)), .second, .val (.long (own_pk (x4 &&& (4 : Int32)) x2 x3)), .second, rv b7, iv (x5 &&& (3 : Int32)), iv 1]) (by rw [hml]; rfl) (lenOf pd__Ljava_lang_Object__Z rfl) rfl rfl (Nat.le_of_eq rfl) (hb hby at_172) (by decide) (by decide) (by decide) (by decide)
                replace X34 := own_nil X34
                refine own_go T34 m 175 #[.val (.long x0), .second, .val (.long x1), .second, .val (.long x2), .second, .val (.long x3), .second, iv x4, iv x5, rv b1, .val (.long (own_pk (x4 &&& (1 : Int32)) x0 x3)), .second, .val (.long (own_pk (x4 &&& (2 : Int32)) x1 x3)), .second, .val (.long (own_pk (x4 &&& (4 : Int32)) x2 x3)), .second, rv b7, iv (x5 &&& (3 : Int32)), iv 1] [(.int (own_eq x0 x1 x2 (own_pk (x4 &&& (1 : Int32)) x0 x3) (own_pk (x4 &&& (2 : Int32)) x1 x3) (own_pk (x4 &&& (4 : Int32)) x2 x3)))] (st34) ?_
                rw [show (own_eq x0 x1 x2 (own_pk (x4 &&& (1 : Int32)) x0 x3) (own_pk (x4 &&& (2 : Int32)) x1 x3) (own_pk (x4 &&& (4 : Int32)) x2 x3)) = (1 : Int32) from by rw [own_exp]; simp [hc151_33]]
                refine own_go T34 m 177 #[.val (.long x0), .second, .val (.long x1), .second, .val (.long x2), .second, .val (.long x3), .second, iv x4, iv x5, rv b1, .val (.long (own_pk (x4 &&& (1 : Int32)) x0 x3)), .second, .val (.long (own_pk (x4 &&& (2 : Int32)) x1 x3)), .second, .val (.long (own_pk (x4 &&& (4 : Int32)) x2 x3)), .second, rv b7, iv (x5 &&& (3 : Int32)), iv 1] [(.int 1), (.int 1)] (fun t k => XS.iload X34.here hx rfl (hb hby at_175) rfl k) ?_
                refine own_go T34 m 180 #[.val (.long x0), .second, .val (.long x1), .second, .val (.long x2), .second, .val (.long x3), .second, iv x4, iv x5, rv b1, .val (.long (own_pk (x4 &&& (1 : Int32)) x0 x3)), .second, .val (.long (own_pk (x4 &&& (2 : Int32)) x1 x3)), .second, .val (.long (own_pk (x4 &&& (4 : Int32)) x2 x3)), .second, rv b7, iv (x5 &&& (3 : Int32)), iv 1] [] (fun t k => XS.icmpNo X34.here hx rfl (hb hby at_177) rfl (teq (by decide)).2 k) ?_
                refine own_go T34 m 182 #[.val (.long x0), .second, .val (.long x1), .second, .val (.long x2), .second, .val (.long x3), .second, iv x4, iv x5, rv b1, .val (.long (own_pk (x4 &&& (1 : Int32)) x0 x3)), .second, .val (.long (own_pk (x4 &&& (2 : Int32)) x1 x3)), .second, .val (.long (own_pk (x4 &&& (4 : Int32)) x2 x3)), .second, rv b7, iv (x5 &&& (3 : Int32)), iv 1] [(.ref b7)] (fun t k => XS.aload X34.here hx rfl (hb hby at_180) rfl rfl k) ?_
                refine own_go T34 m 184 #[.val (.long x0), .second, .val (.long x1), .second, .val (.long x2), .second, .val (.long x3), .second, iv x4, iv x5, rv b1, .val (.long (own_pk (x4 &&& (1 : Int32)) x0 x3)), .second, .val (.long (own_pk (x4 &&& (2 : Int32)) x1 x3)), .second, .val (.long (own_pk (x4 &&& (4 : Int32)) x2 x3)), .second, rv b7, iv (x5 &&& (3 : Int32)), iv 1] [(.ref b1), (.ref b7)] (fun t k => XS.aload X34.here hx rfl (hb hby at_182) rfl rfl k) ?_
                obtain ⟨_, T35, L35, X35, ⟨rfl, e35, rfl⟩, st35⟩ := own_virtual X34 hx hZ (y := (⟨"com/example/semel/semel/log/AbortedTransaction", "equals", "(Ljava/lang/Object;)Z"⟩ : MethodName)) (z := (⟨"com/example/semel/semel/log/AbortedTransaction", "equals", "(Ljava/lang/Object;)Z"⟩ : MethodName)) hown (own_w hw 15 rfl) (own_w hw 16 rfl) (notFace_of_selects (args := #[]) (mvT hZ (own_w hw 18 rfl))) (own_w hw 18 rfl) (own_w hw 17 rfl) (own_w hw 2 rfl) (own_w hw 19 rfl) (by decide) (rmEb l Z a0 hw [] b7 b1 (own_pk (x4 &&& (1 : Int32)) x0 x3) (own_pk (x4 &&& (2 : Int32)) x1 x3) (own_pk (x4 &&& (4 : Int32)) x2 x3) x0 x1 x2 T12.heap Fq12_0 Fq12_1 Fq12_2 cf14 cf15 cf16 cf13) e34 Aq12 0 (argsL := [(.ref b1)]) (rest := []) (Ls := #[.val (.long x0), .second, .val (.long x1), .second, .val (.long x2), .second, .val (.long x3), .second, iv x4, iv x5, rv b1, .val (.long (own_pk (x4 &&& (1 : Int32)) x0 x3)), .second, .val (.long (own_pk (x4 &&& (2 : Int32)) x1 x3)), .second, .val (.long (own_pk (x4 &&& (4 : Int32)) x2 x3)), .second, rv b7, iv (x5 &&& (3 : Int32)), iv 1]) (by rw [hml]; rfl) (lenOf pd__Ljava_lang_Object__Z rfl) rfl rfl (Nat.le_of_eq rfl) (hb hby at_184) (by decide) (by decide) (by decide) (by decide)
                replace X35 := own_nil X35
                refine own_go T35 m 187 #[.val (.long x0), .second, .val (.long x1), .second, .val (.long x2), .second, .val (.long x3), .second, iv x4, iv x5, rv b1, .val (.long (own_pk (x4 &&& (1 : Int32)) x0 x3)), .second, .val (.long (own_pk (x4 &&& (2 : Int32)) x1 x3)), .second, .val (.long (own_pk (x4 &&& (4 : Int32)) x2 x3)), .second, rv b7, iv (x5 &&& (3 : Int32)), iv 1] [(.int (own_eq (own_pk (x4 &&& (1 : Int32)) x0 x3) (own_pk (x4 &&& (2 : Int32)) x1 x3) (own_pk (x4 &&& (4 : Int32)) x2 x3) x0 x1 x2))] (st35) ?_
                rw [show (own_eq (own_pk (x4 &&& (1 : Int32)) x0 x3) (own_pk (x4 &&& (2 : Int32)) x1 x3) (own_pk (x4 &&& (4 : Int32)) x2 x3) x0 x1 x2) = (1 : Int32) from by rw [own_eqs, own_exp]; simp [hc151_33]]
                refine own_go T35 m 189 #[.val (.long x0), .second, .val (.long x1), .second, .val (.long x2), .second, .val (.long x3), .second, iv x4, iv x5, rv b1, .val (.long (own_pk (x4 &&& (1 : Int32)) x0 x3)), .second, .val (.long (own_pk (x4 &&& (2 : Int32)) x1 x3)), .second, .val (.long (own_pk (x4 &&& (4 : Int32)) x2 x3)), .second, rv b7, iv (x5 &&& (3 : Int32)), iv 1] [(.int 1), (.int 1)] (fun t k => XS.iload X35.here hx rfl (hb hby at_187) rfl k) ?_
                refine own_go T35 m 192 #[.val (.long x0), .second, .val (.long x1), .second, .val (.long x2), .second, .val (.long x3), .second, iv x4, iv x5, rv b1, .val (.long (own_pk (x4 &&& (1 : Int32)) x0 x3)), .second, .val (.long (own_pk (x4 &&& (2 : Int32)) x1 x3)), .second, .val (.long (own_pk (x4 &&& (4 : Int32)) x2 x3)), .second, rv b7, iv (x5 &&& (3 : Int32)), iv 1] [] (fun t k => XS.icmpNo X35.here hx rfl (hb hby at_189) rfl (teq (by decide)).2 k) ?_
                refine own_go T35 m 193 #[.val (.long x0), .second, .val (.long x1), .second, .val (.long x2), .second, .val (.long x3), .second, iv x4, iv x5, rv b1, .val (.long (own_pk (x4 &&& (1 : Int32)) x0 x3)), .second, .val (.long (own_pk (x4 &&& (2 : Int32)) x1 x3)), .second, .val (.long (own_pk (x4 &&& (4 : Int32)) x2 x3)), .second, rv b7, iv (x5 &&& (3 : Int32)), iv 1] [(.int 1)] (fun t k => XS.iconst X35.here hx rfl (hb hby at_192) k) ?_
                refine own_go T35 m 197 #[.val (.long x0), .second, .val (.long x1), .second, .val (.long x2), .second, .val (.long x3), .second, iv x4, iv x5, rv b1, .val (.long (own_pk (x4 &&& (1 : Int32)) x0 x3)), .second, .val (.long (own_pk (x4 &&& (2 : Int32)) x1 x3)), .second, .val (.long (own_pk (x4 &&& (4 : Int32)) x2 x3)), .second, rv b7, iv (x5 &&& (3 : Int32)), iv 1] [(.int 1)] (fun t k => XS.goto X35.here hx rfl (pc0 := 193) (pc' := 197) rfl (hb hby at_193) (by decide) (by decide) k) ?_
                refine own_retZ X35 hx hlk hret (by decide) (hb hby at_197) (by decide) (by decide) ?_
                exact ⟨rfl, N12⟩
              · refine own_go T12 m 154 #[.val (.long x0), .second, .val (.long x1), .second, .val (.long x2), .second, .val (.long x3), .second, iv x4, iv x5, rv b1, .val (.long (own_pk (x4 &&& (1 : Int32)) x0 x3)), .second, .val (.long (own_pk (x4 &&& (2 : Int32)) x1 x3)), .second, .val (.long (own_pk (x4 &&& (4 : Int32)) x2 x3)), .second, rv b7, iv (x5 &&& (3 : Int32)), .unset] [] (fun t k => XS.ifNo X12.here hx rfl (hb hby at_151) rfl ((if0 _ _).trans (feq hc151_33).1) k) ?_
                refine own_go T12 m 156 #[.val (.long x0), .second, .val (.long x1), .second, .val (.long x2), .second, .val (.long x3), .second, iv x4, iv x5, rv b1, .val (.long (own_pk (x4 &&& (1 : Int32)) x0 x3)), .second, .val (.long (own_pk (x4 &&& (2 : Int32)) x1 x3)), .second, .val (.long (own_pk (x4 &&& (4 : Int32)) x2 x3)), .second, rv b7, iv (x5 &&& (3 : Int32)), .unset] [(.long x3)] (fun t k => XS.lload X12.here hx rfl (hb hby at_154) rfl k) ?_
                refine own_go T12 m 157 #[.val (.long x0), .second, .val (.long x1), .second, .val (.long x2), .second, .val (.long x3), .second, iv x4, iv x5, rv b1, .val (.long (own_pk (x4 &&& (1 : Int32)) x0 x3)), .second, .val (.long (own_pk (x4 &&& (2 : Int32)) x1 x3)), .second, .val (.long (own_pk (x4 &&& (4 : Int32)) x2 x3)), .second, rv b7, iv (x5 &&& (3 : Int32)), .unset] [(.long 0), (.long x3)] (fun t k => XS.lconst X12.here hx rfl (hb hby at_156) k) ?_
                refine own_go T12 m 158 #[.val (.long x0), .second, .val (.long x1), .second, .val (.long x2), .second, .val (.long x3), .second, iv x4, iv x5, rv b1, .val (.long (own_pk (x4 &&& (1 : Int32)) x0 x3)), .second, .val (.long (own_pk (x4 &&& (2 : Int32)) x1 x3)), .second, .val (.long (own_pk (x4 &&& (4 : Int32)) x2 x3)), .second, rv b7, iv (x5 &&& (3 : Int32)), .unset] [(.int (lcmpW x3 (0 : Int64)))] (fun t k => XS.lcmp X12.here hx rfl (hb hby at_157) rfl k) ?_
                by_cases hc158_36 : x3 = (0 : Int64)
                · refine own_go T12 m 161 #[.val (.long x0), .second, .val (.long x1), .second, .val (.long x2), .second, .val (.long x3), .second, iv x4, iv x5, rv b1, .val (.long (own_pk (x4 &&& (1 : Int32)) x0 x3)), .second, .val (.long (own_pk (x4 &&& (2 : Int32)) x1 x3)), .second, .val (.long (own_pk (x4 &&& (4 : Int32)) x2 x3)), .second, rv b7, iv (x5 &&& (3 : Int32)), .unset] [] (fun t k => XS.ifNo X12.here hx rfl (hb hby at_158) rfl ((if0 _ _).trans (teq ((lw_eq x3 (0 : Int64)).mpr hc158_36)).2) k) ?_
                  refine own_go T12 m 162 #[.val (.long x0), .second, .val (.long x1), .second, .val (.long x2), .second, .val (.long x3), .second, iv x4, iv x5, rv b1, .val (.long (own_pk (x4 &&& (1 : Int32)) x0 x3)), .second, .val (.long (own_pk (x4 &&& (2 : Int32)) x1 x3)), .second, .val (.long (own_pk (x4 &&& (4 : Int32)) x2 x3)), .second, rv b7, iv (x5 &&& (3 : Int32)), .unset] [(.int 1)] (fun t k => XS.iconst X12.here hx rfl (hb hby at_161) k) ?_
                  refine own_go T12 m 166 #[.val (.long x0), .second, .val (.long x1), .second, .val (.long x2), .second, .val (.long x3), .second, iv x4, iv x5, rv b1, .val (.long (own_pk (x4 &&& (1 : Int32)) x0 x3)), .second, .val (.long (own_pk (x4 &&& (2 : Int32)) x1 x3)), .second, .val (.long (own_pk (x4 &&& (4 : Int32)) x2 x3)), .second, rv b7, iv (x5 &&& (3 : Int32)), .unset] [(.int 1)] (fun t k => XS.goto X12.here hx rfl (pc0 := 162) (pc' := 166) rfl (hb hby at_162) (by decide) (by decide) k) ?_
                  refine own_go T12 m 168 #[.val (.long x0), .second, .val (.long x1), .second, .val (.long x2), .second, .val (.long x3), .second, iv x4, iv x5, rv b1, .val (.long (own_pk (x4 &&& (1 : Int32)) x0 x3)), .second, .val (.long (own_pk (x4 &&& (2 : Int32)) x1 x3)), .second, .val (.long (own_pk (x4 &&& (4 : Int32)) x2 x3)), .second, rv b7, iv (x5 &&& (3 : Int32)), iv 1] [] (fun t k => XS.istore X12.here hx rfl (hb hby at_166) rfl rfl k) ?_
                  refine own_go T12 m 170 #[.val (.long x0), .second, .val (.long x1), .second, .val (.long x2), .second, .val (.long x3), .second, iv x4, iv x5, rv b1, .val (.long (own_pk (x4 &&& (1 : Int32)) x0 x3)), .second, .val (.long (own_pk (x4 &&& (2 : Int32)) x1 x3)), .second, .val (.long (own_pk (x4 &&& (4 : Int32)) x2 x3)), .second, rv b7, iv (x5 &&& (3 : Int32)), iv 1] [(.ref b1)] (fun t k => XS.aload X12.here hx rfl (hb hby at_168) rfl rfl k) ?_
                  refine own_go T12 m 172 #[.val (.long x0), .second, .val (.long x1), .second, .val (.long x2), .second, .val (.long x3), .second, iv x4, iv x5, rv b1, .val (.long (own_pk (x4 &&& (1 : Int32)) x0 x3)), .second, .val (.long (own_pk (x4 &&& (2 : Int32)) x1 x3)), .second, .val (.long (own_pk (x4 &&& (4 : Int32)) x2 x3)), .second, rv b7, iv (x5 &&& (3 : Int32)), iv 1] [(.ref b7), (.ref b1)] (fun t k => XS.aload X12.here hx rfl (hb hby at_170) rfl rfl k) ?_
                  obtain ⟨_, T37, L37, X37, ⟨rfl, e37, rfl⟩, st37⟩ := own_virtual X12 hx hZ (y := (⟨"com/example/semel/semel/log/AbortedTransaction", "equals", "(Ljava/lang/Object;)Z"⟩ : MethodName)) (z := (⟨"com/example/semel/semel/log/AbortedTransaction", "equals", "(Ljava/lang/Object;)Z"⟩ : MethodName)) hown (own_w hw 15 rfl) (own_w hw 16 rfl) (notFace_of_selects (args := #[]) (mvT hZ (own_w hw 18 rfl))) (own_w hw 18 rfl) (own_w hw 17 rfl) (own_w hw 2 rfl) (own_w hw 19 rfl) (by decide) (rmEb l Z a0 hw [] b1 b7 x0 x1 x2 (own_pk (x4 &&& (1 : Int32)) x0 x3) (own_pk (x4 &&& (2 : Int32)) x1 x3) (own_pk (x4 &&& (4 : Int32)) x2 x3) T12.heap cf14 cf15 cf16 Fq12_0 Fq12_1 Fq12_2 Aq12) rfl cf13 0 (argsL := [(.ref b7)]) (rest := []) (Ls := #[.val (.long x0), .second, .val (.long x1), .second, .val (.long x2), .second, .val (.long x3), .second, iv x4, iv x5, rv b1, .val (.long (own_pk (x4 &&& (1 : Int32)) x0 x3)), .second, .val (.long (own_pk (x4 &&& (2 : Int32)) x1 x3)), .second, .val (.long (own_pk (x4 &&& (4 : Int32)) x2 x3)), .second, rv b7, iv (x5 &&& (3 : Int32)), iv 1]) (by rw [hml]; rfl) (lenOf pd__Ljava_lang_Object__Z rfl) rfl rfl (Nat.le_of_eq rfl) (hb hby at_172) (by decide) (by decide) (by decide) (by decide)
                  replace X37 := own_nil X37
                  refine own_go T37 m 175 #[.val (.long x0), .second, .val (.long x1), .second, .val (.long x2), .second, .val (.long x3), .second, iv x4, iv x5, rv b1, .val (.long (own_pk (x4 &&& (1 : Int32)) x0 x3)), .second, .val (.long (own_pk (x4 &&& (2 : Int32)) x1 x3)), .second, .val (.long (own_pk (x4 &&& (4 : Int32)) x2 x3)), .second, rv b7, iv (x5 &&& (3 : Int32)), iv 1] [(.int (own_eq x0 x1 x2 (own_pk (x4 &&& (1 : Int32)) x0 x3) (own_pk (x4 &&& (2 : Int32)) x1 x3) (own_pk (x4 &&& (4 : Int32)) x2 x3)))] (st37) ?_
                  rw [show (own_eq x0 x1 x2 (own_pk (x4 &&& (1 : Int32)) x0 x3) (own_pk (x4 &&& (2 : Int32)) x1 x3) (own_pk (x4 &&& (4 : Int32)) x2 x3)) = (1 : Int32) from by rw [own_exp]; simp [hc151_33, hc158_36]]
                  refine own_go T37 m 177 #[.val (.long x0), .second, .val (.long x1), .second, .val (.long x2), .second, .val (.long x3), .second, iv x4, iv x5, rv b1, .val (.long (own_pk (x4 &&& (1 : Int32)) x0 x3)), .second, .val (.long (own_pk (x4 &&& (2 : Int32)) x1 x3)), .second, .val (.long (own_pk (x4 &&& (4 : Int32)) x2 x3)), .second, rv b7, iv (x5 &&& (3 : Int32)), iv 1] [(.int 1), (.int 1)] (fun t k => XS.iload X37.here hx rfl (hb hby at_175) rfl k) ?_
                  refine own_go T37 m 180 #[.val (.long x0), .second, .val (.long x1), .second, .val (.long x2), .second, .val (.long x3), .second, iv x4, iv x5, rv b1, .val (.long (own_pk (x4 &&& (1 : Int32)) x0 x3)), .second, .val (.long (own_pk (x4 &&& (2 : Int32)) x1 x3)), .second, .val (.long (own_pk (x4 &&& (4 : Int32)) x2 x3)), .second, rv b7, iv (x5 &&& (3 : Int32)), iv 1] [] (fun t k => XS.icmpNo X37.here hx rfl (hb hby at_177) rfl (teq (by decide)).2 k) ?_
                  refine own_go T37 m 182 #[.val (.long x0), .second, .val (.long x1), .second, .val (.long x2), .second, .val (.long x3), .second, iv x4, iv x5, rv b1, .val (.long (own_pk (x4 &&& (1 : Int32)) x0 x3)), .second, .val (.long (own_pk (x4 &&& (2 : Int32)) x1 x3)), .second, .val (.long (own_pk (x4 &&& (4 : Int32)) x2 x3)), .second, rv b7, iv (x5 &&& (3 : Int32)), iv 1] [(.ref b7)] (fun t k => XS.aload X37.here hx rfl (hb hby at_180) rfl rfl k) ?_
                  refine own_go T37 m 184 #[.val (.long x0), .second, .val (.long x1), .second, .val (.long x2), .second, .val (.long x3), .second, iv x4, iv x5, rv b1, .val (.long (own_pk (x4 &&& (1 : Int32)) x0 x3)), .second, .val (.long (own_pk (x4 &&& (2 : Int32)) x1 x3)), .second, .val (.long (own_pk (x4 &&& (4 : Int32)) x2 x3)), .second, rv b7, iv (x5 &&& (3 : Int32)), iv 1] [(.ref b1), (.ref b7)] (fun t k => XS.aload X37.here hx rfl (hb hby at_182) rfl rfl k) ?_
                  obtain ⟨_, T38, L38, X38, ⟨rfl, e38, rfl⟩, st38⟩ := own_virtual X37 hx hZ (y := (⟨"com/example/semel/semel/log/AbortedTransaction", "equals", "(Ljava/lang/Object;)Z"⟩ : MethodName)) (z := (⟨"com/example/semel/semel/log/AbortedTransaction", "equals", "(Ljava/lang/Object;)Z"⟩ : MethodName)) hown (own_w hw 15 rfl) (own_w hw 16 rfl) (notFace_of_selects (args := #[]) (mvT hZ (own_w hw 18 rfl))) (own_w hw 18 rfl) (own_w hw 17 rfl) (own_w hw 2 rfl) (own_w hw 19 rfl) (by decide) (rmEb l Z a0 hw [] b7 b1 (own_pk (x4 &&& (1 : Int32)) x0 x3) (own_pk (x4 &&& (2 : Int32)) x1 x3) (own_pk (x4 &&& (4 : Int32)) x2 x3) x0 x1 x2 T12.heap Fq12_0 Fq12_1 Fq12_2 cf14 cf15 cf16 cf13) e37 Aq12 0 (argsL := [(.ref b1)]) (rest := []) (Ls := #[.val (.long x0), .second, .val (.long x1), .second, .val (.long x2), .second, .val (.long x3), .second, iv x4, iv x5, rv b1, .val (.long (own_pk (x4 &&& (1 : Int32)) x0 x3)), .second, .val (.long (own_pk (x4 &&& (2 : Int32)) x1 x3)), .second, .val (.long (own_pk (x4 &&& (4 : Int32)) x2 x3)), .second, rv b7, iv (x5 &&& (3 : Int32)), iv 1]) (by rw [hml]; rfl) (lenOf pd__Ljava_lang_Object__Z rfl) rfl rfl (Nat.le_of_eq rfl) (hb hby at_184) (by decide) (by decide) (by decide) (by decide)
                  replace X38 := own_nil X38
                  refine own_go T38 m 187 #[.val (.long x0), .second, .val (.long x1), .second, .val (.long x2), .second, .val (.long x3), .second, iv x4, iv x5, rv b1, .val (.long (own_pk (x4 &&& (1 : Int32)) x0 x3)), .second, .val (.long (own_pk (x4 &&& (2 : Int32)) x1 x3)), .second, .val (.long (own_pk (x4 &&& (4 : Int32)) x2 x3)), .second, rv b7, iv (x5 &&& (3 : Int32)), iv 1] [(.int (own_eq (own_pk (x4 &&& (1 : Int32)) x0 x3) (own_pk (x4 &&& (2 : Int32)) x1 x3) (own_pk (x4 &&& (4 : Int32)) x2 x3) x0 x1 x2))] (st38) ?_
                  rw [show (own_eq (own_pk (x4 &&& (1 : Int32)) x0 x3) (own_pk (x4 &&& (2 : Int32)) x1 x3) (own_pk (x4 &&& (4 : Int32)) x2 x3) x0 x1 x2) = (1 : Int32) from by rw [own_eqs, own_exp]; simp [hc151_33, hc158_36]]
                  refine own_go T38 m 189 #[.val (.long x0), .second, .val (.long x1), .second, .val (.long x2), .second, .val (.long x3), .second, iv x4, iv x5, rv b1, .val (.long (own_pk (x4 &&& (1 : Int32)) x0 x3)), .second, .val (.long (own_pk (x4 &&& (2 : Int32)) x1 x3)), .second, .val (.long (own_pk (x4 &&& (4 : Int32)) x2 x3)), .second, rv b7, iv (x5 &&& (3 : Int32)), iv 1] [(.int 1), (.int 1)] (fun t k => XS.iload X38.here hx rfl (hb hby at_187) rfl k) ?_
                  refine own_go T38 m 192 #[.val (.long x0), .second, .val (.long x1), .second, .val (.long x2), .second, .val (.long x3), .second, iv x4, iv x5, rv b1, .val (.long (own_pk (x4 &&& (1 : Int32)) x0 x3)), .second, .val (.long (own_pk (x4 &&& (2 : Int32)) x1 x3)), .second, .val (.long (own_pk (x4 &&& (4 : Int32)) x2 x3)), .second, rv b7, iv (x5 &&& (3 : Int32)), iv 1] [] (fun t k => XS.icmpNo X38.here hx rfl (hb hby at_189) rfl (teq (by decide)).2 k) ?_
                  refine own_go T38 m 193 #[.val (.long x0), .second, .val (.long x1), .second, .val (.long x2), .second, .val (.long x3), .second, iv x4, iv x5, rv b1, .val (.long (own_pk (x4 &&& (1 : Int32)) x0 x3)), .second, .val (.long (own_pk (x4 &&& (2 : Int32)) x1 x3)), .second, .val (.long (own_pk (x4 &&& (4 : Int32)) x2 x3)), .second, rv b7, iv (x5 &&& (3 : Int32)), iv 1] [(.int 1)] (fun t k => XS.iconst X38.here hx rfl (hb hby at_192) k) ?_
                  refine own_go T38 m 197 #[.val (.long x0), .second, .val (.long x1), .second, .val (.long x2), .second, .val (.long x3), .second, iv x4, iv x5, rv b1, .val (.long (own_pk (x4 &&& (1 : Int32)) x0 x3)), .second, .val (.long (own_pk (x4 &&& (2 : Int32)) x1 x3)), .second, .val (.long (own_pk (x4 &&& (4 : Int32)) x2 x3)), .second, rv b7, iv (x5 &&& (3 : Int32)), iv 1] [(.int 1)] (fun t k => XS.goto X38.here hx rfl (pc0 := 193) (pc' := 197) rfl (hb hby at_193) (by decide) (by decide) k) ?_
                  refine own_retZ X38 hx hlk hret (by decide) (hb hby at_197) (by decide) (by decide) ?_
                  exact ⟨rfl, N12⟩
                · refine own_go T12 m 165 #[.val (.long x0), .second, .val (.long x1), .second, .val (.long x2), .second, .val (.long x3), .second, iv x4, iv x5, rv b1, .val (.long (own_pk (x4 &&& (1 : Int32)) x0 x3)), .second, .val (.long (own_pk (x4 &&& (2 : Int32)) x1 x3)), .second, .val (.long (own_pk (x4 &&& (4 : Int32)) x2 x3)), .second, rv b7, iv (x5 &&& (3 : Int32)), .unset] [] (fun t k => XS.ifYes X12.here hx rfl (pc0 := 158) (pc' := 165) rfl (hb hby at_158) rfl ((if0 _ _).trans (feq (mt (lw_eq x3 (0 : Int64)).mp hc158_36)).2) (by decide) (by decide) k) ?_
                  refine own_go T12 m 166 #[.val (.long x0), .second, .val (.long x1), .second, .val (.long x2), .second, .val (.long x3), .second, iv x4, iv x5, rv b1, .val (.long (own_pk (x4 &&& (1 : Int32)) x0 x3)), .second, .val (.long (own_pk (x4 &&& (2 : Int32)) x1 x3)), .second, .val (.long (own_pk (x4 &&& (4 : Int32)) x2 x3)), .second, rv b7, iv (x5 &&& (3 : Int32)), .unset] [(.int 0)] (fun t k => XS.iconst X12.here hx rfl (hb hby at_165) k) ?_
                  refine own_go T12 m 168 #[.val (.long x0), .second, .val (.long x1), .second, .val (.long x2), .second, .val (.long x3), .second, iv x4, iv x5, rv b1, .val (.long (own_pk (x4 &&& (1 : Int32)) x0 x3)), .second, .val (.long (own_pk (x4 &&& (2 : Int32)) x1 x3)), .second, .val (.long (own_pk (x4 &&& (4 : Int32)) x2 x3)), .second, rv b7, iv (x5 &&& (3 : Int32)), iv 0] [] (fun t k => XS.istore X12.here hx rfl (hb hby at_166) rfl rfl k) ?_
                  refine own_go T12 m 170 #[.val (.long x0), .second, .val (.long x1), .second, .val (.long x2), .second, .val (.long x3), .second, iv x4, iv x5, rv b1, .val (.long (own_pk (x4 &&& (1 : Int32)) x0 x3)), .second, .val (.long (own_pk (x4 &&& (2 : Int32)) x1 x3)), .second, .val (.long (own_pk (x4 &&& (4 : Int32)) x2 x3)), .second, rv b7, iv (x5 &&& (3 : Int32)), iv 0] [(.ref b1)] (fun t k => XS.aload X12.here hx rfl (hb hby at_168) rfl rfl k) ?_
                  refine own_go T12 m 172 #[.val (.long x0), .second, .val (.long x1), .second, .val (.long x2), .second, .val (.long x3), .second, iv x4, iv x5, rv b1, .val (.long (own_pk (x4 &&& (1 : Int32)) x0 x3)), .second, .val (.long (own_pk (x4 &&& (2 : Int32)) x1 x3)), .second, .val (.long (own_pk (x4 &&& (4 : Int32)) x2 x3)), .second, rv b7, iv (x5 &&& (3 : Int32)), iv 0] [(.ref b7), (.ref b1)] (fun t k => XS.aload X12.here hx rfl (hb hby at_170) rfl rfl k) ?_
                  obtain ⟨_, T39, L39, X39, ⟨rfl, e39, rfl⟩, st39⟩ := own_virtual X12 hx hZ (y := (⟨"com/example/semel/semel/log/AbortedTransaction", "equals", "(Ljava/lang/Object;)Z"⟩ : MethodName)) (z := (⟨"com/example/semel/semel/log/AbortedTransaction", "equals", "(Ljava/lang/Object;)Z"⟩ : MethodName)) hown (own_w hw 15 rfl) (own_w hw 16 rfl) (notFace_of_selects (args := #[]) (mvT hZ (own_w hw 18 rfl))) (own_w hw 18 rfl) (own_w hw 17 rfl) (own_w hw 2 rfl) (own_w hw 19 rfl) (by decide) (rmEb l Z a0 hw [] b1 b7 x0 x1 x2 (own_pk (x4 &&& (1 : Int32)) x0 x3) (own_pk (x4 &&& (2 : Int32)) x1 x3) (own_pk (x4 &&& (4 : Int32)) x2 x3) T12.heap cf14 cf15 cf16 Fq12_0 Fq12_1 Fq12_2 Aq12) rfl cf13 0 (argsL := [(.ref b7)]) (rest := []) (Ls := #[.val (.long x0), .second, .val (.long x1), .second, .val (.long x2), .second, .val (.long x3), .second, iv x4, iv x5, rv b1, .val (.long (own_pk (x4 &&& (1 : Int32)) x0 x3)), .second, .val (.long (own_pk (x4 &&& (2 : Int32)) x1 x3)), .second, .val (.long (own_pk (x4 &&& (4 : Int32)) x2 x3)), .second, rv b7, iv (x5 &&& (3 : Int32)), iv 0]) (by rw [hml]; rfl) (lenOf pd__Ljava_lang_Object__Z rfl) rfl rfl (Nat.le_of_eq rfl) (hb hby at_172) (by decide) (by decide) (by decide) (by decide)
                  replace X39 := own_nil X39
                  refine own_go T39 m 175 #[.val (.long x0), .second, .val (.long x1), .second, .val (.long x2), .second, .val (.long x3), .second, iv x4, iv x5, rv b1, .val (.long (own_pk (x4 &&& (1 : Int32)) x0 x3)), .second, .val (.long (own_pk (x4 &&& (2 : Int32)) x1 x3)), .second, .val (.long (own_pk (x4 &&& (4 : Int32)) x2 x3)), .second, rv b7, iv (x5 &&& (3 : Int32)), iv 0] [(.int (own_eq x0 x1 x2 (own_pk (x4 &&& (1 : Int32)) x0 x3) (own_pk (x4 &&& (2 : Int32)) x1 x3) (own_pk (x4 &&& (4 : Int32)) x2 x3)))] (st39) ?_
                  rw [show (own_eq x0 x1 x2 (own_pk (x4 &&& (1 : Int32)) x0 x3) (own_pk (x4 &&& (2 : Int32)) x1 x3) (own_pk (x4 &&& (4 : Int32)) x2 x3)) = (0 : Int32) from by rw [own_exp]; simp [hc151_33, hc158_36]]
                  refine own_go T39 m 177 #[.val (.long x0), .second, .val (.long x1), .second, .val (.long x2), .second, .val (.long x3), .second, iv x4, iv x5, rv b1, .val (.long (own_pk (x4 &&& (1 : Int32)) x0 x3)), .second, .val (.long (own_pk (x4 &&& (2 : Int32)) x1 x3)), .second, .val (.long (own_pk (x4 &&& (4 : Int32)) x2 x3)), .second, rv b7, iv (x5 &&& (3 : Int32)), iv 0] [(.int 0), (.int 0)] (fun t k => XS.iload X39.here hx rfl (hb hby at_175) rfl k) ?_
                  refine own_go T39 m 180 #[.val (.long x0), .second, .val (.long x1), .second, .val (.long x2), .second, .val (.long x3), .second, iv x4, iv x5, rv b1, .val (.long (own_pk (x4 &&& (1 : Int32)) x0 x3)), .second, .val (.long (own_pk (x4 &&& (2 : Int32)) x1 x3)), .second, .val (.long (own_pk (x4 &&& (4 : Int32)) x2 x3)), .second, rv b7, iv (x5 &&& (3 : Int32)), iv 0] [] (fun t k => XS.icmpNo X39.here hx rfl (hb hby at_177) rfl (teq (by decide)).2 k) ?_
                  refine own_go T39 m 182 #[.val (.long x0), .second, .val (.long x1), .second, .val (.long x2), .second, .val (.long x3), .second, iv x4, iv x5, rv b1, .val (.long (own_pk (x4 &&& (1 : Int32)) x0 x3)), .second, .val (.long (own_pk (x4 &&& (2 : Int32)) x1 x3)), .second, .val (.long (own_pk (x4 &&& (4 : Int32)) x2 x3)), .second, rv b7, iv (x5 &&& (3 : Int32)), iv 0] [(.ref b7)] (fun t k => XS.aload X39.here hx rfl (hb hby at_180) rfl rfl k) ?_
                  refine own_go T39 m 184 #[.val (.long x0), .second, .val (.long x1), .second, .val (.long x2), .second, .val (.long x3), .second, iv x4, iv x5, rv b1, .val (.long (own_pk (x4 &&& (1 : Int32)) x0 x3)), .second, .val (.long (own_pk (x4 &&& (2 : Int32)) x1 x3)), .second, .val (.long (own_pk (x4 &&& (4 : Int32)) x2 x3)), .second, rv b7, iv (x5 &&& (3 : Int32)), iv 0] [(.ref b1), (.ref b7)] (fun t k => XS.aload X39.here hx rfl (hb hby at_182) rfl rfl k) ?_
                  obtain ⟨_, T40, L40, X40, ⟨rfl, e40, rfl⟩, st40⟩ := own_virtual X39 hx hZ (y := (⟨"com/example/semel/semel/log/AbortedTransaction", "equals", "(Ljava/lang/Object;)Z"⟩ : MethodName)) (z := (⟨"com/example/semel/semel/log/AbortedTransaction", "equals", "(Ljava/lang/Object;)Z"⟩ : MethodName)) hown (own_w hw 15 rfl) (own_w hw 16 rfl) (notFace_of_selects (args := #[]) (mvT hZ (own_w hw 18 rfl))) (own_w hw 18 rfl) (own_w hw 17 rfl) (own_w hw 2 rfl) (own_w hw 19 rfl) (by decide) (rmEb l Z a0 hw [] b7 b1 (own_pk (x4 &&& (1 : Int32)) x0 x3) (own_pk (x4 &&& (2 : Int32)) x1 x3) (own_pk (x4 &&& (4 : Int32)) x2 x3) x0 x1 x2 T12.heap Fq12_0 Fq12_1 Fq12_2 cf14 cf15 cf16 cf13) e39 Aq12 0 (argsL := [(.ref b1)]) (rest := []) (Ls := #[.val (.long x0), .second, .val (.long x1), .second, .val (.long x2), .second, .val (.long x3), .second, iv x4, iv x5, rv b1, .val (.long (own_pk (x4 &&& (1 : Int32)) x0 x3)), .second, .val (.long (own_pk (x4 &&& (2 : Int32)) x1 x3)), .second, .val (.long (own_pk (x4 &&& (4 : Int32)) x2 x3)), .second, rv b7, iv (x5 &&& (3 : Int32)), iv 0]) (by rw [hml]; rfl) (lenOf pd__Ljava_lang_Object__Z rfl) rfl rfl (Nat.le_of_eq rfl) (hb hby at_184) (by decide) (by decide) (by decide) (by decide)
                  replace X40 := own_nil X40
                  refine own_go T40 m 187 #[.val (.long x0), .second, .val (.long x1), .second, .val (.long x2), .second, .val (.long x3), .second, iv x4, iv x5, rv b1, .val (.long (own_pk (x4 &&& (1 : Int32)) x0 x3)), .second, .val (.long (own_pk (x4 &&& (2 : Int32)) x1 x3)), .second, .val (.long (own_pk (x4 &&& (4 : Int32)) x2 x3)), .second, rv b7, iv (x5 &&& (3 : Int32)), iv 0] [(.int (own_eq (own_pk (x4 &&& (1 : Int32)) x0 x3) (own_pk (x4 &&& (2 : Int32)) x1 x3) (own_pk (x4 &&& (4 : Int32)) x2 x3) x0 x1 x2))] (st40) ?_
                  rw [show (own_eq (own_pk (x4 &&& (1 : Int32)) x0 x3) (own_pk (x4 &&& (2 : Int32)) x1 x3) (own_pk (x4 &&& (4 : Int32)) x2 x3) x0 x1 x2) = (0 : Int32) from by rw [own_eqs, own_exp]; simp [hc151_33, hc158_36]]
                  refine own_go T40 m 189 #[.val (.long x0), .second, .val (.long x1), .second, .val (.long x2), .second, .val (.long x3), .second, iv x4, iv x5, rv b1, .val (.long (own_pk (x4 &&& (1 : Int32)) x0 x3)), .second, .val (.long (own_pk (x4 &&& (2 : Int32)) x1 x3)), .second, .val (.long (own_pk (x4 &&& (4 : Int32)) x2 x3)), .second, rv b7, iv (x5 &&& (3 : Int32)), iv 0] [(.int 0), (.int 0)] (fun t k => XS.iload X40.here hx rfl (hb hby at_187) rfl k) ?_
                  refine own_go T40 m 192 #[.val (.long x0), .second, .val (.long x1), .second, .val (.long x2), .second, .val (.long x3), .second, iv x4, iv x5, rv b1, .val (.long (own_pk (x4 &&& (1 : Int32)) x0 x3)), .second, .val (.long (own_pk (x4 &&& (2 : Int32)) x1 x3)), .second, .val (.long (own_pk (x4 &&& (4 : Int32)) x2 x3)), .second, rv b7, iv (x5 &&& (3 : Int32)), iv 0] [] (fun t k => XS.icmpNo X40.here hx rfl (hb hby at_189) rfl (teq (by decide)).2 k) ?_
                  refine own_go T40 m 193 #[.val (.long x0), .second, .val (.long x1), .second, .val (.long x2), .second, .val (.long x3), .second, iv x4, iv x5, rv b1, .val (.long (own_pk (x4 &&& (1 : Int32)) x0 x3)), .second, .val (.long (own_pk (x4 &&& (2 : Int32)) x1 x3)), .second, .val (.long (own_pk (x4 &&& (4 : Int32)) x2 x3)), .second, rv b7, iv (x5 &&& (3 : Int32)), iv 0] [(.int 1)] (fun t k => XS.iconst X40.here hx rfl (hb hby at_192) k) ?_
                  refine own_go T40 m 197 #[.val (.long x0), .second, .val (.long x1), .second, .val (.long x2), .second, .val (.long x3), .second, iv x4, iv x5, rv b1, .val (.long (own_pk (x4 &&& (1 : Int32)) x0 x3)), .second, .val (.long (own_pk (x4 &&& (2 : Int32)) x1 x3)), .second, .val (.long (own_pk (x4 &&& (4 : Int32)) x2 x3)), .second, rv b7, iv (x5 &&& (3 : Int32)), iv 0] [(.int 1)] (fun t k => XS.goto X40.here hx rfl (pc0 := 193) (pc' := 197) rfl (hb hby at_193) (by decide) (by decide) k) ?_
                  refine own_retZ X40 hx hlk hret (by decide) (hb hby at_197) (by decide) (by decide) ?_
                  exact ⟨rfl, N12⟩
      by_cases hc51_41 : (x4 &&& (4 : Int32)) = (0 : Int32)
      · refine own_go T2 m 62 #[.val (.long x0), .second, .val (.long x1), .second, .val (.long x2), .second, .val (.long x3), .second, iv x4, iv x5, rv b1, .val (.long (own_pk (x4 &&& (1 : Int32)) x0 x3)), .second, .val (.long (own_pk (x4 &&& (2 : Int32)) x1 x3)), .second, .unset, .unset, .unset, .unset, .unset] [] (fun t k => XS.ifYes X2.here hx rfl (pc0 := 51) (pc' := 62) rfl (hb hby at_51) rfl ((if0 _ _).trans (teq hc51_41).1) (by decide) (by decide) k) ?_
        refine own_go T2 m 64 #[.val (.long x0), .second, .val (.long x1), .second, .val (.long x2), .second, .val (.long x3), .second, iv x4, iv x5, rv b1, .val (.long (own_pk (x4 &&& (1 : Int32)) x0 x3)), .second, .val (.long (own_pk (x4 &&& (2 : Int32)) x1 x3)), .second, .unset, .unset, .unset, .unset, .unset] [(.long x2)] (fun t k => XS.lload X2.here hx rfl (hb hby at_62) rfl k) ?_
        refine own_go T2 m 66 #[.val (.long x0), .second, .val (.long x1), .second, .val (.long x2), .second, .val (.long x3), .second, iv x4, iv x5, rv b1, .val (.long (own_pk (x4 &&& (1 : Int32)) x0 x3)), .second, .val (.long (own_pk (x4 &&& (2 : Int32)) x1 x3)), .second, .val (.long x2), .second, .unset, .unset, .unset] [] (fun t k => XS.lstore X2.here hx rfl (hb hby at_64) rfl rfl k) ?_
        have hpk : (own_pk (x4 &&& (4 : Int32)) x2 x3) = x2 := by simp [own_pk, hc51_41]
        rw [hpk] at seg66
        exact seg66
      · refine own_go T2 m 54 #[.val (.long x0), .second, .val (.long x1), .second, .val (.long x2), .second, .val (.long x3), .second, iv x4, iv x5, rv b1, .val (.long (own_pk (x4 &&& (1 : Int32)) x0 x3)), .second, .val (.long (own_pk (x4 &&& (2 : Int32)) x1 x3)), .second, .unset, .unset, .unset, .unset, .unset] [] (fun t k => XS.ifNo X2.here hx rfl (hb hby at_51) rfl ((if0 _ _).trans (feq hc51_41).1) k) ?_
        refine own_go T2 m 56 #[.val (.long x0), .second, .val (.long x1), .second, .val (.long x2), .second, .val (.long x3), .second, iv x4, iv x5, rv b1, .val (.long (own_pk (x4 &&& (1 : Int32)) x0 x3)), .second, .val (.long (own_pk (x4 &&& (2 : Int32)) x1 x3)), .second, .unset, .unset, .unset, .unset, .unset] [(.long x2)] (fun t k => XS.lload X2.here hx rfl (hb hby at_54) rfl k) ?_
        refine own_go T2 m 58 #[.val (.long x0), .second, .val (.long x1), .second, .val (.long x2), .second, .val (.long x3), .second, iv x4, iv x5, rv b1, .val (.long (own_pk (x4 &&& (1 : Int32)) x0 x3)), .second, .val (.long (own_pk (x4 &&& (2 : Int32)) x1 x3)), .second, .unset, .unset, .unset, .unset, .unset] [(.long x3), (.long x2)] (fun t k => XS.lload X2.here hx rfl (hb hby at_56) rfl k) ?_
        refine own_go T2 m 59 #[.val (.long x0), .second, .val (.long x1), .second, .val (.long x2), .second, .val (.long x3), .second, iv x4, iv x5, rv b1, .val (.long (own_pk (x4 &&& (1 : Int32)) x0 x3)), .second, .val (.long (own_pk (x4 &&& (2 : Int32)) x1 x3)), .second, .unset, .unset, .unset, .unset, .unset] [(.long (x2 + x3))] (fun t k => XS.ladd X2.here hx rfl (hb hby at_58) rfl k) ?_
        refine own_go T2 m 64 #[.val (.long x0), .second, .val (.long x1), .second, .val (.long x2), .second, .val (.long x3), .second, iv x4, iv x5, rv b1, .val (.long (own_pk (x4 &&& (1 : Int32)) x0 x3)), .second, .val (.long (own_pk (x4 &&& (2 : Int32)) x1 x3)), .second, .unset, .unset, .unset, .unset, .unset] [(.long (x2 + x3))] (fun t k => XS.goto X2.here hx rfl (pc0 := 59) (pc' := 64) rfl (hb hby at_59) (by decide) (by decide) k) ?_
        refine own_go T2 m 66 #[.val (.long x0), .second, .val (.long x1), .second, .val (.long x2), .second, .val (.long x3), .second, iv x4, iv x5, rv b1, .val (.long (own_pk (x4 &&& (1 : Int32)) x0 x3)), .second, .val (.long (own_pk (x4 &&& (2 : Int32)) x1 x3)), .second, .val (.long (x2 + x3)), .second, .unset, .unset, .unset] [] (fun t k => XS.lstore X2.here hx rfl (hb hby at_64) rfl rfl k) ?_
        have hpk : (own_pk (x4 &&& (4 : Int32)) x2 x3) = (x2 + x3) := by simp [own_pk, hc51_41]
        rw [hpk] at seg66
        exact seg66
    by_cases hc34_42 : (x4 &&& (2 : Int32)) = (0 : Int32)
    · refine own_go T2 m 44 #[.val (.long x0), .second, .val (.long x1), .second, .val (.long x2), .second, .val (.long x3), .second, iv x4, iv x5, rv b1, .val (.long (own_pk (x4 &&& (1 : Int32)) x0 x3)), .second, .unset, .unset, .unset, .unset, .unset, .unset, .unset] [] (fun t k => XS.ifYes X2.here hx rfl (pc0 := 34) (pc' := 44) rfl (hb hby at_34) rfl ((if0 _ _).trans (teq hc34_42).1) (by decide) (by decide) k) ?_
      refine own_go T2 m 45 #[.val (.long x0), .second, .val (.long x1), .second, .val (.long x2), .second, .val (.long x3), .second, iv x4, iv x5, rv b1, .val (.long (own_pk (x4 &&& (1 : Int32)) x0 x3)), .second, .unset, .unset, .unset, .unset, .unset, .unset, .unset] [(.long x1)] (fun t k => XS.lloadN X2.here hx rfl (hb hby at_44) rfl k) ?_
      refine own_go T2 m 47 #[.val (.long x0), .second, .val (.long x1), .second, .val (.long x2), .second, .val (.long x3), .second, iv x4, iv x5, rv b1, .val (.long (own_pk (x4 &&& (1 : Int32)) x0 x3)), .second, .val (.long x1), .second, .unset, .unset, .unset, .unset, .unset] [] (fun t k => XS.lstore X2.here hx rfl (hb hby at_45) rfl rfl k) ?_
      have hpk : (own_pk (x4 &&& (2 : Int32)) x1 x3) = x1 := by simp [own_pk, hc34_42]
      rw [hpk] at seg47
      exact seg47
    · refine own_go T2 m 37 #[.val (.long x0), .second, .val (.long x1), .second, .val (.long x2), .second, .val (.long x3), .second, iv x4, iv x5, rv b1, .val (.long (own_pk (x4 &&& (1 : Int32)) x0 x3)), .second, .unset, .unset, .unset, .unset, .unset, .unset, .unset] [] (fun t k => XS.ifNo X2.here hx rfl (hb hby at_34) rfl ((if0 _ _).trans (feq hc34_42).1) k) ?_
      refine own_go T2 m 38 #[.val (.long x0), .second, .val (.long x1), .second, .val (.long x2), .second, .val (.long x3), .second, iv x4, iv x5, rv b1, .val (.long (own_pk (x4 &&& (1 : Int32)) x0 x3)), .second, .unset, .unset, .unset, .unset, .unset, .unset, .unset] [(.long x1)] (fun t k => XS.lloadN X2.here hx rfl (hb hby at_37) rfl k) ?_
      refine own_go T2 m 40 #[.val (.long x0), .second, .val (.long x1), .second, .val (.long x2), .second, .val (.long x3), .second, iv x4, iv x5, rv b1, .val (.long (own_pk (x4 &&& (1 : Int32)) x0 x3)), .second, .unset, .unset, .unset, .unset, .unset, .unset, .unset] [(.long x3), (.long x1)] (fun t k => XS.lload X2.here hx rfl (hb hby at_38) rfl k) ?_
      refine own_go T2 m 41 #[.val (.long x0), .second, .val (.long x1), .second, .val (.long x2), .second, .val (.long x3), .second, iv x4, iv x5, rv b1, .val (.long (own_pk (x4 &&& (1 : Int32)) x0 x3)), .second, .unset, .unset, .unset, .unset, .unset, .unset, .unset] [(.long (x1 + x3))] (fun t k => XS.ladd X2.here hx rfl (hb hby at_40) rfl k) ?_
      refine own_go T2 m 45 #[.val (.long x0), .second, .val (.long x1), .second, .val (.long x2), .second, .val (.long x3), .second, iv x4, iv x5, rv b1, .val (.long (own_pk (x4 &&& (1 : Int32)) x0 x3)), .second, .unset, .unset, .unset, .unset, .unset, .unset, .unset] [(.long (x1 + x3))] (fun t k => XS.goto X2.here hx rfl (pc0 := 41) (pc' := 45) rfl (hb hby at_41) (by decide) (by decide) k) ?_
      refine own_go T2 m 47 #[.val (.long x0), .second, .val (.long x1), .second, .val (.long x2), .second, .val (.long x3), .second, iv x4, iv x5, rv b1, .val (.long (own_pk (x4 &&& (1 : Int32)) x0 x3)), .second, .val (.long (x1 + x3)), .second, .unset, .unset, .unset, .unset, .unset] [] (fun t k => XS.lstore X2.here hx rfl (hb hby at_45) rfl rfl k) ?_
      have hpk : (own_pk (x4 &&& (2 : Int32)) x1 x3) = (x1 + x3) := by simp [own_pk, hc34_42]
      rw [hpk] at seg47
      exact seg47
  by_cases hc17_43 : (x4 &&& (1 : Int32)) = (0 : Int32)
  · refine own_go T2 m 27 #[.val (.long x0), .second, .val (.long x1), .second, .val (.long x2), .second, .val (.long x3), .second, iv x4, iv x5, rv b1, .unset, .unset, .unset, .unset, .unset, .unset, .unset, .unset, .unset] [] (fun t k => XS.ifYes X2.here hx rfl (pc0 := 17) (pc' := 27) rfl (hb hby at_17) rfl ((if0 _ _).trans (teq hc17_43).1) (by decide) (by decide) k) ?_
    refine own_go T2 m 28 #[.val (.long x0), .second, .val (.long x1), .second, .val (.long x2), .second, .val (.long x3), .second, iv x4, iv x5, rv b1, .unset, .unset, .unset, .unset, .unset, .unset, .unset, .unset, .unset] [(.long x0)] (fun t k => XS.lloadN X2.here hx rfl (hb hby at_27) rfl k) ?_
    refine own_go T2 m 30 #[.val (.long x0), .second, .val (.long x1), .second, .val (.long x2), .second, .val (.long x3), .second, iv x4, iv x5, rv b1, .val (.long x0), .second, .unset, .unset, .unset, .unset, .unset, .unset, .unset] [] (fun t k => XS.lstore X2.here hx rfl (hb hby at_28) rfl rfl k) ?_
    have hpk : (own_pk (x4 &&& (1 : Int32)) x0 x3) = x0 := by simp [own_pk, hc17_43]
    rw [hpk] at seg30
    exact seg30
  · refine own_go T2 m 20 #[.val (.long x0), .second, .val (.long x1), .second, .val (.long x2), .second, .val (.long x3), .second, iv x4, iv x5, rv b1, .unset, .unset, .unset, .unset, .unset, .unset, .unset, .unset, .unset] [] (fun t k => XS.ifNo X2.here hx rfl (hb hby at_17) rfl ((if0 _ _).trans (feq hc17_43).1) k) ?_
    refine own_go T2 m 21 #[.val (.long x0), .second, .val (.long x1), .second, .val (.long x2), .second, .val (.long x3), .second, iv x4, iv x5, rv b1, .unset, .unset, .unset, .unset, .unset, .unset, .unset, .unset, .unset] [(.long x0)] (fun t k => XS.lloadN X2.here hx rfl (hb hby at_20) rfl k) ?_
    refine own_go T2 m 23 #[.val (.long x0), .second, .val (.long x1), .second, .val (.long x2), .second, .val (.long x3), .second, iv x4, iv x5, rv b1, .unset, .unset, .unset, .unset, .unset, .unset, .unset, .unset, .unset] [(.long x3), (.long x0)] (fun t k => XS.lload X2.here hx rfl (hb hby at_21) rfl k) ?_
    refine own_go T2 m 24 #[.val (.long x0), .second, .val (.long x1), .second, .val (.long x2), .second, .val (.long x3), .second, iv x4, iv x5, rv b1, .unset, .unset, .unset, .unset, .unset, .unset, .unset, .unset, .unset] [(.long (x0 + x3))] (fun t k => XS.ladd X2.here hx rfl (hb hby at_23) rfl k) ?_
    refine own_go T2 m 28 #[.val (.long x0), .second, .val (.long x1), .second, .val (.long x2), .second, .val (.long x3), .second, iv x4, iv x5, rv b1, .unset, .unset, .unset, .unset, .unset, .unset, .unset, .unset, .unset] [(.long (x0 + x3))] (fun t k => XS.goto X2.here hx rfl (pc0 := 24) (pc' := 28) rfl (hb hby at_24) (by decide) (by decide) k) ?_
    refine own_go T2 m 30 #[.val (.long x0), .second, .val (.long x1), .second, .val (.long x2), .second, .val (.long x3), .second, iv x4, iv x5, rv b1, .val (.long (x0 + x3)), .second, .unset, .unset, .unset, .unset, .unset, .unset, .unset] [] (fun t k => XS.lstore X2.here hx rfl (hb hby at_28) rfl rfl k) ?_
    have hpk : (own_pk (x4 &&& (1 : Int32)) x0 x3) = (x0 + x3) := by simp [own_pk, hc17_43]
    rw [hpk] at seg30
    exact seg30
set_option maxRecDepth 65536 in
set_option maxHeartbeats 40000000 in
theorem comes_1 {Post : Tables → Env → Array Value → State → Outcome → State → Prop} (hpost : ∀ tb e args s v u, (limb_1_1.after args s (.returned v) u = true ∧ limb_1_2.after args s (.returned v) u = true ∧ True) → FrameEnd s (.returned v) u (Jvm.fieldLocs frame_1_writes args s ++ Jvm.arrayLocs frame_1_arrays args s ++ Jvm.staticLocs frame_1_statics s) 16 128 → Post tb e args s (.returned v) u) :
    ArmFor flags0 classFile x code maxLocals ret World_1 tables_1 room_1 Calls_1 rest_1 Pre_1 Post := by
  intro l hfl _ _ p e ha hc hk s m args below hf hA hF happ hP
  obtain ⟨hcalls, hrest, hpre⟩ := hP
  obtain ⟨-, -, -, hnamed, -, -, -, hat⟩ := (Spec.applies_iff hf).mp happ
  obtain ⟨hg, hn⟩ := and_e (Cond.before_iff.mp (show (Jvm.Cond.and given_1 narrow_1).before args s = true from hpre))
  obtain ⟨gg1, gg2⟩ := and_e hg
  obtain ⟨gg3, gg4⟩ := and_e gg2
  obtain ⟨gg5, gg6⟩ := and_e gg4
  obtain ⟨gg7, gg8⟩ := and_e gg6
  obtain ⟨gg9, gg10⟩ := and_e gg8
  obtain ⟨gg11, gg12⟩ := and_e gg10
  obtain ⟨w0, w1, w2, w3, w4, w5, rfl⟩ : ∃ w0 w1 w2 w3 w4 w5 : Value, args = #[w0, w1, w2, w3, w4, w5] := by
    have hs : args.size = 6 := by simpa [Cond.value, given_1] using gg1
    obtain ⟨L⟩ := args
    match L, hs with
    | [w0, w1, w2, w3, w4, w5], _ => exact ⟨w0, w1, w2, w3, w4, w5, rfl⟩
  have hw := fun d (hd : d ∈ tables_1) => atoms_spec (ws := Jvm.Cond.code x code maxLocals ret :: tables_1) hat d (List.mem_cons_of_mem _ hd)
  have hfit : Fit s := fun {y c} hc i hi => by
    obtain ⟨ha, rfl⟩ := Array.getElem?_eq_some_iff.mp hc
    have q := List.all_eq_true.mp ((Array.all_eq_true_iff_forall_mem.mp hF) _ (Array.getElem_mem ha)) i (List.mem_range.mpr hi)
    simpa [Array.getElem?_eq_getElem hi] using q
  obtain ⟨hsets, hown0⟩ := atoms_of _ (rest_1_c_eq ▸ (show rest_1_c.before _ s = true from hrest))
  obtain ⟨i0, ei0⟩ := isL_v gg3
  obtain rfl : w0 = (.long i0) := Option.some.inj ei0
  obtain ⟨i1, ei1⟩ := isL_v gg5
  obtain rfl : w1 = (.long i1) := Option.some.inj ei1
  obtain ⟨i2, ei2⟩ := isL_v gg7
  obtain rfl : w2 = (.long i2) := Option.some.inj ei2
  obtain ⟨i3, ei3⟩ := isL_v gg9
  obtain rfl : w3 = (.long i3) := Option.some.inj ei3
  obtain ⟨i4, ei4⟩ := is_v gg11
  obtain rfl : w4 = (.int i4) := Option.some.inj ei4
  obtain ⟨i5, ei5⟩ := is_v gg12
  obtain rfl : w5 = (.int i5) := Option.some.inj ei5
  obtain ⟨aC, cell, HC⟩ := own_cache (hsets _ (List.mem_of_getElem? (i := 2) rfl)) (hsets _ (List.mem_of_getElem? (i := 1) rfl)) (hsets _ (List.mem_of_getElem? (i := 4) rfl)) (hsets _ (List.mem_of_getElem? (i := 5) rfl))
  obtain ⟨n, o, h1, h2, h3, _, L, rfl, ⟨rfl, N⟩, hq⟩ := rm0 l s _ hw tables_1 i0 i1 i2 i3 i4 i5 aC cell s.heap s.heap.size (Nat.le_refl _) HC p e ha hc hk s m _ below hf ((Spec.applies_iff_loose hf).mp happ).1 ⟨rfl, State.Warmed39.refl s, rfl⟩ trivial
  refine ⟨n, _, h1, h2, h3, hpost _ _ _ _ _ _ ⟨Cond.after_iff.mpr rfl, Cond.after_iff.mpr (eq_i res_at (Term.int_eval (1)) rfl), trivial⟩ ⟨hq.1, hq.2.1, (hq.2.2.sift fun y hy => Or.inr (N y hy)).mono (by decide) (by decide)⟩⟩
theorem main_1_1 : Claimed_1_1 := comes_1 fun _ _ _ _ _ _ h hF => ⟨h.1, hF⟩
theorem main_1_2 : Claimed_1_2 := comes_1 fun _ _ _ _ _ _ h hF => ⟨h.2.1, hF⟩
end Jvm.Pilot.@@N@@
namespace Jvm.Pilot.@@N@@
open Jvm Jvm.ClassFile Sem Op Lib Jvm.Free Jvm.Stand Jvm.Pilot.@@N@@.Jvm.D
/-! MADE BY PROGRAM (witnessworld.py) out of the Statement's table words and the real class files: 16 classes; the members and pool entries that the words name. The judged class is class 1, her method 1. -/
namespace start1
open Jvm.ClassFile
def u (s : String) : CpInfo := .utf8 (stringToUtf16 s)
/-- a pool by its gaps: so many unusable entries, then the entry; so many at the end -/
def gap : Nat → List CpInfo → List CpInfo
  | 0, r => r
  | n + 1, r => .unusable :: gap n r
def poolList (es : List (Nat × CpInfo)) (last : Nat) : List CpInfo := es.foldr (fun e r => gap e.1 (e.2 :: r)) (gap last [])
def pool (es : List (Nat × CpInfo)) (last : Nat) : Array CpInfo := ⟨poolList es last⟩
def fileOf (pool : Array CpInfo) (this : Nat) (attrs : Array Attribute := #[]) (ms : Array MethodInfo := #[]) (fl : Nat := 33) (sup : Nat := 0) (ifs : Array Nat := #[]) (fds : Array FieldInfo := #[]) : ClassFile where
  minorVersion := 0
  majorVersion := 65
  constantPool := pool
  accessFlags := fl
  thisClass := this
  superClass := sup
  interfaces := ifs
  fields := fds
  methods := ms
  attributes := attrs
def plain (name : String) (sup : Option ClassId) : Class where
  name := name
  kind := .ordinary
  loader := none
  accessFlags := 33
  super := sup
  interfaces := #[]
  cf := none
  fields := #[]
  methods := #[]
  instanceTypes := #[]
  staticTypes := #[]
  resolved := #[]
  callSites := []
  init := .initialized
  statics := none
  mirror := none

def pool0 : Array CpInfo := pool [(5, u "<init>"), (0, u "()V"), (1, .class_ 10), (1, u "java/lang/Object")] 113

def k0c0 : Code := { maxStack := 0, maxLocals := 1, code := object_method_1_code, exceptionTable := #[], attributes := #[] }
def k0m0 : Method := { name := "<init>", desc := "()V", sig := { parameters := [], returnType := none }, accessFlags := 1, code := some k0c0 }
/-- java/lang/Object -/
def k0 : Class := { plain "java/lang/Object" none with
  accessFlags := 33
  interfaces := #[]
  cf := some (fileOf pool0 8 #[] #[{ accessFlags := 1, nameIndex := 5, descriptorIndex := 6, attributes := #[] }] 33 0 #[] #[])
  fields := #[]
  methods := #[k0m0]
  instanceTypes := #[]
  staticTypes := #[]
  resolved := Array.replicate 124 none
  statics := none }

def pool1 : Array CpInfo := pool [(2, .class_ 4), (1, u "java/lang/Object"), (0, u "<init>"), (0, u "()V"), (0, .class_ 8), (0, u "com/example/semel/semel/log/AbortedTransaction"), (0, .methodref 7 10), (0, .nameAndType 5 11), (0, u "(JJJ)V"), (0, .methodref 7 13), (0, .nameAndType 14 15), (0, u "equals"), (0, u "(Ljava/lang/Object;)Z"), (0, .methodref 17 18), (0, .class_ 19), (0, .nameAndType 20 21), (0, u "java/lang/Long"), (0, u "valueOf"), (0, u "(J)Ljava/lang/Long;"), (0, .class_ 23), (0, u "com/example/semel/semel/log/AbortedTransactionEqualsPinLaw"), (2, u "law"), (0, u "(JJJJII)Z")] 3

def k1m0 : Method := { name := "<init>", desc := "()V", sig := { parameters := [], returnType := none }, accessFlags := 1, code := none }
def k1c1 : Code := { maxStack := 8, maxLocals := 20, code := code, exceptionTable := #[], attributes := #[] }
def k1m1 : Method := { name := "law", desc := "(JJJJII)Z", sig := { parameters := [.long, .long, .long, .long, .int, .int], returnType := some .boolean }, accessFlags := 9, code := some k1c1 }
/-- com/example/semel/semel/log/AbortedTransactionEqualsPinLaw -/
def k1 : Class := { plain "com/example/semel/semel/log/AbortedTransactionEqualsPinLaw" (some 0) with
  accessFlags := 49
  interfaces := #[]
  cf := some (fileOf pool1 22 #[] #[{ accessFlags := 1, nameIndex := 5, descriptorIndex := 6, attributes := #[] }, { accessFlags := 9, nameIndex := 26, descriptorIndex := 27, attributes := #[] }] 49 2 #[] #[])
  fields := #[]
  methods := #[k1m0, k1m1]
  instanceTypes := #[]
  staticTypes := #[]
  resolved := Array.replicate 31 none
  statics := none }

def pool2 : Array CpInfo := pool [(1, .methodref 2 3), (0, .class_ 4), (0, .nameAndType 5 6), (0, u "java/lang/Object"), (0, u "<init>"), (0, u "()V"), (0, .fieldref 8 9), (0, .class_ 10), (0, .nameAndType 11 12), (0, u "com/example/semel/semel/log/AbortedTransaction"), (0, u "producerId"), (0, u "J"), (0, .fieldref 8 14), (0, .nameAndType 15 12), (0, u "firstOffset"), (0, .fieldref 8 17), (0, .nameAndType 18 12), (0, u "lastOffset"), (16, u "(JJJ)V"), (3, u "equals"), (0, u "(Ljava/lang/Object;)Z")] 22

def k2c0 : Code := { maxStack := 3, maxLocals := 7, code := prog_20_method_1_code, exceptionTable := #[], attributes := #[] }
def k2m0 : Method := { name := "<init>", desc := "(JJJ)V", sig := { parameters := [.long, .long, .long], returnType := none }, accessFlags := 0, code := some k2c0 }
def k2c1 : Code := { maxStack := 4, maxLocals := 3, code := prog_20_method_5_code, exceptionTable := #[], attributes := #[] }
def k2m1 : Method := { name := "equals", desc := "(Ljava/lang/Object;)Z", sig := { parameters := [(.object "java/lang/Object")], returnType := some .boolean }, accessFlags := 1, code := some k2c1 }
/-- com/example/semel/semel/log/AbortedTransaction -/
def k2 : Class := { plain "com/example/semel/semel/log/AbortedTransaction" (some 0) with
  accessFlags := 49
  interfaces := #[]
  cf := some (fileOf pool2 8 #[] #[{ accessFlags := 0, nameIndex := 5, descriptorIndex := 35, attributes := #[] }, { accessFlags := 1, nameIndex := 39, descriptorIndex := 40, attributes := #[] }] 49 2 #[] #[{ accessFlags := 18, nameIndex := 11, descriptorIndex := 12, attributes := #[] }, { accessFlags := 18, nameIndex := 15, descriptorIndex := 12, attributes := #[] }, { accessFlags := 18, nameIndex := 18, descriptorIndex := 12, attributes := #[] }])
  fields := #[{ name := "producerId", type := .long, accessFlags := 18, slot := 0, constantValue := 0 }, { name := "firstOffset", type := .long, accessFlags := 18, slot := 1, constantValue := 0 }, { name := "lastOffset", type := .long, accessFlags := 18, slot := 2, constantValue := 0 }]
  methods := #[k2m0, k2m1]
  instanceTypes := #[.long, .long, .long]
  staticTypes := #[]
  resolved := Array.replicate 63 none
  statics := none }

def pool3 : Array CpInfo := pool [(1, .class_ 2), (0, u "java/io/Serializable"), (0, .class_ 4), (0, u "java/lang/Object")] 2

/-- java/io/Serializable -/
def k3 : Class := { plain "java/io/Serializable" (some 0) with
  accessFlags := 1537
  interfaces := #[]
  cf := some (fileOf pool3 1 #[] #[] 1537 3 #[] #[])
  fields := #[]
  methods := #[]
  instanceTypes := #[]
  staticTypes := #[]
  resolved := Array.replicate 7 none
  statics := none }

def pool4 : Array CpInfo := pool [(1, .methodref 2 3), (0, .class_ 4), (0, .nameAndType 5 6), (0, u "java/lang/Object"), (0, u "<init>"), (0, u "()V"), (1, .class_ 10), (1, u "java/lang/Number"), (2, .class_ 14), (0, u "java/io/Serializable"), (0, u "serialVersionUID"), (0, u "J")] 20

def k4c0 : Code := { maxStack := 1, maxLocals := 1, code := jdk_18_method_1_code, exceptionTable := #[], attributes := #[] }
def k4m0 : Method := { name := "<init>", desc := "()V", sig := { parameters := [], returnType := none }, accessFlags := 1, code := some k4c0 }
/-- java/lang/Number -/
def k4 : Class := { plain "java/lang/Number" (some 0) with
  accessFlags := 1057
  interfaces := #[3]
  cf := some (fileOf pool4 8 #[] #[{ accessFlags := 1, nameIndex := 5, descriptorIndex := 6, attributes := #[] }] 1057 2 #[13] #[{ accessFlags := 26, nameIndex := 15, descriptorIndex := 16, attributes := #[] }])
  fields := #[{ name := "serialVersionUID", type := .long, accessFlags := 26, slot := 0, constantValue := 0 }]
  methods := #[k4m0]
  instanceTypes := #[]
  staticTypes := #[.long]
  resolved := Array.replicate 37 none
  statics := none }

def pool5 : Array CpInfo := pool [(1, .class_ 2), (0, u "java/lang/Comparable"), (0, .class_ 4), (0, u "java/lang/Object")] 7

/-- java/lang/Comparable -/
def k5 : Class := { plain "java/lang/Comparable" (some 0) with
  accessFlags := 1537
  interfaces := #[]
  cf := some (fileOf pool5 1 #[] #[] 1537 3 #[] #[])
  fields := #[]
  methods := #[]
  instanceTypes := #[]
  staticTypes := #[]
  resolved := Array.replicate 12 none
  statics := none }

def pool6 : Array CpInfo := pool [(1, .class_ 2), (0, u "java/lang/constant/Constable"), (0, .class_ 4), (0, u "java/lang/Object")] 6

/-- java/lang/constant/Constable -/
def k6 : Class := { plain "java/lang/constant/Constable" (some 0) with
  accessFlags := 1537
  interfaces := #[]
  cf := some (fileOf pool6 1 #[] #[] 1537 3 #[] #[])
  fields := #[]
  methods := #[]
  instanceTypes := #[]
  staticTypes := #[]
  resolved := Array.replicate 11 none
  statics := none }

def pool7 : Array CpInfo := pool [(1, .class_ 2), (0, u "java/lang/constant/ConstantDesc"), (0, .class_ 4), (0, u "java/lang/Object")] 32

/-- java/lang/constant/ConstantDesc -/
def k7 : Class := { plain "java/lang/constant/ConstantDesc" (some 0) with
  accessFlags := 1537
  interfaces := #[]
  cf := some (fileOf pool7 1 #[] #[] 1537 3 #[] #[])
  fields := #[]
  methods := #[]
  instanceTypes := #[]
  staticTypes := #[]
  resolved := Array.replicate 37 none
  statics := none }

def pool8 : Array CpInfo := pool [(1, .class_ 2), (0, u "java/lang/Long"), (55, .nameAndType 59 60), (0, u "<init>"), (0, u "()V"), (24, u "valueOf"), (143, u "(J)Ljava/lang/Long;"), (0, .long 18446744073709551488), (1, .long 127), (1, .fieldref 235 236), (0, .class_ 237), (0, .nameAndType 238 239), (0, u "java/lang/Long$LongCache"), (0, u "cache"), (0, u "[Ljava/lang/Long;"), (0, .methodref 1 241), (0, .nameAndType 59 242), (0, u "(J)V"), (27, .methodref 271 58), (0, .class_ 272), (0, u "java/lang/Number"), (0, .fieldref 1 274), (0, .nameAndType 275 276), (0, u "value"), (0, u "J"), (84, u "TYPE"), (0, u "Ljava/lang/Class;"), (0, .class_ 364), (0, u "java/lang/Comparable"), (0, .class_ 366), (0, u "java/lang/constant/Constable"), (0, .class_ 368), (0, u "java/lang/constant/ConstantDesc"), (0, u "MIN_VALUE"), (1, u "MAX_VALUE"), (4, u "SIZE"), (0, u "I"), (1, u "BYTES"), (1, u "serialVersionUID")] 142

def k8c0 : Code := { maxStack := 4, maxLocals := 3, code := jdk_35_method_24_code, exceptionTable := #[], attributes := #[] }
def k8m0 : Method := { name := "valueOf", desc := "(J)Ljava/lang/Long;", sig := { parameters := [.long], returnType := some (.object "java/lang/Long") }, accessFlags := 9, code := some k8c0 }
def k8c1 : Code := { maxStack := 3, maxLocals := 3, code := jdk_35_method_26_code, exceptionTable := #[], attributes := #[] }
def k8m1 : Method := { name := "<init>", desc := "(J)V", sig := { parameters := [.long], returnType := none }, accessFlags := 1, code := some k8c1 }
/-- java/lang/Long -/
def k8 : Class := { plain "java/lang/Long" (some 4) with
  accessFlags := 49
  interfaces := #[5, 6, 7]
  cf := some (fileOf pool8 1 #[.nestMembers #[235]] #[{ accessFlags := 9, nameIndex := 85, descriptorIndex := 229, attributes := #[] }, { accessFlags := 1, nameIndex := 59, descriptorIndex := 242, attributes := #[] }] 49 271 #[363, 365, 367] #[{ accessFlags := 25, nameIndex := 369, descriptorIndex := 276, attributes := #[] }, { accessFlags := 25, nameIndex := 371, descriptorIndex := 276, attributes := #[] }, { accessFlags := 25, nameIndex := 361, descriptorIndex := 362, attributes := #[] }, { accessFlags := 18, nameIndex := 275, descriptorIndex := 276, attributes := #[] }, { accessFlags := 25, nameIndex := 376, descriptorIndex := 377, attributes := #[] }, { accessFlags := 25, nameIndex := 379, descriptorIndex := 377, attributes := #[] }, { accessFlags := 26, nameIndex := 381, descriptorIndex := 276, attributes := #[] }])
  fields := #[{ name := "MIN_VALUE", type := .long, accessFlags := 25, slot := 0, constantValue := 0 }, { name := "MAX_VALUE", type := .long, accessFlags := 25, slot := 1, constantValue := 0 }, { name := "TYPE", type := (.object "java/lang/Class"), accessFlags := 25, slot := 2, constantValue := 0 }, { name := "value", type := .long, accessFlags := 18, slot := 0, constantValue := 0 }, { name := "SIZE", type := .int, accessFlags := 25, slot := 3, constantValue := 0 }, { name := "BYTES", type := .int, accessFlags := 25, slot := 4, constantValue := 0 }, { name := "serialVersionUID", type := .long, accessFlags := 26, slot := 5, constantValue := 0 }]
  methods := #[k8m0, k8m1]
  instanceTypes := #[.long]
  staticTypes := #[.long, .long, (.object "java/lang/Class"), .int, .int, .long]
  resolved := Array.replicate 524 none
  statics := none }

def pool9 : Array CpInfo := pool [(2, .class_ 4), (1, u "java/lang/Object"), (0, u "<init>"), (0, u "()V"), (0, .class_ 8), (0, u "java/lang/Long"), (7, .class_ 18), (1, u "java/lang/Long$LongCache"), (0, u "$assertionsDisabled"), (0, u "Z"), (8, u "archivedCache"), (0, u "[Ljava/lang/Long;"), (7, u "cache")] 24

def k9m0 : Method := { name := "<init>", desc := "()V", sig := { parameters := [], returnType := none }, accessFlags := 2, code := none }
/-- java/lang/Long$LongCache -/
def k9 : Class := { plain "java/lang/Long$LongCache" (some 0) with
  accessFlags := 48
  interfaces := #[]
  cf := some (fileOf pool9 16 #[.nestHost 7] #[{ accessFlags := 2, nameIndex := 5, descriptorIndex := 6, attributes := #[] }] 48 2 #[] #[{ accessFlags := 24, nameIndex := 38, descriptorIndex := 30, attributes := #[] }, { accessFlags := 8, nameIndex := 29, descriptorIndex := 30, attributes := #[] }, { accessFlags := 4120, nameIndex := 19, descriptorIndex := 20, attributes := #[] }])
  fields := #[{ name := "cache", type := (.array (.object "java/lang/Long")), accessFlags := 24, slot := 0, constantValue := 0 }, { name := "archivedCache", type := (.array (.object "java/lang/Long")), accessFlags := 8, slot := 1, constantValue := 0 }, { name := "$assertionsDisabled", type := .boolean, accessFlags := 4120, slot := 2, constantValue := 0 }]
  methods := #[k9m0]
  instanceTypes := #[]
  staticTypes := #[(.array (.object "java/lang/Long")), (.array (.object "java/lang/Long")), .boolean]
  resolved := Array.replicate 63 none
  statics := some 0 }

def pool10 : Array CpInfo := pool [(1, u "java/lang/Cloneable"), (0, .class_ 1), (0, u "java/lang/Object"), (0, .class_ 3)] 3

/-- java/lang/Cloneable -/
def k10 : Class := { plain "java/lang/Cloneable" (some 0) with
  accessFlags := 1537
  interfaces := #[]
  cf := some (fileOf pool10 2 #[] #[] 1537 4 #[] #[])
  fields := #[]
  methods := #[]
  instanceTypes := #[]
  staticTypes := #[]
  resolved := Array.replicate 8 none
  statics := none }

/-- the primitive byte -/
def k11 : Class := { plain "byte" none with kind := .primitive 'B', accessFlags := 0x411 }
/-- [B -/
def k12 : Class := { plain "[B" (some 0) with kind := .array 11 .byte, interfaces := #[10, 3], accessFlags := 1041 }

/-- the primitive int -/
def k13 : Class := { plain "int" none with kind := .primitive 'I', accessFlags := 0x411 }
/-- [I -/
def k14 : Class := { plain "[I" (some 0) with kind := .array 13 .int, interfaces := #[10, 3], accessFlags := 1041 }

/-- [Ljava/lang/Long; -/
def k15 : Class := { plain "[Ljava/lang/Long;" (some 0) with kind := .array 8 (.object "java/lang/Long"), interfaces := #[10, 3], accessFlags := 1041 }

def heap : Heap := #[{ cls := 9, slots := #[.ref 1, .null, .int 0], vm := .statics 9 },
  { cls := 15, slots := #[.ref 2, .ref 3, .ref 4, .ref 5, .ref 6, .ref 7, .ref 8, .ref 9, .ref 10, .ref 11, .ref 12, .ref 13, .ref 14, .ref 15, .ref 16, .ref 17, .ref 18, .ref 19, .ref 20, .ref 21, .ref 22, .ref 23, .ref 24, .ref 25, .ref 26, .ref 27, .ref 28, .ref 29, .ref 30, .ref 31, .ref 32, .ref 33, .ref 34, .ref 35, .ref 36, .ref 37, .ref 38, .ref 39, .ref 40, .ref 41, .ref 42, .ref 43, .ref 44, .ref 45, .ref 46, .ref 47, .ref 48, .ref 49, .ref 50, .ref 51, .ref 52, .ref 53, .ref 54, .ref 55, .ref 56, .ref 57, .ref 58, .ref 59, .ref 60, .ref 61, .ref 62, .ref 63, .ref 64, .ref 65, .ref 66, .ref 67, .ref 68, .ref 69, .ref 70, .ref 71, .ref 72, .ref 73, .ref 74, .ref 75, .ref 76, .ref 77, .ref 78, .ref 79, .ref 80, .ref 81, .ref 82, .ref 83, .ref 84, .ref 85, .ref 86, .ref 87, .ref 88, .ref 89, .ref 90, .ref 91, .ref 92, .ref 93, .ref 94, .ref 95, .ref 96, .ref 97, .ref 98, .ref 99, .ref 100, .ref 101, .ref 102, .ref 103, .ref 104, .ref 105, .ref 106, .ref 107, .ref 108, .ref 109, .ref 110, .ref 111, .ref 112, .ref 113, .ref 114, .ref 115, .ref 116, .ref 117, .ref 118, .ref 119, .ref 120, .ref 121, .ref 122, .ref 123, .ref 124, .ref 125, .ref 126, .ref 127, .ref 128, .ref 129, .ref 130, .ref 131, .ref 132, .ref 133, .ref 134, .ref 135, .ref 136, .ref 137, .ref 138, .ref 139, .ref 140, .ref 141, .ref 142, .ref 143, .ref 144, .ref 145, .ref 146, .ref 147, .ref 148, .ref 149, .ref 150, .ref 151, .ref 152, .ref 153, .ref 154, .ref 155, .ref 156, .ref 157, .ref 158, .ref 159, .ref 160, .ref 161, .ref 162, .ref 163, .ref 164, .ref 165, .ref 166, .ref 167, .ref 168, .ref 169, .ref 170, .ref 171, .ref 172, .ref 173, .ref 174, .ref 175, .ref 176, .ref 177, .ref 178, .ref 179, .ref 180, .ref 181, .ref 182, .ref 183, .ref 184, .ref 185, .ref 186, .ref 187, .ref 188, .ref 189, .ref 190, .ref 191, .ref 192, .ref 193, .ref 194, .ref 195, .ref 196, .ref 197, .ref 198, .ref 199, .ref 200, .ref 201, .ref 202, .ref 203, .ref 204, .ref 205, .ref 206, .ref 207, .ref 208, .ref 209, .ref 210, .ref 211, .ref 212, .ref 213, .ref 214, .ref 215, .ref 216, .ref 217, .ref 218, .ref 219, .ref 220, .ref 221, .ref 222, .ref 223, .ref 224, .ref 225, .ref 226, .ref 227, .ref 228, .ref 229, .ref 230, .ref 231, .ref 232, .ref 233, .ref 234, .ref 235, .ref 236, .ref 237, .ref 238, .ref 239, .ref 240, .ref 241, .ref 242, .ref 243, .ref 244, .ref 245, .ref 246, .ref 247, .ref 248, .ref 249, .ref 250, .ref 251, .ref 252, .ref 253, .ref 254, .ref 255, .ref 256, .ref 257], vm := .none },
  { cls := 8, slots := #[.long (-128)], vm := .none },
  { cls := 8, slots := #[.long (-127)], vm := .none },
  { cls := 8, slots := #[.long (-126)], vm := .none },
  { cls := 8, slots := #[.long (-125)], vm := .none },
  { cls := 8, slots := #[.long (-124)], vm := .none },
  { cls := 8, slots := #[.long (-123)], vm := .none },
  { cls := 8, slots := #[.long (-122)], vm := .none },
  { cls := 8, slots := #[.long (-121)], vm := .none },
  { cls := 8, slots := #[.long (-120)], vm := .none },
  { cls := 8, slots := #[.long (-119)], vm := .none },
  { cls := 8, slots := #[.long (-118)], vm := .none },
  { cls := 8, slots := #[.long (-117)], vm := .none },
  { cls := 8, slots := #[.long (-116)], vm := .none },
  { cls := 8, slots := #[.long (-115)], vm := .none },
  { cls := 8, slots := #[.long (-114)], vm := .none },
  { cls := 8, slots := #[.long (-113)], vm := .none },
  { cls := 8, slots := #[.long (-112)], vm := .none },
  { cls := 8, slots := #[.long (-111)], vm := .none },
  { cls := 8, slots := #[.long (-110)], vm := .none },
  { cls := 8, slots := #[.long (-109)], vm := .none },
  { cls := 8, slots := #[.long (-108)], vm := .none },
  { cls := 8, slots := #[.long (-107)], vm := .none },
  { cls := 8, slots := #[.long (-106)], vm := .none },
  { cls := 8, slots := #[.long (-105)], vm := .none },
  { cls := 8, slots := #[.long (-104)], vm := .none },
  { cls := 8, slots := #[.long (-103)], vm := .none },
  { cls := 8, slots := #[.long (-102)], vm := .none },
  { cls := 8, slots := #[.long (-101)], vm := .none },
  { cls := 8, slots := #[.long (-100)], vm := .none },
  { cls := 8, slots := #[.long (-99)], vm := .none },
  { cls := 8, slots := #[.long (-98)], vm := .none },
  { cls := 8, slots := #[.long (-97)], vm := .none },
  { cls := 8, slots := #[.long (-96)], vm := .none },
  { cls := 8, slots := #[.long (-95)], vm := .none },
  { cls := 8, slots := #[.long (-94)], vm := .none },
  { cls := 8, slots := #[.long (-93)], vm := .none },
  { cls := 8, slots := #[.long (-92)], vm := .none },
  { cls := 8, slots := #[.long (-91)], vm := .none },
  { cls := 8, slots := #[.long (-90)], vm := .none },
  { cls := 8, slots := #[.long (-89)], vm := .none },
  { cls := 8, slots := #[.long (-88)], vm := .none },
  { cls := 8, slots := #[.long (-87)], vm := .none },
  { cls := 8, slots := #[.long (-86)], vm := .none },
  { cls := 8, slots := #[.long (-85)], vm := .none },
  { cls := 8, slots := #[.long (-84)], vm := .none },
  { cls := 8, slots := #[.long (-83)], vm := .none },
  { cls := 8, slots := #[.long (-82)], vm := .none },
  { cls := 8, slots := #[.long (-81)], vm := .none },
  { cls := 8, slots := #[.long (-80)], vm := .none },
  { cls := 8, slots := #[.long (-79)], vm := .none },
  { cls := 8, slots := #[.long (-78)], vm := .none },
  { cls := 8, slots := #[.long (-77)], vm := .none },
  { cls := 8, slots := #[.long (-76)], vm := .none },
  { cls := 8, slots := #[.long (-75)], vm := .none },
  { cls := 8, slots := #[.long (-74)], vm := .none },
  { cls := 8, slots := #[.long (-73)], vm := .none },
  { cls := 8, slots := #[.long (-72)], vm := .none },
  { cls := 8, slots := #[.long (-71)], vm := .none },
  { cls := 8, slots := #[.long (-70)], vm := .none },
  { cls := 8, slots := #[.long (-69)], vm := .none },
  { cls := 8, slots := #[.long (-68)], vm := .none },
  { cls := 8, slots := #[.long (-67)], vm := .none },
  { cls := 8, slots := #[.long (-66)], vm := .none },
  { cls := 8, slots := #[.long (-65)], vm := .none },
  { cls := 8, slots := #[.long (-64)], vm := .none },
  { cls := 8, slots := #[.long (-63)], vm := .none },
  { cls := 8, slots := #[.long (-62)], vm := .none },
  { cls := 8, slots := #[.long (-61)], vm := .none },
  { cls := 8, slots := #[.long (-60)], vm := .none },
  { cls := 8, slots := #[.long (-59)], vm := .none },
  { cls := 8, slots := #[.long (-58)], vm := .none },
  { cls := 8, slots := #[.long (-57)], vm := .none },
  { cls := 8, slots := #[.long (-56)], vm := .none },
  { cls := 8, slots := #[.long (-55)], vm := .none },
  { cls := 8, slots := #[.long (-54)], vm := .none },
  { cls := 8, slots := #[.long (-53)], vm := .none },
  { cls := 8, slots := #[.long (-52)], vm := .none },
  { cls := 8, slots := #[.long (-51)], vm := .none },
  { cls := 8, slots := #[.long (-50)], vm := .none },
  { cls := 8, slots := #[.long (-49)], vm := .none },
  { cls := 8, slots := #[.long (-48)], vm := .none },
  { cls := 8, slots := #[.long (-47)], vm := .none },
  { cls := 8, slots := #[.long (-46)], vm := .none },
  { cls := 8, slots := #[.long (-45)], vm := .none },
  { cls := 8, slots := #[.long (-44)], vm := .none },
  { cls := 8, slots := #[.long (-43)], vm := .none },
  { cls := 8, slots := #[.long (-42)], vm := .none },
  { cls := 8, slots := #[.long (-41)], vm := .none },
  { cls := 8, slots := #[.long (-40)], vm := .none },
  { cls := 8, slots := #[.long (-39)], vm := .none },
  { cls := 8, slots := #[.long (-38)], vm := .none },
  { cls := 8, slots := #[.long (-37)], vm := .none },
  { cls := 8, slots := #[.long (-36)], vm := .none },
  { cls := 8, slots := #[.long (-35)], vm := .none },
  { cls := 8, slots := #[.long (-34)], vm := .none },
  { cls := 8, slots := #[.long (-33)], vm := .none },
  { cls := 8, slots := #[.long (-32)], vm := .none },
  { cls := 8, slots := #[.long (-31)], vm := .none },
  { cls := 8, slots := #[.long (-30)], vm := .none },
  { cls := 8, slots := #[.long (-29)], vm := .none },
  { cls := 8, slots := #[.long (-28)], vm := .none },
  { cls := 8, slots := #[.long (-27)], vm := .none },
  { cls := 8, slots := #[.long (-26)], vm := .none },
  { cls := 8, slots := #[.long (-25)], vm := .none },
  { cls := 8, slots := #[.long (-24)], vm := .none },
  { cls := 8, slots := #[.long (-23)], vm := .none },
  { cls := 8, slots := #[.long (-22)], vm := .none },
  { cls := 8, slots := #[.long (-21)], vm := .none },
  { cls := 8, slots := #[.long (-20)], vm := .none },
  { cls := 8, slots := #[.long (-19)], vm := .none },
  { cls := 8, slots := #[.long (-18)], vm := .none },
  { cls := 8, slots := #[.long (-17)], vm := .none },
  { cls := 8, slots := #[.long (-16)], vm := .none },
  { cls := 8, slots := #[.long (-15)], vm := .none },
  { cls := 8, slots := #[.long (-14)], vm := .none },
  { cls := 8, slots := #[.long (-13)], vm := .none },
  { cls := 8, slots := #[.long (-12)], vm := .none },
  { cls := 8, slots := #[.long (-11)], vm := .none },
  { cls := 8, slots := #[.long (-10)], vm := .none },
  { cls := 8, slots := #[.long (-9)], vm := .none },
  { cls := 8, slots := #[.long (-8)], vm := .none },
  { cls := 8, slots := #[.long (-7)], vm := .none },
  { cls := 8, slots := #[.long (-6)], vm := .none },
  { cls := 8, slots := #[.long (-5)], vm := .none },
  { cls := 8, slots := #[.long (-4)], vm := .none },
  { cls := 8, slots := #[.long (-3)], vm := .none },
  { cls := 8, slots := #[.long (-2)], vm := .none },
  { cls := 8, slots := #[.long (-1)], vm := .none },
  { cls := 8, slots := #[.long (0)], vm := .none },
  { cls := 8, slots := #[.long (1)], vm := .none },
  { cls := 8, slots := #[.long (2)], vm := .none },
  { cls := 8, slots := #[.long (3)], vm := .none },
  { cls := 8, slots := #[.long (4)], vm := .none },
  { cls := 8, slots := #[.long (5)], vm := .none },
  { cls := 8, slots := #[.long (6)], vm := .none },
  { cls := 8, slots := #[.long (7)], vm := .none },
  { cls := 8, slots := #[.long (8)], vm := .none },
  { cls := 8, slots := #[.long (9)], vm := .none },
  { cls := 8, slots := #[.long (10)], vm := .none },
  { cls := 8, slots := #[.long (11)], vm := .none },
  { cls := 8, slots := #[.long (12)], vm := .none },
  { cls := 8, slots := #[.long (13)], vm := .none },
  { cls := 8, slots := #[.long (14)], vm := .none },
  { cls := 8, slots := #[.long (15)], vm := .none },
  { cls := 8, slots := #[.long (16)], vm := .none },
  { cls := 8, slots := #[.long (17)], vm := .none },
  { cls := 8, slots := #[.long (18)], vm := .none },
  { cls := 8, slots := #[.long (19)], vm := .none },
  { cls := 8, slots := #[.long (20)], vm := .none },
  { cls := 8, slots := #[.long (21)], vm := .none },
  { cls := 8, slots := #[.long (22)], vm := .none },
  { cls := 8, slots := #[.long (23)], vm := .none },
  { cls := 8, slots := #[.long (24)], vm := .none },
  { cls := 8, slots := #[.long (25)], vm := .none },
  { cls := 8, slots := #[.long (26)], vm := .none },
  { cls := 8, slots := #[.long (27)], vm := .none },
  { cls := 8, slots := #[.long (28)], vm := .none },
  { cls := 8, slots := #[.long (29)], vm := .none },
  { cls := 8, slots := #[.long (30)], vm := .none },
  { cls := 8, slots := #[.long (31)], vm := .none },
  { cls := 8, slots := #[.long (32)], vm := .none },
  { cls := 8, slots := #[.long (33)], vm := .none },
  { cls := 8, slots := #[.long (34)], vm := .none },
  { cls := 8, slots := #[.long (35)], vm := .none },
  { cls := 8, slots := #[.long (36)], vm := .none },
  { cls := 8, slots := #[.long (37)], vm := .none },
  { cls := 8, slots := #[.long (38)], vm := .none },
  { cls := 8, slots := #[.long (39)], vm := .none },
  { cls := 8, slots := #[.long (40)], vm := .none },
  { cls := 8, slots := #[.long (41)], vm := .none },
  { cls := 8, slots := #[.long (42)], vm := .none },
  { cls := 8, slots := #[.long (43)], vm := .none },
  { cls := 8, slots := #[.long (44)], vm := .none },
  { cls := 8, slots := #[.long (45)], vm := .none },
  { cls := 8, slots := #[.long (46)], vm := .none },
  { cls := 8, slots := #[.long (47)], vm := .none },
  { cls := 8, slots := #[.long (48)], vm := .none },
  { cls := 8, slots := #[.long (49)], vm := .none },
  { cls := 8, slots := #[.long (50)], vm := .none },
  { cls := 8, slots := #[.long (51)], vm := .none },
  { cls := 8, slots := #[.long (52)], vm := .none },
  { cls := 8, slots := #[.long (53)], vm := .none },
  { cls := 8, slots := #[.long (54)], vm := .none },
  { cls := 8, slots := #[.long (55)], vm := .none },
  { cls := 8, slots := #[.long (56)], vm := .none },
  { cls := 8, slots := #[.long (57)], vm := .none },
  { cls := 8, slots := #[.long (58)], vm := .none },
  { cls := 8, slots := #[.long (59)], vm := .none },
  { cls := 8, slots := #[.long (60)], vm := .none },
  { cls := 8, slots := #[.long (61)], vm := .none },
  { cls := 8, slots := #[.long (62)], vm := .none },
  { cls := 8, slots := #[.long (63)], vm := .none },
  { cls := 8, slots := #[.long (64)], vm := .none },
  { cls := 8, slots := #[.long (65)], vm := .none },
  { cls := 8, slots := #[.long (66)], vm := .none },
  { cls := 8, slots := #[.long (67)], vm := .none },
  { cls := 8, slots := #[.long (68)], vm := .none },
  { cls := 8, slots := #[.long (69)], vm := .none },
  { cls := 8, slots := #[.long (70)], vm := .none },
  { cls := 8, slots := #[.long (71)], vm := .none },
  { cls := 8, slots := #[.long (72)], vm := .none },
  { cls := 8, slots := #[.long (73)], vm := .none },
  { cls := 8, slots := #[.long (74)], vm := .none },
  { cls := 8, slots := #[.long (75)], vm := .none },
  { cls := 8, slots := #[.long (76)], vm := .none },
  { cls := 8, slots := #[.long (77)], vm := .none },
  { cls := 8, slots := #[.long (78)], vm := .none },
  { cls := 8, slots := #[.long (79)], vm := .none },
  { cls := 8, slots := #[.long (80)], vm := .none },
  { cls := 8, slots := #[.long (81)], vm := .none },
  { cls := 8, slots := #[.long (82)], vm := .none },
  { cls := 8, slots := #[.long (83)], vm := .none },
  { cls := 8, slots := #[.long (84)], vm := .none },
  { cls := 8, slots := #[.long (85)], vm := .none },
  { cls := 8, slots := #[.long (86)], vm := .none },
  { cls := 8, slots := #[.long (87)], vm := .none },
  { cls := 8, slots := #[.long (88)], vm := .none },
  { cls := 8, slots := #[.long (89)], vm := .none },
  { cls := 8, slots := #[.long (90)], vm := .none },
  { cls := 8, slots := #[.long (91)], vm := .none },
  { cls := 8, slots := #[.long (92)], vm := .none },
  { cls := 8, slots := #[.long (93)], vm := .none },
  { cls := 8, slots := #[.long (94)], vm := .none },
  { cls := 8, slots := #[.long (95)], vm := .none },
  { cls := 8, slots := #[.long (96)], vm := .none },
  { cls := 8, slots := #[.long (97)], vm := .none },
  { cls := 8, slots := #[.long (98)], vm := .none },
  { cls := 8, slots := #[.long (99)], vm := .none },
  { cls := 8, slots := #[.long (100)], vm := .none },
  { cls := 8, slots := #[.long (101)], vm := .none },
  { cls := 8, slots := #[.long (102)], vm := .none },
  { cls := 8, slots := #[.long (103)], vm := .none },
  { cls := 8, slots := #[.long (104)], vm := .none },
  { cls := 8, slots := #[.long (105)], vm := .none },
  { cls := 8, slots := #[.long (106)], vm := .none },
  { cls := 8, slots := #[.long (107)], vm := .none },
  { cls := 8, slots := #[.long (108)], vm := .none },
  { cls := 8, slots := #[.long (109)], vm := .none },
  { cls := 8, slots := #[.long (110)], vm := .none },
  { cls := 8, slots := #[.long (111)], vm := .none },
  { cls := 8, slots := #[.long (112)], vm := .none },
  { cls := 8, slots := #[.long (113)], vm := .none },
  { cls := 8, slots := #[.long (114)], vm := .none },
  { cls := 8, slots := #[.long (115)], vm := .none },
  { cls := 8, slots := #[.long (116)], vm := .none },
  { cls := 8, slots := #[.long (117)], vm := .none },
  { cls := 8, slots := #[.long (118)], vm := .none },
  { cls := 8, slots := #[.long (119)], vm := .none },
  { cls := 8, slots := #[.long (120)], vm := .none },
  { cls := 8, slots := #[.long (121)], vm := .none },
  { cls := 8, slots := #[.long (122)], vm := .none },
  { cls := 8, slots := #[.long (123)], vm := .none },
  { cls := 8, slots := #[.long (124)], vm := .none },
  { cls := 8, slots := #[.long (125)], vm := .none },
  { cls := 8, slots := #[.long (126)], vm := .none },
  { cls := 8, slots := #[.long (127)], vm := .none }]
def classes : Array Class := #[k0, k1, k2, k3, k4, k5, k6, k7, k8, k9, k10, k11, k12, k13, k14, k15]
def interned : List (Array UInt16 × Addr) := []
def slotsUsed : Nat := 515
def theMethod : MethodId := ⟨1, 1⟩
def args0 : Array Value := #[.long 0, .long 0, .long 0, .long 0, .int 0, .int 0]
def aboutOver (below : List Frame) : State where
  vm := { classes := classes, interned := interned.toArray }
  heap := heap
  slotsUsed := slotsUsed
  threads := #[{ frames := .invoking theMethod args0 :: below }]
def below0 : List Frame := [.native { method := ⟨0, 0⟩, args := #[] }]
def about1 : State := aboutOver below0
def p0 : Program := .bare "" "" ""
def e0 : Env := launch0.env 0 0 0
theorem w_frames : about1.frames = Frame.invoking theMethod args0 :: below0 := rfl
set_option maxRecDepth 65536 in
theorem w_args : argsFit about1.vm theMethod args0 = true := by decide +kernel
set_option maxRecDepth 65536 in
theorem w_heap : heapFits about1 = true := by decide +kernel
set_option maxRecDepth 65536 in
theorem w_runnable : about1.curStatus? = some .runnable := by decide +kernel
set_option maxRecDepth 65536 in
theorem w_alone : about1.alone = true := by decide +kernel
set_option maxRecDepth 65536 in
theorem w_named : about1.methodNamed? x = some theMethod := by decide +kernel
set_option maxRecDepth 65536 in
theorem w_hears : about1.hears theMethod below0 = true := by decide +kernel
set_option maxRecDepth 65536 in
theorem w_ripe : about1.ripe theMethod args0 below0 = true := by decide +kernel
theorem w_running : about1.status = .running := rfl
set_option maxRecDepth 65536 in
theorem w_room : about1.hasRoom e0.platform room_1 = true :=
  launch0.hasRoom_least _ room_1 (by decide +kernel) (by decide +kernel) (by decide +kernel) (by decide +kernel) (by decide +kernel) (by decide +kernel)
theorem allAtoms_all (ts : List Jvm.Cond) (a : Array Jvm.Value) (st : Jvm.State) : (allAtoms ts).before a st = ts.all (fun c => c.before a st) := by
  induction ts with
  | nil => rfl
  | cons c t ih =>
    show (Jvm.Cond.and c (allAtoms t)).before a st = _
    rw [Jvm.Cond.before_and, ih, List.all_cons]
def words1 : List Jvm.Cond := Jvm.Cond.code x code maxLocals ret :: tables_1
/-- a 'code' word, met by the world's own term for the bytes: nothing is compared byte by byte -/
theorem code_word {y : MethodName} {bytes : ByteArray} {mx : Nat} {rt : Option FieldType} {a : Array Value} {s : State} {m : MethodId} {meth : Method} {c : Code} (h1 : s.methodNamed? y = some m) (h2 : s.vm.method? m = some meth) (h3 : meth.code = some c) (h4 : c.code = bytes)
    (h5 : (c.maxLocals == mx && c.exceptionTable.isEmpty && decide (c.maxStack ≤ mostOperands) && decide (meth.sig.returnType = rt) && !meth.locks && decide (parseMethodDescriptor y.desc = some meth.sig)) = true) : (Jvm.Cond.code y bytes mx rt).before a s = true := by
  simp only [Bool.and_eq_true, beq_iff_eq, Bool.not_eq_true', decide_eq_true_eq] at h5
  obtain ⟨⟨⟨⟨⟨g1, g2⟩, g3⟩, g4⟩, g5⟩, g6⟩ := h5
  simp [Cond.before, Cond.holds, Cond.value, h1, h2, h3, h4, g1, g2, g3, g4, g5, g6]
def isCode : Jvm.Cond → Bool
  | .code _ _ _ _ => true
  | _ => false
theorem all_split {L : List Jvm.Cond} {P : Jvm.Cond → Bool} (h1 : L.all (fun c => isCode c || P c) = true) (h2 : ∀ c ∈ L.filter isCode, P c = true) : L.all P = true := by
  refine List.all_eq_true.mpr fun c hc => ?_
  have h := List.all_eq_true.mp h1 c hc
  rcases Bool.eq_false_or_eq_true (isCode c) with hi | hi
  · exact h2 c (List.mem_filter.mpr ⟨hc, hi⟩)
  · simpa [hi] using h
set_option maxRecDepth 65536 in
theorem w_c0 : (Jvm.Cond.code x code maxLocals ret).before args0 about1 = true := code_word (m := ⟨1, 1⟩) (meth := k1m1) (c := k1c1) (by decide +kernel) rfl rfl rfl (by decide +kernel)
set_option maxRecDepth 65536 in
theorem w_c1 : (Jvm.Cond.code ({ cls := "com/example/semel/semel/log/AbortedTransaction", name := "<init>", desc := "(JJJ)V" } : Jvm.MethodName) prog_20_method_1_code (7 : Nat) (Option.none : Option Jvm.ClassFile.FieldType)).before args0 about1 = true := code_word (m := ⟨2, 0⟩) (meth := k2m0) (c := k2c0) (by decide +kernel) rfl rfl rfl (by decide +kernel)
set_option maxRecDepth 65536 in
theorem w_c2 : (Jvm.Cond.code ({ cls := "java/lang/Object", name := "<init>", desc := "()V" } : Jvm.MethodName) object_method_1_code (1 : Nat) (Option.none : Option Jvm.ClassFile.FieldType)).before args0 about1 = true := code_word (m := ⟨0, 0⟩) (meth := k0m0) (c := k0c0) (by decide +kernel) rfl rfl rfl (by decide +kernel)
set_option maxRecDepth 65536 in
theorem w_c3 : (Jvm.Cond.code ({ cls := "com/example/semel/semel/log/AbortedTransaction", name := "equals", desc := "(Ljava/lang/Object;)Z" } : Jvm.MethodName) prog_20_method_5_code (3 : Nat) (Option.some Jvm.ClassFile.FieldType.boolean)).before args0 about1 = true := code_word (m := ⟨2, 1⟩) (meth := k2m1) (c := k2c1) (by decide +kernel) rfl rfl rfl (by decide +kernel)
set_option maxRecDepth 65536 in
theorem w_c4 : (Jvm.Cond.code ({ cls := "java/lang/Long", name := "valueOf", desc := "(J)Ljava/lang/Long;" } : Jvm.MethodName) jdk_35_method_24_code (3 : Nat) (Option.some (Jvm.ClassFile.FieldType.object "java/lang/Long"))).before args0 about1 = true := code_word (m := ⟨8, 0⟩) (meth := k8m0) (c := k8c0) (by decide +kernel) rfl rfl rfl (by decide +kernel)
set_option maxRecDepth 65536 in
theorem w_c5 : (Jvm.Cond.code ({ cls := "java/lang/Long", name := "<init>", desc := "(J)V" } : Jvm.MethodName) jdk_35_method_26_code (3 : Nat) (Option.none : Option Jvm.ClassFile.FieldType)).before args0 about1 = true := code_word (m := ⟨8, 1⟩) (meth := k8m1) (c := k8c1) (by decide +kernel) rfl rfl rfl (by decide +kernel)
set_option maxRecDepth 65536 in
theorem w_c6 : (Jvm.Cond.code ({ cls := "java/lang/Number", name := "<init>", desc := "()V" } : Jvm.MethodName) jdk_18_method_1_code (1 : Nat) (Option.none : Option Jvm.ClassFile.FieldType)).before args0 about1 = true := code_word (m := ⟨4, 0⟩) (meth := k4m0) (c := k4c0) (by decide +kernel) rfl rfl rfl (by decide +kernel)
def codes1 : List Jvm.Cond := [Jvm.Cond.code x code maxLocals ret, Jvm.Cond.code ({ cls := "com/example/semel/semel/log/AbortedTransaction", name := "<init>", desc := "(JJJ)V" } : Jvm.MethodName) prog_20_method_1_code (7 : Nat) (Option.none : Option Jvm.ClassFile.FieldType), Jvm.Cond.code ({ cls := "java/lang/Object", name := "<init>", desc := "()V" } : Jvm.MethodName) object_method_1_code (1 : Nat) (Option.none : Option Jvm.ClassFile.FieldType), Jvm.Cond.code ({ cls := "com/example/semel/semel/log/AbortedTransaction", name := "equals", desc := "(Ljava/lang/Object;)Z" } : Jvm.MethodName) prog_20_method_5_code (3 : Nat) (Option.some Jvm.ClassFile.FieldType.boolean), Jvm.Cond.code ({ cls := "java/lang/Long", name := "valueOf", desc := "(J)Ljava/lang/Long;" } : Jvm.MethodName) jdk_35_method_24_code (3 : Nat) (Option.some (Jvm.ClassFile.FieldType.object "java/lang/Long")), Jvm.Cond.code ({ cls := "java/lang/Long", name := "<init>", desc := "(J)V" } : Jvm.MethodName) jdk_35_method_26_code (3 : Nat) (Option.none : Option Jvm.ClassFile.FieldType), Jvm.Cond.code ({ cls := "java/lang/Number", name := "<init>", desc := "()V" } : Jvm.MethodName) jdk_18_method_1_code (1 : Nat) (Option.none : Option Jvm.ClassFile.FieldType)]
set_option maxRecDepth 65536 in
theorem codes_eq : words1.filter isCode = codes1 := rfl
theorem w_codes : ∀ c ∈ words1.filter isCode, c.before args0 about1 = true := by
  rw [codes_eq]
  intro c hc
  simp only [codes1, List.mem_cons, List.not_mem_nil, or_false] at hc
  rcases hc with rfl | rfl | rfl | rfl | rfl | rfl | rfl
  · exact w_c0
  · exact w_c1
  · exact w_c2
  · exact w_c3
  · exact w_c4
  · exact w_c5
  · exact w_c6
set_option maxRecDepth 65536 in
theorem w_t1 : (words1.take 24).all (fun c => isCode c || c.before args0 about1) = true := by decide +kernel
set_option maxRecDepth 65536 in
theorem w_t2 : ((words1.drop 24).take 24).all (fun c => isCode c || c.before args0 about1) = true := by decide +kernel
set_option maxRecDepth 65536 in
theorem w_t3 : ((words1.drop 24).drop 24).all (fun c => isCode c || c.before args0 about1) = true := by decide +kernel
theorem w_tables : (allAtoms (Jvm.Cond.code x code maxLocals ret :: tables_1)).before args0 about1 = true := by
  rw [allAtoms_all]
  show words1.all (fun c => c.before args0 about1) = true
  refine all_split ?_ w_codes
  rw [← List.take_append_drop 24 words1, List.all_append, w_t1, ← List.take_append_drop 24 (words1.drop 24), List.all_append, w_t2, w_t3]
  rfl
set_option maxRecDepth 65536 in
theorem w_rest : rest_1_c.before args0 about1 = true := by decide +kernel
set_option maxRecDepth 65536 in
theorem w_case : (Jvm.Cond.and given_1 narrow_1).before args0 about1 = true := by decide +kernel
theorem w_applies : (headSpec (Jvm.Cond.code x code maxLocals ret :: tables_1) room_1).applies x e0.platform about1 = true :=
  (Spec.applies_iff w_frames).mpr ⟨w_running, w_runnable, w_alone, w_named, w_hears, w_ripe, w_room, w_tables⟩
theorem atStart : AtStart classFile x code maxLocals ret World_1 tables_1 room_1 Calls_1 rest_1 Pre_1 launch0 p0 e0 about1 theMethod args0 below0 :=
  ⟨lists_1, trivial, launch0.admits_env _ _ _, launch0.least_env, fairChoices_fair.cas, fairChoices_fair.clock, w_frames, w_args, w_heap, w_applies, trivial, w_rest, w_case⟩
end start1
theorem witness_1 : WitnessClaimed_1 := ⟨start1.p0, start1.e0, start1.about1, start1.theMethod, start1.args0, start1.below0, start1.atStart⟩
end Jvm.Pilot.@@N@@
