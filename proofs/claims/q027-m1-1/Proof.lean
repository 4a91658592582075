import JvmDerived
import JvmDerived.Pilot.@@N@@Statement
import JvmDerived.Pilot.@@N@@Code
set_option linter.unusedVariables false
set_option linter.unusedSimpArgs false
@@BLOCK:NumsL.lean.txt@@
namespace Jvm.RoadKit
open Sem ClassFile Op Lib Jvm.Stand Jvm.Free Jvm.LawKit
section New
variable {p : Program} {l : Launch} {e : Env} {R : Room} {s : State} {m : MethodId} {args : Array Value} {below : List Frame} {meth : Method} {c : Code} {T : State} {locs : List Loc} {cells slots : Nat}
theorem retI (X : Stand p l e R s m args below meth c T locs cells slots) (hx : p.tables.exec = Jvm.exec) {pc : Nat} {Ls : Array Slot} {z : Int32} {rest : List Value} (hret : meth.sig.returnType = some .int) (hd : decode c.code pc = .ok (.ireturn, 1)) {fs : List Frame}
    (hl : ∀ (f : JFrame) (acts : List Action), f.method = m → f.locked = none → f.entered = [] → (doReturn e (T.setTop f) acts (some (.int z))).1 = T.setFrames fs) : Steps p.tables e below (T.setTop (mkF m pc Ls (.int z :: rest))) (T.setFrames fs) := by
  have hm' : T.vm.method? m = some meth := X.method'
  have hn : narrow .int (.int z) = .int z := rfl
  show Steps p.tables e below (T.setTop { method := m, pc := pc, locals := Ls, stack := _ :: rest, locked := none }) _
  jvm_step X.here [X.here.top, hx, hd, hm', hret, hn]
  first | (intro acts; rw [hl _ acts rfl rfl rfl]) | rw [hl _ _ rfl rfl rfl]
  exact Steps.refl _
end New
end Jvm.RoadKit
namespace Jvm.Pilot.@@N@@
open Jvm Jvm.ClassFile Sem Op Lib Jvm.Free Jvm.Stand Jvm.LawKit Jvm.RoadKit Bundle Jvm.Pilot.@@N@@.Jvm.D
section OwnLayer
variable {p : Program} {l : Launch} {e : Env} {R : Room} {s : State} {m : MethodId} {args : Array Value} {below : List Frame} {meth : Method} {c : Code} {T T' : State} {h h' : Heap} {n0 ck sk ck' sk' : Nat} {Z : State} {a0 : Array Value} {Post : Outcome → State → Prop} {g g' : JFrame}
/-- from this state and frame the run comes to an end of the invocation of which Post holds -/
def Go (p : Program) (e : Env) (below : List Frame) (Post : Outcome → State → Prop) (T : State) (g : JFrame) : Prop :=
  ∃ s₂ o, Steps p.tables e below (T.setTop g) s₂ ∧ s₂.status = .running ∧ Ended s₂ below o ∧ Post o s₂
theorem Go.st (hs : ∀ t, Steps p.tables e below (T'.setTop g') t → Steps p.tables e below (T.setTop g) t) (k : Go p e below Post T' g') : Go p e below Post T g := by
  obtain ⟨s2, o, h1, h2⟩ := k
  exact ⟨s2, o, hs _ h1, h2⟩
/-- where the walk stands: the heap is h; what was written lies at or above n0; at most ck cells and sk slots were made -/
def Stn (p : Program) (l : Launch) (e : Env) (R : Room) (s : State) (m : MethodId) (args : Array Value) (below : List Frame) (meth : Method) (c : Code) (n0 : Nat) (T : State) (h : Heap) (ck sk : Nat) : Prop :=
  T.heap = h ∧ ∃ locs, Fr n0 locs ∧ Stand p l e R s m args below meth c T locs ck sk
theorem Stn.here (X : Stn p l e R s m args below meth c n0 T h ck sk) : At T m c below := by
  obtain ⟨_, _, _, Y⟩ := X
  exact Y.here
theorem Stn.mono (X : Stn p l e R s m args below meth c n0 T h ck sk) (h1 : ck ≤ ck') (h2 : sk ≤ sk') : Stn p l e R s m args below meth c n0 T h ck' sk' := by
  obtain ⟨e1, L, N, Y⟩ := X
  exact ⟨e1, L, N, Y.more h1 h2⟩
/-- what a body's end says -/
def PostW (s : State) (n0 C S : Nat) (Q : Option Value → Heap → Prop) (o : Outcome) (U : State) : Prop :=
  ∃ v L, o = .returned v ∧ (Fr n0 L ∧ Q v U.heap) ∧ FrameEnd s o U L C S
/-- a body's contract -/
def Con (l : Launch) (y : MethodName) (bytes : ByteArray) (maxL : Nat) (ret : Option FieldType) (rm : Room) (ws : List Jvm.Cond) (Z : State) (n0 : Nat) (as' : Array Value) (h : Heap) (Q : Option Value → Heap → Prop) : Prop :=
  MetFree l y (head1 (Jvm.Cond.code y bytes maxL ret :: ws) rm) (fun a U => a = as' ∧ Z.Warmed39 U.vm ∧ U.heap = h) (fun _ _ _ _ _ => True) (fun _ U o U' => ∃ v L, o = .returned v ∧ (Fr n0 L ∧ Q v U'.heap) ∧ FrameEnd U o U' L rm.cells rm.slots)
theorem Con.body {y : MethodName} {bytes : ByteArray} {maxL : Nat} {ret : Option FieldType} {rm : Room} {ws : List Jvm.Cond} {as' : Array Value} {Q : Option Value → Heap → Prop} (hp : plainFor y = true)
    (k : ∀ (p : Program) (e : Env) (s : State) (m : MethodId) (below : List Frame) (meth : Method) (c : Code) (s₁ : State), p.tables.exec = Jvm.exec → c.code = bytes → c.maxLocals = maxL → s.vm.findClass y.cls = some m.cls → meth.name = y.name → meth.sig.returnType = ret → meth.locks = false → Z.Warmed39 s.vm →
      Stn p l e rm s m as' below meth c n0 s₁ h 0 0 → Go p e below (PostW s n0 rm.cells rm.slots Q) s₁ (entryFrame m as' maxL)) : Con l y bytes maxL ret rm ws Z n0 as' h Q := by
  refine MetFree.of_bodySF hp hisR ?_
  intro p e s m args below meth c s₁ Bd hml0 hP hK
  obtain ⟨rfl, hZ, hh⟩ := hP
  have e0 : s₁.heap = h := by rw [← hh, Bd.state]; rfl
  exact k p e s m below meth c s₁ Bd.exec Bd.bytes hml0 (findClass_of_methodNamed Bd.named) (name_of_methodNamed Bd.named Bd.method).1 Bd.returns Bd.notSynchronized hZ ⟨e0, [], Fr.nil n0, Stand.of_body Bd⟩
theorem Con.mono {y : MethodName} {bytes : ByteArray} {maxL : Nat} {ret : Option FieldType} {rm : Room} {ws : List Jvm.Cond} {as' : Array Value} {Q Q' : Option Value → Heap → Prop} (hM : Con l y bytes maxL ret rm ws Z n0 as' h Q) (hq : ∀ v h', Q v h' → Q' v h') : Con l y bytes maxL ret rm ws Z n0 as' h Q' := by
  intro p e ha hc hk s m args below hf happ hP hK
  obtain ⟨n, o, h1, h2, h3, v, L, h4, ⟨h5, h6⟩, h7⟩ := hM p e ha hc hk s m args below hf happ hP hK
  exact ⟨n, o, h1, h2, h3, v, L, h4, ⟨h5, hq _ _ h6⟩, h7⟩
/-! a long's comparison -/
theorem lcTlt {a b : Int64} (h : a < b) : ifCond.holds .lt (lcmpW a b) = true ∧ ifCond.holds .ge (lcmpW a b) = false := by
  have q : lcmpW a b < 0 := by rw [lcW]; exact (lc_lt a b).mpr h
  exact ⟨(if0 _ _).trans (tlt q).1, (if0 _ _).trans (tlt q).2.1⟩
theorem lcFlt {a b : Int64} (h : ¬ a < b) : ifCond.holds .lt (lcmpW a b) = false ∧ ifCond.holds .ge (lcmpW a b) = true := by
  have q : ¬ lcmpW a b < 0 := fun z => h ((lc_lt a b).mp (by rw [← lcW]; exact z))
  exact ⟨(if0 _ _).trans (flt q).1, (if0 _ _).trans (flt q).2.1⟩
theorem lcTgt {a b : Int64} (h : b < a) : ifCond.holds .gt (lcmpW a b) = true ∧ ifCond.holds .le (lcmpW a b) = false := by
  have q : 0 < lcmpW a b := by rw [lcW]; exact (lc_gt a b).mpr h
  exact ⟨(if0 _ _).trans (tlt q).2.2.1, (if0 _ _).trans (tlt q).2.2.2⟩
theorem lcFgt {a b : Int64} (h : ¬ b < a) : ifCond.holds .gt (lcmpW a b) = false ∧ ifCond.holds .le (lcmpW a b) = true := by
  have q : ¬ 0 < lcmpW a b := fun z => h ((lc_gt a b).mp (by rw [← lcW]; exact z))
  exact ⟨(if0 _ _).trans (flt q).2.2.1, (if0 _ _).trans (flt q).2.2.2⟩
theorem lcTeq {a b : Int64} (h : a = b) : ifCond.holds .eq (lcmpW a b) = true ∧ ifCond.holds .ne (lcmpW a b) = false := by
  have q : lcmpW a b = 0 := by rw [lcW]; exact (lc_eq a b).mpr h
  exact ⟨(if0 _ _).trans (teq q).1, (if0 _ _).trans (teq q).2⟩
theorem lcFeq {a b : Int64} (h : ¬ a = b) : ifCond.holds .eq (lcmpW a b) = false ∧ ifCond.holds .ne (lcmpW a b) = true := by
  have q : ¬ lcmpW a b = 0 := fun z => h ((lc_eq a b).mp (by rw [← lcW]; exact z))
  exact ⟨(if0 _ _).trans (feq q).1, (if0 _ _).trans (feq q).2⟩
theorem acT {a b : Addr} (h : a = b) : if_acmp.holds .eq (some a) (some b) = true ∧ if_acmp.holds .ne (some a) (some b) = false := by subst h; simp [if_acmp.holds]
theorem acF {a b : Addr} (h : ¬ a = b) : if_acmp.holds .eq (some a) (some b) = false ∧ if_acmp.holds .ne (some a) (some b) = true := by simp [if_acmp.holds, h]
/-! returns -/
theorem goRet {v : Option Value} {Q : Option Value → Heap → Prop} {C S : Nat} (X : Stn p l e R s m args below meth c n0 T h ck sk) (hlk : meth.locks = false) (hv : meth.sig.returnType = none → v = none)
    (hst : ∀ locs fs, Stand p l e R s m args below meth c T locs ck sk → (∀ (f : JFrame) (acts : List Action), f.method = m → f.locked = none → f.entered = [] → (doReturn e (T.setTop f) acts v).1 = T.setFrames fs) → Steps p.tables e below (T.setTop g) (T.setFrames fs))
    (hq : Q v h) (h1 : ck ≤ C) (h2 : sk ≤ S) : Go p e below (PostW s n0 C S Q) T g := by
  obtain ⟨eT, locs, N, Y⟩ := X
  obtain ⟨fs, hr, hrun, hended, hW, hsame⟩ := Y.leave hv hlk
  exact ⟨_, _, hst locs fs Y hr, hrun, hended, _, _, rfl, ⟨N, (by show Q v T.heap; rw [eT]; exact hq)⟩, ⟨_, rfl⟩, hW, hsame.mono h1 h2⟩
theorem goRetI {pc : Nat} {Ls : Array Slot} {z : Int32} {rest : List Value} {Q : Option Value → Heap → Prop} {C S : Nat} (X : Stn p l e R s m args below meth c n0 T h ck sk) (hx : p.tables.exec = Jvm.exec) (hlk : meth.locks = false) (hret : meth.sig.returnType = some .int)
    (hd : decode c.code pc = .ok (.ireturn, 1)) (h1 : ck ≤ C) (h2 : sk ≤ S) (hq : Q (some (.int z)) h) : Go p e below (PostW s n0 C S Q) T (mkF m pc Ls (.int z :: rest)) :=
  goRet X hlk (fun h => by rw [hret] at h; cases h) (fun _ _ Y hr => retI Y hx hret hd hr) hq h1 h2
theorem goRetZ {pc : Nat} {Ls : Array Slot} {z : Int32} {rest : List Value} {Q : Option Value → Heap → Prop} {C S : Nat} (X : Stn p l e R s m args below meth c n0 T h ck sk) (hx : p.tables.exec = Jvm.exec) (hlk : meth.locks = false) (hret : meth.sig.returnType = some .boolean)
    (hd : decode c.code pc = .ok (.ireturn, 1)) (h1 : ck ≤ C) (h2 : sk ≤ S) (hz : z = 0 ∨ z = 1) (hq : Q (some (.int z)) h) : Go p e below (PostW s n0 C S Q) T (mkF m pc Ls (.int z :: rest)) := by
  rcases hz with rfl | rfl
  · exact goRet X hlk (fun h => by rw [hret] at h; cases h) (fun _ _ Y hr => retN Y hx (t := .boolean) hret (by simp) hd hr) hq h1 h2
  · exact goRet X hlk (fun h => by rw [hret] at h; cases h) (fun _ _ Y hr => retN Y hx (t := .boolean) hret (by simp) hd hr) hq h1 h2
theorem goRetV {pc : Nat} {Ls : Array Slot} {Q : Option Value → Heap → Prop} {C S : Nat} (X : Stn p l e R s m args below meth c n0 T h ck sk) (hx : p.tables.exec = Jvm.exec) (hlk : meth.locks = false) (hret : meth.sig.returnType = none)
    (hd : decode c.code pc = .ok (.return_, 1)) (h1 : ck ≤ C) (h2 : sk ≤ S) (hq : Q none h) : Go p e below (PostW s n0 C S Q) T (mkF m pc Ls []) :=
  goRet X hlk (fun _ => rfl) (fun _ _ Y hr => Y.returnOut hx hret hd hr) hq h1 h2
theorem goRetL {pc : Nat} {Ls : Array Slot} {z : Int64} {rest : List Value} {Q : Option Value → Heap → Prop} {C S : Nat} (X : Stn p l e R s m args below meth c n0 T h ck sk) (hx : p.tables.exec = Jvm.exec) (hlk : meth.locks = false) (hret : meth.sig.returnType = some .long)
    (hd : decode c.code pc = .ok (.lreturn, 1)) (h1 : ck ≤ C) (h2 : sk ≤ S) (hq : Q (some (.long z)) h) : Go p e below (PostW s n0 C S Q) T (mkF m pc Ls (.long z :: rest)) :=
  goRet X hlk (fun h => by rw [hret] at h; cases h) (fun _ _ Y hr => by
    jvm_step Y.here [Y.here.top, hx, hd, Y.method', hret, narrow]
    first | (intro acts; rw [hr _ acts rfl rfl rfl]) | rw [hr _ _ rfl rfl rfl]
    exact Steps.refl _) hq h1 h2
theorem goRetA {pc : Nat} {Ls : Array Slot} {z : Addr} {rest : List Value} {t : FieldType} {Q : Option Value → Heap → Prop} {C S : Nat} (X : Stn p l e R s m args below meth c n0 T h ck sk) (hx : p.tables.exec = Jvm.exec) (hlk : meth.locks = false) (hret : meth.sig.returnType = some t) (ht : t.isReference = true)
    (hd : decode c.code pc = .ok (.areturn, 1)) (h1 : ck ≤ C) (h2 : sk ≤ S) (hq : Q (some (.ref z)) h) : Go p e below (PostW s n0 C S Q) T (mkF m pc Ls (.ref z :: rest)) :=
  goRet X hlk (fun h => by rw [hret] at h; cases h) (fun _ _ Y hr => by
    jvm_step Y.here [Y.here.top, hx, hd, Y.method', hret, Value.isRef, ht]
    first | (intro acts; rw [hr _ acts rfl rfl rfl]) | rw [hr _ _ rfl rfl rfl]
    exact Steps.refl _) hq h1 h2
/-! fields, objects -/
theorem goGet (X : Stn p l e R s m args below meth c n0 T h ck sk) (hx : p.tables.exec = Jvm.exec) (hZ : Z.Warmed39 s.vm) {own R0 O n d host : String} {index : Nat} (hown : s.vm.findClass own = some m.cls) (w : (Cond.fieldLink own index R0 n d).before a0 Z = true ∨ (Cond.fieldLinkNest own index R0 n d host).before a0 Z = true) (via : Via Z R0 O n d)
    {a : Addr} {v : Value} (F : Fld Z h a O n d v) {pc : Nat} {ls : Array Slot} {rest : List Value} (hd : decode c.code pc = .ok (.getfield index, 3))
    (k : ∀ T', Stn p l e R s m args below meth c n0 T' h ck sk → Go p e below Post T' (mkF m (pc + 3) ls (v :: rest))) : Go p e below Post T (mkF m pc ls (.ref a :: rest)) := by
  obtain ⟨eT, locs, N, Y⟩ := X
  obtain ⟨T', X', e', st⟩ := getF Y hx hZ hown w via eT F (g := mkF m pc ls (.ref a :: rest)) rfl rfl hd
  exact Go.st st (k T' ⟨e', locs, N, X'⟩)
theorem goPut (X : Stn p l e R s m args below meth c n0 T h ck sk) (hx : p.tables.exec = Jvm.exec) (hZ : Z.Warmed39 s.vm) {own R0 O n d host C : String} {index kk : Nat} {ty : FieldType} (hown : s.vm.findClass own = some m.cls) (w : (Cond.fieldLink own index R0 n d).before a0 Z = true ∨ (Cond.fieldLinkNest own index R0 n d host).before a0 Z = true) (via : Via Z R0 O n d)
    {a : Addr} {v old : Value} (F : Fld Z h a O n d old) (E : Exa Z h a C) (L : (Cond.lays C O n d).before a0 Z = true ∨ ((Cond.laysFinal C O n d).before a0 Z = true ∧ own = O ∧ meth.name = "<init>")) (wi : (Cond.instantiable C kk).before a0 Z = true)
    (hty : parseFieldDescriptor d = some ty) (hn : narrow ty v = v) (hf : fits ty v = true) (ha : n0 ≤ a) {pc : Nat} {ls : Array Slot} {rest : List Value} (hd : decode c.code pc = .ok (.putfield index, 3))
    (k : ∀ T' h', Stn p l e R s m args below meth c n0 T' h' ck sk → Wr h h' a (Jvm.RoadKit.slotOf Z O n d) v → Go p e below Post T' (mkF m (pc + 3) ls rest)) : Go p e below Post T (mkF m pc ls (v :: .ref a :: rest)) := by
  obtain ⟨eT, locs, N, Y⟩ := X
  obtain ⟨T', h', X', e', W, st⟩ := putF Y hx hZ hown w via eT F E L wi hty hn hf (g := mkF m pc ls (v :: .ref a :: rest)) rfl rfl hd
  exact Go.st st (k T' h' ⟨e', _, Fr.snoc X' N ha, X'⟩ W)
theorem goPutN (X : Stn p l e R s m args below meth c n0 T h ck sk) (hx : p.tables.exec = Jvm.exec) (hZ : Z.Warmed39 s.vm) {own R0 O n d C : String} {index kk : Nat} {ty : FieldType} (hown : s.vm.findClass own = some m.cls) (w : (Cond.fieldLink own index R0 n d).before a0 Z = true) (via : Via Z R0 O n d)
    {a : Addr} {v v' old : Value} (F : Fld Z h a O n d old) (E : Exa Z h a C) (L : (Cond.lays C O n d).before a0 Z = true ∨ ((Cond.laysFinal C O n d).before a0 Z = true ∧ own = O ∧ meth.name = "<init>")) (wi : (Cond.instantiable C kk).before a0 Z = true)
    (hty : parseFieldDescriptor d = some ty) (hn : narrow ty v = v') (hf : fits ty v' = true) (ha : n0 ≤ a) {pc : Nat} {ls : Array Slot} {rest : List Value} (hd : decode c.code pc = .ok (.putfield index, 3))
    (k : ∀ T' h', Stn p l e R s m args below meth c n0 T' h' ck sk → Wr h h' a (Jvm.RoadKit.slotOf Z O n d) v' → Go p e below Post T' (mkF m (pc + 3) ls rest)) : Go p e below Post T (mkF m pc ls (v :: .ref a :: rest)) := by
  obtain ⟨eT, locs, N, Y⟩ := X
  obtain ⟨T', h', X', e', W, st⟩ := putFN Y hx hZ hown w via eT F E L wi hty hn hf (g := mkF m pc ls (v :: .ref a :: rest)) rfl rfl hd
  exact Go.st st (k T' h' ⟨e', _, Fr.snoc X' N ha, X'⟩ W)
theorem goNew (X : Stn p l e R s m args below meth c n0 T h ck sk) (hx : p.tables.exec = Jvm.exec) (hZ : Z.Warmed39 s.vm) {own C : String} {index n : Nat} (hown : s.vm.findClass own = some m.cls) (w : (Cond.classLink own index C).before a0 Z = true) (wi : (Cond.instantiable C n).before a0 Z = true) (wz : (Cond.initialized C).before a0 Z = true)
    {pc : Nat} {ls : Array Slot} {st : List Value} (hd : decode c.code pc = .ok (.new index, 3)) (hc : ck + 1 ≤ R.cells) (hl : sk + n ≤ R.slots)
    (k : ∀ T' h' a, a = h.size → Stn p l e R s m args below meth c n0 T' h' (ck + 1) (sk + n) → Ext h h' → Exa Z h' a C → (∀ {O nm d : String} {ty : FieldType}, Laid Z a0 C O nm d → parseFieldDescriptor d = some ty → Fld Z h' a O nm d (defaultValue ty)) → Go p e below Post T' (mkF m (pc + 3) ls (.ref a :: st))) : Go p e below Post T (mkF m pc ls st) := by
  obtain ⟨eT, locs, N, Y⟩ := X
  obtain ⟨T', h', X', e', E, A, D, -, stp⟩ := newO Y hx hZ hown w wi wz eT (g := mkF m pc ls st) rfl hd hc hl
  exact Go.st stp (k T' h' _ rfl ⟨e', locs, N, X'⟩ E A D)
theorem goInit (X : Stn p l e R s m args below meth c n0 T h ck sk) (hx : p.tables.exec = Jvm.exec) (hZ : Z.Warmed39 s.vm) {own : String} {idx : Nat} (hown : s.vm.findClass own = some m.cls) (w1 : (Cond.methodLink own idx Lib.objectInit).before a0 Z = true) (w2 : (Cond.instanceMethod Lib.objectInit).before a0 Z = true)
    (w3 : (Cond.code Lib.objectInit object_method_1_code 1 none).before a0 Z = true) {pc : Nat} {ls : Array Slot} {a : Addr} {rest : List Value} (hsize : ls.size = c.maxLocals) (hd : decode c.code pc = .ok (.invokespecial idx, 3))
    (hf : 1 ≤ R.frames) {W : Nat} (hW : (rest.map fun v => v.category).sum ≤ W) (hl : W + 12 ≤ R.locals)
    (k : ∀ T', Stn p l e R s m args below meth c n0 T' h ck sk → Go p e below Post T' (mkF m (pc + 3) ls rest)) : Go p e below Post T (mkF m pc ls (.ref a :: rest)) := by
  obtain ⟨eT, locs, N, Y⟩ := X
  obtain ⟨T', X', e', st⟩ := initO Y hx hZ hown w1 w2 w3 eT (g := mkF m pc ls (.ref a :: rest)) rfl hsize rfl hd hf (W := W) (by show 2 * 0 + _ ≤ _; omega) hl
  exact Go.st st (k T' ⟨e', locs, N, X'⟩)
theorem Stn.ldcI (X : Stn p l e R s m args below meth c n0 T h ck sk) (hx : p.tables.exec = Jvm.exec) (hZ : Z.Warmed39 s.vm) {own : String} {index : Nat} {v : Int32} (hown : s.vm.findClass own = some m.cls) (w : (Cond.constant own index v).before a0 Z = true)
    {pc : Nat} {ls : Array Slot} {st : List Value} (hd : decode c.code pc = .ok (.ldc index, 2)) {t : State} (k : Steps p.tables e below (T.setTop (mkF m (pc + 2) ls (.int v :: st))) t) : Steps p.tables e below (T.setTop (mkF m pc ls st)) t := by
  obtain ⟨eT, locs, N, Y⟩ := X
  exact Y.ldcInt hx hown (mvT hZ w) (g := mkF m pc ls st) rfl hd t k
theorem Stn.ldcJ (X : Stn p l e R s m args below meth c n0 T h ck sk) (hx : p.tables.exec = Jvm.exec) (hZ : Z.Warmed39 s.vm) {own : String} {index : Nat} {v : Int64} (hown : s.vm.findClass own = some m.cls) (w : (Cond.constantLong own index v).before a0 Z = true)
    {pc : Nat} {ls : Array Slot} {st : List Value} (hd : decode c.code pc = .ok (.ldc2_w index, 3)) {t : State} (k : Steps p.tables e below (T.setTop (mkF m (pc + 3) ls (.long v :: st))) t) : Steps p.tables e below (T.setTop (mkF m pc ls st)) t := by
  obtain ⟨eT, locs, N, Y⟩ := X
  exact Y.ldc2Long hx hown (mvT hZ w) (g := mkF m pc ls st) rfl hd t k
/-! arrays: of kind ty, length n, whose places hold f -/
def Ary (Z : State) (h : Heap) (a : Addr) (ty : FieldType) (n : Nat) (f : Nat → Value) : Prop := ∃ cl : Cell, Arr Z h a cl ty ∧ cl.slots.size = n ∧ ∀ i, i < n → cl.slots[i]? = some (f i)
theorem Ary.lt {a : Addr} {ty : FieldType} {n : Nat} {f : Nat → Value} (A : Ary Z h a ty n f) : a < h.size := by obtain ⟨cl, A, -⟩ := A; exact A.lt
theorem Ary.ext {a : Addr} {ty : FieldType} {n : Nat} {f : Nat → Value} (E : Ext h h') (A : Ary Z h a ty n f) : Ary Z h' a ty n f := by obtain ⟨cl, A, r⟩ := A; exact ⟨cl, A.ext E, r⟩
theorem Ary.other {a b : Addr} {ty : FieldType} {n sl : Nat} {f : Nat → Value} {v : Value} (W : Wr h h' b sl v) (A : Ary Z h a ty n f) (q : a ≠ b) : Ary Z h' a ty n f := by obtain ⟨cl, A, r⟩ := A; exact ⟨cl, A.other W q, r⟩
theorem Ary.keep {a : Addr} {ty : FieldType} {n : Nat} {f : Nat → Value} {ws : List Addr} (A : Ary Z h a ty n f) (K : Keep h h' ws) (q : a ∉ ws) : Ary Z h' a ty n f := by obtain ⟨cl, A, r⟩ := A; exact ⟨cl, ⟨K.2.1 a cl A.1 q, A.2⟩, r⟩
theorem Ary.congr {a : Addr} {ty : FieldType} {n : Nat} {f f' : Nat → Value} (A : Ary Z h a ty n f) (q : ∀ i, i < n → f i = f' i) : Ary Z h a ty n f' := by obtain ⟨cl, A, r1, r2⟩ := A; exact ⟨cl, A, r1, fun i hi => by rw [← q i hi]; exact r2 i hi⟩
theorem Ary.set {a : Addr} {ty : FieldType} {n j : Nat} {f : Nat → Value} {v : Value} (A : Ary Z h a ty n f) (W : Wr h h' a j v) : Ary Z h' a ty n (fun i => if i = j then v else f i) := by
  obtain ⟨cl, A, r1, r2⟩ := A
  have A' := A.same W
  obtain ⟨c1, q1, -, q2, -⟩ := W
  cases q1.symm.trans A.1
  refine ⟨_, A', by rw [sz_set]; exact r1, fun i hi => ?_⟩
  by_cases hij : i = j
  · subst hij
    simp [Cell.setSlot, q2]
  · have : j ≠ i := fun z => hij z.symm
    simp [Cell.setSlot, hij, Array.getElem?_setIfInBounds_ne this, r2 i hi]
theorem Ary.new {k : ClassId} {a : Addr} {ty : FieldType} {z : Int32} (A : Arr Z h a (newA k ty z) ty) : Ary Z h a ty z.toNatClampNeg (fun _ => defaultValue ty) :=
  ⟨_, A, sz_new _ _ _, fun i hi => by simp [newA, hi]⟩
theorem ne_ary {a b : Addr} {C : String} {kk n : Nat} {ty : FieldType} {f : Nat → Value} (F : Exa Z h a C) (wi : (Cond.instantiable C kk).before a0 Z = true) (G : Ary Z h b ty n f) : a ≠ b := by
  obtain ⟨cl, A, -⟩ := G
  exact ne_arr F wi A
theorem goNewA (X : Stn p l e R s m args below meth c n0 T h ck sk) (hx : p.tables.exec = Jvm.exec) (hZ : Z.Warmed39 s.vm) {aty : ArrayType} (w : (Cond.arrayClass (newarray.typeOf aty)).before a0 Z = true)
    {pc : Nat} {ls : Array Slot} {n : Int32} {rest : List Value} (hd : decode c.code pc = .ok (.newarray aty, 2)) (hn : ¬ n < 0) {cap : Nat} (hcap : n.toNatClampNeg ≤ cap) (hb : cap * 8 ≤ 536870912) (hc : ck + 1 ≤ R.cells) (hl : sk + cap ≤ R.slots) {ad : String} (had : "[" ++ (newarray.typeOf aty).toString = ad)
    (k : ∀ T' h' a, a = h.size → Stn p l e R s m args below meth c n0 T' h' (ck + 1) (sk + cap) → Ext h h' → Exa Z h' a ad → Ary Z h' a (newarray.typeOf aty) n.toNatClampNeg (fun _ => defaultValue (newarray.typeOf aty)) → Go p e below Post T' (mkF m (pc + 2) ls (.ref a :: rest))) : Go p e below Post T (mkF m pc ls (.int n :: rest)) := by
  obtain ⟨eT, locs, N, Y⟩ := X
  obtain ⟨T', h', cA, X', e', E, A, Ex, st⟩ := newPE Y hx hZ w eT (g := mkF m pc ls (.int n :: rest)) rfl hd rfl hn hcap hb hc hl had
  exact Go.st st (k T' h' _ rfl ⟨e', locs, N, X'⟩ E Ex (Ary.new A))
theorem goClone (X : Stn p l e R s m args below meth c n0 T h ck sk) (hx : p.tables.exec = Jvm.exec) (hZ : Z.Warmed39 s.vm) {own ad : String} {index : Nat} (hown : s.vm.findClass own = some m.cls)
    (w1 : (Cond.methodLink own index ⟨ad, "clone", "()Ljava/lang/Object;"⟩).before a0 Z = true) (w2 : (Cond.sameMethod ad "java/lang/Object" "clone" "()Ljava/lang/Object;").before a0 Z = true) (w3 : (Cond.native ⟨"java/lang/Object", "clone", "()Ljava/lang/Object;"⟩).before a0 Z = true)
    (w4 : (Cond.instanceMethod ⟨"java/lang/Object", "clone", "()Ljava/lang/Object;"⟩).before a0 Z = true) (w5 : (Cond.selects ad ⟨ad, "clone", "()Ljava/lang/Object;"⟩ ⟨"java/lang/Object", "clone", "()Ljava/lang/Object;"⟩).before a0 Z = true) (w6 : (Cond.castable ad "java/lang/Cloneable").before a0 Z = true)
    {a : Addr} {ty : FieldType} {n : Nat} {f : Nat → Value} (A : Ary Z h a ty n f) (E : Exa Z h a ad) (hfit : ∀ i, i < n → fits ty (f i) = true) {pc : Nat} {ls : Array Slot} {rest : List Value} (hsize : ls.size = c.maxLocals) (hd : decode c.code pc = .ok (.invokevirtual index, 3))
    (hf : 1 ≤ R.frames) {W cap : Nat} (hW : (rest.map fun v => v.category).sum = W) (hl : W + 14 ≤ R.locals) (hcap : n ≤ cap) (hc : ck + 1 ≤ R.cells) (hsl : sk + cap ≤ R.slots)
    (k : ∀ T' h' b, b = h.size → Stn p l e R s m args below meth c n0 T' h' (ck + 1) (sk + cap) → Ext h h' → Exa Z h' b ad → Ary Z h' b ty n f → Go p e below Post T' (mkF m (pc + 3) ls (.ref b :: rest))) : Go p e below Post T (mkF m pc ls (.ref a :: rest)) := by
  obtain ⟨eT, locs, N, Y⟩ := X
  obtain ⟨cl, A, r1, r2⟩ := A
  have FC : FitC Z cl := fitC_of A fun i hi v hv => by
    rw [r2 i (r1 ▸ hi)] at hv
    cases hv
    exact hfit i (r1 ▸ hi)
  obtain ⟨T', h', X', e', Ex, A', E', st⟩ := cloneA Y hx hZ hown w1 w2 w3 w4 w5 w6 eT A E FC (g := mkF m pc ls (.ref a :: rest)) rfl hsize rfl hd hf (W := W) (cap := cap) (by show 2 * 0 + _ ≤ _; omega) hl (by rw [r1]; exact hcap) hc hsl
  exact Go.st st (k T' h' _ rfl ⟨e', locs, N, X'⟩ Ex E' ⟨_, A', r1, r2⟩)
theorem goCast (X : Stn p l e R s m args below meth c n0 T h ck sk) (hx : p.tables.exec = Jvm.exec) (hZ : Z.Warmed39 s.vm) {own K : String} {index : Nat} (hown : s.vm.findClass own = some m.cls) (w : (Cond.classLink own index K).before a0 Z = true) {a : Addr} (F : Ins Z h a K true)
    {pc : Nat} {ls : Array Slot} {rest : List Value} (hd : decode c.code pc = .ok (.checkcast index, 3)) (k : ∀ T', Stn p l e R s m args below meth c n0 T' h ck sk → Go p e below Post T' (mkF m (pc + 3) ls (.ref a :: rest))) : Go p e below Post T (mkF m pc ls (.ref a :: rest)) := by
  obtain ⟨eT, locs, N, Y⟩ := X
  obtain ⟨T', X', e', st⟩ := castY Y hx hZ hown w eT F (g := mkF m pc ls (.ref a :: rest)) rfl rfl hd
  exact Go.st st (k T' ⟨e', locs, N, X'⟩)
theorem goLen (X : Stn p l e R s m args below meth c n0 T h ck sk) (hx : p.tables.exec = Jvm.exec) (hZ : Z.Warmed39 s.vm) {a : Addr} {ty : FieldType} {n : Nat} {f : Nat → Value} (A : Ary Z h a ty n f) {pc : Nat} {ls : Array Slot} {rest : List Value} (hd : decode c.code pc = .ok (.arraylength, 1))
    (k : Go p e below Post T (mkF m (pc + 1) ls (.int n.toInt32 :: rest))) : Go p e below Post T (mkF m pc ls (.ref a :: rest)) := by
  obtain ⟨eT, locs, N, Y⟩ := X
  obtain ⟨cl, A, r1, -⟩ := A
  subst r1
  exact Go.st (fun t q => Y.arraylength hx (by rw [eT]; exact A.1) (State.isArrayOf_alike hZ.alike A.2.1) (g := mkF m pc ls (.ref a :: rest)) rfl rfl hd t q) k
theorem goLdI (X : Stn p l e R s m args below meth c n0 T h ck sk) (hx : p.tables.exec = Jvm.exec) (hZ : Z.Warmed39 s.vm) {a : Addr} {n : Nat} {f : Nat → Int32} (A : Ary Z h a .int n (fun i => .int (f i))) {j : Int32} (hj : ¬ (j < 0 ∨ n ≤ j.toNatClampNeg)) {pc : Nat} {ls : Array Slot} {rest : List Value} (hd : decode c.code pc = .ok (.iaload, 1))
    (k : Go p e below Post T (mkF m (pc + 1) ls (.int (f j.toNatClampNeg) :: rest))) : Go p e below Post T (mkF m pc ls (.int j :: .ref a :: rest)) := by
  obtain ⟨eT, locs, N, Y⟩ := X
  obtain ⟨cl, A, r1, r2⟩ := A
  subst r1
  exact Go.st (fun t q => Y.iaload hx (j := j) (v := .int (f j.toNatClampNeg)) (by rw [eT]; exact A.1) (State.isArrayOf_alike hZ.alike A.2.1) A.2.2 hj (r2 _ (by omega)) (g := mkF m pc ls (.int j :: .ref a :: rest)) rfl rfl hd t q) k
theorem goLdJ (X : Stn p l e R s m args below meth c n0 T h ck sk) (hx : p.tables.exec = Jvm.exec) (hZ : Z.Warmed39 s.vm) {a : Addr} {n : Nat} {f : Nat → Int64} (A : Ary Z h a .long n (fun i => .long (f i))) {j : Int32} (hj : ¬ (j < 0 ∨ n ≤ j.toNatClampNeg)) {pc : Nat} {ls : Array Slot} {rest : List Value} (hd : decode c.code pc = .ok (.laload, 1))
    (k : Go p e below Post T (mkF m (pc + 1) ls (.long (f j.toNatClampNeg) :: rest))) : Go p e below Post T (mkF m pc ls (.int j :: .ref a :: rest)) := by
  obtain ⟨eT, locs, N, Y⟩ := X
  obtain ⟨cl, A, r1, r2⟩ := A
  subst r1
  exact Go.st (fun t q => Y.laload hx (j := j) (v := .long (f j.toNatClampNeg)) (by rw [eT]; exact A.1) (State.isArrayOf_alike hZ.alike A.2.1) A.2.2 hj (r2 _ (by omega)) (g := mkF m pc ls (.int j :: .ref a :: rest)) rfl rfl hd t q) k
theorem goStI (X : Stn p l e R s m args below meth c n0 T h ck sk) (hx : p.tables.exec = Jvm.exec) (hZ : Z.Warmed39 s.vm) {a : Addr} {n : Nat} {f : Nat → Int32} (A : Ary Z h a .int n (fun i => .int (f i))) {j x : Int32} (hj : ¬ (j < 0 ∨ n ≤ j.toNatClampNeg)) (ha : n0 ≤ a) {pc : Nat} {ls : Array Slot} {rest : List Value} (hd : decode c.code pc = .ok (.iastore, 1))
    (k : ∀ T' h', Stn p l e R s m args below meth c n0 T' h' ck sk → Wr h h' a j.toNatClampNeg (.int x) → Ary Z h' a .int n (fun i => .int (if i = j.toNatClampNeg then x else f i)) → Go p e below Post T' (mkF m (pc + 1) ls rest)) : Go p e below Post T (mkF m pc ls (.int x :: .int j :: .ref a :: rest)) := by
  obtain ⟨eT, locs, N, Y⟩ := X
  have A0 := A
  obtain ⟨cl, A, r1, r2⟩ := A
  subst r1
  obtain ⟨T', h', X', e', W, st⟩ := stI Y hx hZ eT A hj (g := mkF m pc ls (.int x :: .int j :: .ref a :: rest)) rfl rfl hd
  exact Go.st st (k T' h' ⟨e', _, Fr.snoc X' N ha, X'⟩ W ((A0.set W).congr fun i _ => by split <;> rfl))
theorem goStJ (X : Stn p l e R s m args below meth c n0 T h ck sk) (hx : p.tables.exec = Jvm.exec) (hZ : Z.Warmed39 s.vm) {a : Addr} {n : Nat} {f : Nat → Int64} (A : Ary Z h a .long n (fun i => .long (f i))) {j : Int32} {x : Int64} (hj : ¬ (j < 0 ∨ n ≤ j.toNatClampNeg)) (ha : n0 ≤ a) {pc : Nat} {ls : Array Slot} {rest : List Value} (hd : decode c.code pc = .ok (.lastore, 1))
    (k : ∀ T' h', Stn p l e R s m args below meth c n0 T' h' ck sk → Wr h h' a j.toNatClampNeg (.long x) → Ary Z h' a .long n (fun i => .long (if i = j.toNatClampNeg then x else f i)) → Go p e below Post T' (mkF m (pc + 1) ls rest)) : Go p e below Post T (mkF m pc ls (.long x :: .int j :: .ref a :: rest)) := by
  obtain ⟨eT, locs, N, Y⟩ := X
  have A0 := A
  obtain ⟨cl, A, r1, r2⟩ := A
  subst r1
  obtain ⟨T', h', X', e', W, st⟩ := stJ Y hx hZ eT A hj (g := mkF m pc ls (.long x :: .int j :: .ref a :: rest)) rfl rfl hd
  exact Go.st st (k T' h' ⟨e', _, Fr.snoc X' N ha, X'⟩ W ((A0.set W).congr fun i _ => by split <;> rfl))
/-! calls -/
theorem goStatic (X : Stn p l e R s m args below meth c n0 T h ck sk) (hx : p.tables.exec = Jvm.exec) (hZ : Z.Warmed39 s.vm) {own : String} {index : Nat} {y : MethodName} {bytes : ByteArray} {maxL : Nat} {ret : Option FieldType} {rm : Room} {as' : Array Value} {Q : Option Value → Heap → Prop}
    (hown : s.vm.findClass own = some m.cls) (w1 : (Cond.methodLink own index y).before a0 Z = true) (w2 : (Cond.static y).before a0 Z = true) (w3 : (Cond.initialized y.cls).before a0 Z = true) (w4 : (Cond.code y bytes maxL ret).before a0 Z = true)
    (hy : y.cls ≠ "java/lang/invoke/MethodHandle" ∧ y.cls ≠ "java/lang/invoke/VarHandle") (hM : Con l y bytes maxL ret rm [] Z n0 as' h Q) (W : Nat) (hf : rm.frames + 1 ≤ R.frames) (hl : W + (maxL + 11) + rm.locals ≤ R.locals)
    {pc : Nat} {ls : Array Slot} {stk : List Value} (hsize : ls.size = c.maxLocals) (argsL rest : List Value) (hlen : ∀ sig, parseMethodDescriptor y.desc = some sig → argsL.length = sig.parameters.length) (has : argsL.toArray = as') (hstk : stk = argsL.reverse ++ rest) (hW : (rest.map fun v => v.category).sum = W)
    (hd : decode c.code pc = .ok (.invokestatic index, 3)) (hc : ck + rm.cells ≤ R.cells) (hs : sk + rm.slots ≤ R.slots)
    (k : ∀ v T' h', Stn p l e R s m args below meth c n0 T' h' (ck + rm.cells) (sk + rm.slots) → Q v h' → Go p e below Post T' (mkF m (pc + 3) ls (v.toList ++ rest))) : Go p e below Post T (mkF m pc ls stk) := by
  obtain ⟨eT, locs, N, Y⟩ := X
  obtain ⟨v, _, ⟨T', L', k', n'⟩, -, X', ⟨Lc, ⟨hN, hQ⟩, l', y', z'⟩, st⟩ := Jvm.LawKit.callS Y hx (y := y) hown (mvT hZ w1) (mvT hZ w2) (mvT hZ w3) (mvT hZ w4) hy (backOf (W := W) (Q := fun v h' L => Fr n0 L ∧ Q v h') hM hZ w4 w3 hf hl) (g := mkF m pc ls stk) rfl hsize (argsL := argsL) (rest := rest) hlen hstk (by show 2 * 0 + _ ≤ _; omega) hd (fun _ _ => ⟨has, eT, hc, hs⟩)
  dsimp only [Pt.U, Pt.locs, Pt.cells, Pt.slots] at X' l' y' z' st hQ
  subst l' y' z'
  exact Go.st st (k v T' T'.heap ⟨rfl, _, Fr.app N hN, X'⟩ hQ)
theorem goCtor (X : Stn p l e R s m args below meth c n0 T h ck sk) (hx : p.tables.exec = Jvm.exec) (hZ : Z.Warmed39 s.vm) {own : String} {index : Nat} {y : MethodName} {bytes : ByteArray} {maxL : Nat} {rm : Room} {as' : Array Value} {Q : Option Value → Heap → Prop} (hy1 : y.name = "<init>")
    (hown : s.vm.findClass own = some m.cls) (w1 : (Cond.methodLink own index y).before a0 Z = true) (w2 : (Cond.instanceMethod y).before a0 Z = true) (w3 : (Cond.initialized y.cls).before a0 Z = true) (w4 : (Cond.code y bytes maxL none).before a0 Z = true)
    (hy : y.cls ≠ "java/lang/invoke/MethodHandle" ∧ y.cls ≠ "java/lang/invoke/VarHandle") (hM : Con l y bytes maxL none rm [] Z n0 as' h Q) (W : Nat) (hf : rm.frames + 1 ≤ R.frames) (hl : W + (maxL + 11) + rm.locals ≤ R.locals)
    {pc : Nat} {ls : Array Slot} {stk : List Value} (hsize : ls.size = c.maxLocals) (a : Addr) (argsL rest : List Value) (hlen : ∀ sig, parseMethodDescriptor y.desc = some sig → argsL.length = sig.parameters.length) (has : (.ref a :: argsL).toArray = as') (hstk : stk = argsL.reverse ++ .ref a :: rest) (hW : (rest.map fun v => v.category).sum = W)
    (hd : decode c.code pc = .ok (.invokespecial index, 3)) (hc : ck + rm.cells ≤ R.cells) (hs : sk + rm.slots ≤ R.slots)
    (k : ∀ v T' h', Stn p l e R s m args below meth c n0 T' h' (ck + rm.cells) (sk + rm.slots) → Q v h' → Go p e below Post T' (mkF m (pc + 3) ls (v.toList ++ rest))) : Go p e below Post T (mkF m pc ls stk) := by
  obtain ⟨eT, locs, N, Y⟩ := X
  obtain ⟨v, _, ⟨T', L', k', n'⟩, -, X', ⟨Lc, ⟨hN, hQ⟩, l', y', z'⟩, st⟩ := Y.specialBack hx (y := y) hy1 hown (mvT hZ w1) (mvT hZ w2) (mvT hZ w4) hy (backOf (W := W) (Q := fun v h' L => Fr n0 L ∧ Q v h') hM hZ w4 w3 hf hl) (g := mkF m pc ls stk) rfl hsize (Steps.refl _) (a := a) (argsL := argsL) (rest := rest) hlen hstk (by show 2 * 0 + _ ≤ _; omega) hd (fun _ _ => ⟨has, eT, hc, hs⟩)
  dsimp only [Pt.U, Pt.locs, Pt.cells, Pt.slots] at X' l' y' z' st hQ
  subst l' y' z'
  exact Go.st (fun t q => st.trans q) (k v T' T'.heap ⟨rfl, _, Fr.app N hN, X'⟩ hQ)
theorem goVirt (X : Stn p l e R s m args below meth c n0 T h ck sk) (hx : p.tables.exec = Jvm.exec) (hZ : Z.Warmed39 s.vm) {own C : String} {index : Nat} {y z : MethodName} {bytes : ByteArray} {maxL : Nat} {ret : Option FieldType} {rm : Room} {as' : Array Value} {Q : Option Value → Heap → Prop}
    (hown : s.vm.findClass own = some m.cls) (w1 : (Cond.methodLink own index y).before a0 Z = true) (w2 : (Cond.declares y).before a0 Z = true) (nf : NotFace s y) (w5 : (Cond.selects C y z).before a0 Z = true) (w6 : (Cond.instanceMethod z).before a0 Z = true) (w3 : (Cond.initialized z.cls).before a0 Z = true) (w4 : (Cond.code z bytes maxL ret).before a0 Z = true)
    (hy : y.cls ≠ "java/lang/invoke/MethodHandle" ∧ y.cls ≠ "java/lang/invoke/VarHandle") {a : Addr} (E : Exa Z h a C) (hM : Con l z bytes maxL ret rm [] Z n0 as' h Q) (W : Nat) (hf : rm.frames + 1 ≤ R.frames) (hl : W + (maxL + 11) + rm.locals ≤ R.locals)
    {pc : Nat} {ls : Array Slot} {stk : List Value} (hsize : ls.size = c.maxLocals) (argsL rest : List Value) (hlen : ∀ sig, parseMethodDescriptor y.desc = some sig → argsL.length = sig.parameters.length) (has : (.ref a :: argsL).toArray = as') (hstk : stk = argsL.reverse ++ .ref a :: rest) (hW : (rest.map fun v => v.category).sum = W)
    (hd : decode c.code pc = .ok (.invokevirtual index, 3)) (hc : ck + rm.cells ≤ R.cells) (hs : sk + rm.slots ≤ R.slots)
    (k : ∀ v T' h', Stn p l e R s m args below meth c n0 T' h' (ck + rm.cells) (sk + rm.slots) → Q v h' → Go p e below Post T' (mkF m (pc + 3) ls (v.toList ++ rest))) : Go p e below Post T (mkF m pc ls stk) := by
  obtain ⟨eT, locs, N, Y⟩ := X
  obtain ⟨cq, kq, q1, q2, q3⟩ := isOf hZ eT E
  obtain ⟨v, _, ⟨T', L', k', n'⟩, -, X', ⟨Lc, ⟨hN, hQ⟩, l', y', z'⟩, st⟩ := Y.virtualBack hx (y := y) (z := z) hown (mvT hZ w1) (mvT hZ w2) nf (mvT hZ w5) (mvT hZ w6) hy (backOf (W := W) (Q := fun v h' L => Fr n0 L ∧ Q v h') hM hZ w4 w3 hf hl) q1 q3 (g := mkF m pc ls stk) rfl hsize (Steps.refl _) (argsL := argsL) (rest := rest) hlen hstk (by show 2 * 0 + _ ≤ _; omega) hd (fun _ _ => ⟨has, eT, hc, hs⟩)
  dsimp only [Pt.U, Pt.locs, Pt.cells, Pt.slots] at X' l' y' z' st hQ
  subst l' y' z'
  exact Go.st (fun t q => st.trans q) (k v T' T'.heap ⟨rfl, _, Fr.app N hN, X'⟩ hQ)
theorem goVirtS (X : Stn p l e R s m args below meth c n0 T h ck sk) (hx : p.tables.exec = Jvm.exec) (hZ : Z.Warmed39 s.vm) {own : String} {index : Nat} {y : MethodName} {bytes : ByteArray} {maxL : Nat} {ret : Option FieldType} {rm : Room} {as' : Array Value} {Q : Option Value → Heap → Prop}
    (hown : s.vm.findClass own = some m.cls) (w1 : (Cond.methodLink own index y).before a0 Z = true) (w2 : (Cond.declares y).before a0 Z = true) (w5 : (Cond.selects y.cls y y).before a0 Z = true) (w6 : (Cond.instanceMethod y).before a0 Z = true) (w3 : (Cond.initialized y.cls).before a0 Z = true) (w4 : (Cond.code y bytes maxL ret).before a0 Z = true)
    (hy : y.cls ≠ "java/lang/invoke/MethodHandle" ∧ y.cls ≠ "java/lang/invoke/VarHandle") {a : Addr} (E : Exa Z h a y.cls) (hM : Con l y bytes maxL ret rm [] Z n0 as' h Q) (W : Nat) (hf : rm.frames + 1 ≤ R.frames) (hl : W + (maxL + 11) + rm.locals ≤ R.locals)
    {pc : Nat} {ls : Array Slot} {stk : List Value} (hsize : ls.size = c.maxLocals) (argsL rest : List Value) (hlen : ∀ sig, parseMethodDescriptor y.desc = some sig → argsL.length = sig.parameters.length) (has : (.ref a :: argsL).toArray = as') (hstk : stk = argsL.reverse ++ .ref a :: rest) (hW : (rest.map fun v => v.category).sum = W)
    (hd : decode c.code pc = .ok (.invokevirtual index, 3)) (hc : ck + rm.cells ≤ R.cells) (hs : sk + rm.slots ≤ R.slots)
    (k : ∀ v T' h', Stn p l e R s m args below meth c n0 T' h' (ck + rm.cells) (sk + rm.slots) → Q v h' → Go p e below Post T' (mkF m (pc + 3) ls (v.toList ++ rest))) : Go p e below Post T (mkF m pc ls stk) :=
  goVirt X hx hZ hown w1 w2 (notFace_of_selects (args := #[]) (mvT hZ w5)) w5 w6 w3 w4 hy E hM W hf hl hsize argsL rest hlen has hstk hW hd hc hs k
theorem goPriv (X : Stn p l e R s m args below meth c n0 T h ck sk) (hx : p.tables.exec = Jvm.exec) (hZ : Z.Warmed39 s.vm) {own C : String} {index : Nat} {y : MethodName} {bytes : ByteArray} {maxL : Nat} {ret : Option FieldType} {rm : Room} {as' : Array Value} {Q : Option Value → Heap → Prop}
    (hown : s.vm.findClass own = some m.cls) (w1 : (Cond.methodLink own index y).before a0 Z = true) (w6 : (Cond.instanceMethod y).before a0 Z = true) {kk : Nat} (wi : (Cond.instantiable y.cls kk).before a0 Z = true) (w7 : (Cond.privateMethod y).before a0 Z = true) (w3 : (Cond.initialized y.cls).before a0 Z = true) (w4 : (Cond.code y bytes maxL ret).before a0 Z = true)
    (hy : y.cls ≠ "java/lang/invoke/MethodHandle" ∧ y.cls ≠ "java/lang/invoke/VarHandle") {a : Addr} (E : Exa Z h a C) (hM : Con l y bytes maxL ret rm [] Z n0 as' h Q) (W : Nat) (hf : rm.frames + 1 ≤ R.frames) (hl : W + (maxL + 11) + rm.locals ≤ R.locals)
    {pc : Nat} {ls : Array Slot} {stk : List Value} (hsize : ls.size = c.maxLocals) (argsL rest : List Value) (hlen : ∀ sig, parseMethodDescriptor y.desc = some sig → argsL.length = sig.parameters.length) (has : (.ref a :: argsL).toArray = as') (hstk : stk = argsL.reverse ++ .ref a :: rest) (hW : (rest.map fun v => v.category).sum = W)
    (hd : decode c.code pc = .ok (.invokevirtual index, 3)) (hc : ck + rm.cells ≤ R.cells) (hs : sk + rm.slots ≤ R.slots)
    (k : ∀ v T' h', Stn p l e R s m args below meth c n0 T' h' (ck + rm.cells) (sk + rm.slots) → Q v h' → Go p e below Post T' (mkF m (pc + 3) ls (v.toList ++ rest))) : Go p e below Post T (mkF m pc ls stk) := by
  obtain ⟨eT, locs, N, Y⟩ := X
  obtain ⟨cq, q1, q2⟩ := E.cell
  have hi : (Cond.instantiable y.cls kk).before args s = true := mvT hZ wi
  obtain ⟨ci, ki, i1, i2, -, i4, -⟩ := Cond.instantiable_spec hi
  have i7 : ki.isInterface = false := by
    cases q : ki.isInterface
    · rfl
    · rw [q] at i4; cases i4
  have hsel : (Cond.selects y.cls y y).before args s = true := selects_self_of_private i1 i2 i7 (Cond.privateMethod_at (mvP hZ w7 (args := #[]))) (mvT hZ w6) hy
  obtain ⟨v, _, ⟨T', L', k', n'⟩, -, X', ⟨Lc, ⟨hN, hQ⟩, l', y', z'⟩, st⟩ := Y.privateBack hx (y := y) hown (mvT hZ w1) (mvT hZ w6) hsel (Cond.privateMethod_at (mvP hZ w7 (args := #[]))) (mvT hZ w4) hy (backOf (W := W) (Q := fun v h' L => Fr n0 L ∧ Q v h') hM hZ w4 w3 hf hl) (g := mkF m pc ls stk) rfl hsize (Steps.refl _) (a := a) (by rw [eT]; exact q1) q2 (argsL := argsL) (rest := rest) hlen hstk (by show 2 * 0 + _ ≤ _; omega) hd (fun _ _ => ⟨has, eT, hc, hs⟩)
  dsimp only [Pt.U, Pt.locs, Pt.cells, Pt.slots] at X' l' y' z' st hQ
  subst l' y' z'
  exact Go.st (fun t q => st.trans q) (k v T' T'.heap ⟨rfl, _, Fr.app N hN, X'⟩ hQ)
theorem own_i32_rem (x y : Int32) : x - (x / y) * y = x % y := by
  apply Int32.toInt_inj.mp
  rw [Int32.toInt_mod, Int32.toInt_sub, Int32.toInt_mul, Int32.toInt_div]
  have hb : x.toInt.tmod y.toInt = (x.toInt.tmod y.toInt).bmod (2 ^ 32) := by
    rw [← Int32.toInt_mod]
    exact (Int32.toInt_bmod _).symm
  rw [hb, Int.tmod_def]
  simp [Int.mul_comm]
theorem own_irem {T target : State} (X : At T m c below) (hx : p.tables.exec = Jvm.exec) {pc : Nat} {ls : Array Slot} {x y : Int32} {rest : List Value} (hd : decode c.code pc = .ok (.irem, 1)) (hy : y ≠ 0)
    (hr : Steps p.tables e below (T.setTop (mkF m (pc + 1) ls (.int (x % y) :: rest))) target) : Steps p.tables e below (T.setTop (mkF m pc ls (.int y :: .int x :: rest))) target :=
  XS.irem X hx (g := mkF m pc ls (.int y :: .int x :: rest)) rfl hd rfl hy (by rw [own_i32_rem]; exact hr)
end OwnLayer
section OwnLayer2
variable {p : Program} {l : Launch} {e : Env} {R : Room} {s : State} {m : MethodId} {args : Array Value} {below : List Frame} {meth : Method} {c : Code} {T T' : State} {h h' : Heap} {n0 ck sk : Nat} {Z : State} {a0 : Array Value} {Post : Outcome → State → Prop}
theorem sta_keep {C n d : String} {v : Value} {ws : List Addr} (F : Sta Z h C n d v) (K : Keep h h' ws) (q : ∀ x ∈ ws, ∃ C', Exa Z h x C') : Sta Z h' C n d v := by
  obtain ⟨cf, i, k, f, st, cell, h1, h2, h3, h4, h5, h6, h7⟩ := F
  refine ⟨cf, i, k, f, st, cell, h1, h2, h3, h4, K.2.1 st cell h5 fun z => ?_, h6, h7⟩
  obtain ⟨C', cell', k', e1, -, -, e4, -⟩ := q st z
  cases h5.symm.trans e1
  rw [h6] at e4
  cases e4
theorem goGetS (X : Stn p l e R s m args below meth c n0 T h ck sk) (hx : p.tables.exec = Jvm.exec) (hZ : Z.Warmed39 s.vm) {own R0 O n d host : String} {index : Nat} (hown : s.vm.findClass own = some m.cls) (w : (Cond.fieldLink own index R0 n d).before a0 Z = true ∨ (Cond.fieldLinkNest own index R0 n d host).before a0 Z = true) (via : Via Z R0 O n d)
    {v : Value} (F : Sta Z h O n d v) {pc : Nat} {ls : Array Slot} {st : List Value} (hd : decode c.code pc = .ok (.getstatic index, 3))
    (k : ∀ T', Stn p l e R s m args below meth c n0 T' h ck sk → Go p e below Post T' (mkF m (pc + 3) ls (v :: st))) : Go p e below Post T (mkF m pc ls st) := by
  obtain ⟨eT, locs, N, Y⟩ := X
  obtain ⟨T', X', e', stp⟩ := getS2 Y hx hZ hown w via eT F (g := mkF m pc ls st) rfl hd
  exact Go.st stp (k T' ⟨e', locs, N, X'⟩)
theorem goInstY (X : Stn p l e R s m args below meth c n0 T h ck sk) (hx : p.tables.exec = Jvm.exec) (hZ : Z.Warmed39 s.vm) {own K : String} {index : Nat} (hown : s.vm.findClass own = some m.cls) (w : (Cond.classLink own index K).before a0 Z = true) {a : Addr} (F : Ins Z h a K true)
    {pc : Nat} {ls : Array Slot} {rest : List Value} (hd : decode c.code pc = .ok (.instanceof index, 3)) (k : ∀ T', Stn p l e R s m args below meth c n0 T' h ck sk → Go p e below Post T' (mkF m (pc + 3) ls (.int 1 :: rest))) : Go p e below Post T (mkF m pc ls (.ref a :: rest)) := by
  obtain ⟨eT, locs, N, Y⟩ := X
  obtain ⟨T', X', e', st⟩ := instY Y hx hZ hown w eT F (g := mkF m pc ls (.ref a :: rest)) rfl rfl hd
  exact Go.st st (k T' ⟨e', locs, N, X'⟩)
theorem goInstNo (X : Stn p l e R s m args below meth c n0 T h ck sk) (hx : p.tables.exec = Jvm.exec) (hZ : Z.Warmed39 s.vm) {own K C : String} {index : Nat} (hown : s.vm.findClass own = some m.cls) (w : (Cond.classLink own index K).before a0 Z = true) {a : Addr} (E : Exa Z h a C) (F : ∃ c t, Z.vm.findClass C = some c ∧ Z.vm.findClass K = some t ∧ Z.vm.assignable c t = false)
    {pc : Nat} {ls : Array Slot} {rest : List Value} (hd : decode c.code pc = .ok (.instanceof index, 3)) (k : ∀ T', Stn p l e R s m args below meth c n0 T' h ck sk → Go p e below Post T' (mkF m (pc + 3) ls (.int 0 :: rest))) : Go p e below Post T (mkF m pc ls (.ref a :: rest)) := by
  obtain ⟨eT, locs, N, Y⟩ := X
  obtain ⟨T', X', e', st⟩ := instNo Y hx hZ hown w eT E F (g := mkF m pc ls (.ref a :: rest)) rfl rfl hd
  exact Go.st st (k T' ⟨e', locs, N, X'⟩)
theorem goInstNull (X : Stn p l e R s m args below meth c n0 T h ck sk) (hx : p.tables.exec = Jvm.exec) {index : Nat}
    {pc : Nat} {ls : Array Slot} {rest : List Value} (hd : decode c.code pc = .ok (.instanceof index, 3)) (k : Go p e below Post T (mkF m (pc + 3) ls (.int 0 :: rest))) : Go p e below Post T (mkF m pc ls (.null :: rest)) := by
  obtain ⟨eT, locs, N, Y⟩ := X
  exact Go.st (fun t q => Y.instanceofNull hx (g := mkF m pc ls (.null :: rest)) rfl rfl hd t q) k
/-- no object of the class C (whose superclasses are Object's chain) is one of K -/
theorem ns_root {O K : String} {kk : Nat} (w : (Cond.noSuperclass O).before a0 Z = true) (wk : (Cond.instantiable K kk).before a0 Z = true) (hn : O ≠ K) : NS Z O K := by
  obtain ⟨c, k, h1, h2, h3, -, -⟩ := Cond.noSuperclass_spec w
  obtain ⟨t, kt, g1, g2, -⟩ := Cond.instantiable_spec wk
  have ne := ids_ne h1 g1 hn
  refine ⟨c, t, h1, g1, fun fuel => ?_⟩
  cases fuel with
  | zero => rfl
  | succ f => simp [Vm.isSubclassAux, ne, h2, h3]
theorem ns_no {C S K : String} {kk : Nat} (w : (Cond.superclass C S).before a0 Z = true) (wk : (Cond.instantiable K kk).before a0 Z = true) (n : NS Z C K) (hn : C ≠ K) : ∃ c t, Z.vm.findClass C = some c ∧ Z.vm.findClass K = some t ∧ Z.vm.assignable c t = false := by
  obtain ⟨c, t, h0, g0, n3⟩ := n
  obtain ⟨p, k, kp, h1, h2, h3, h4, h5, -, h7⟩ := Cond.superclass_spec h0 w
  obtain ⟨t', k', g1, g2, g5, g6, -⟩ := Cond.instantiable_spec wk
  cases g0.symm.trans g1
  have g7 : k'.isInterface = false := by
    cases q : k'.isInterface
    · rfl
    · rw [q] at g6; cases g6
  have ne := ids_ne h0 g0 hn
  refine ⟨c, t, h0, g0, ?_⟩
  show Z.vm.assignableAux (255 + 1) c t = false
  simp [Vm.assignableAux, ne, h2, g2, h5, g5, g7, Vm.isSubclass, n3]
/-! arrays of references -/
def AO (Z : State) (h : Heap) (a : Addr) (C : String) : Prop := ∃ cl : Cell, h[a]? = some cl ∧ Ovr Z cl.cls C
theorem AO.ext {a : Addr} {C : String} (E : Ext h h') (F : AO Z h a C) : AO Z h' a C := by obtain ⟨cl, h1, h2⟩ := F; exact ⟨cl, E.2 _ _ h1, h2⟩
theorem AO.wr {a b : Addr} {C : String} {sl : Nat} {v : Value} (W : Wr h h' b sl v) (F : AO Z h a C) : AO Z h' a C := by
  obtain ⟨cl, h1, h2⟩ := F
  obtain ⟨cl', g1, g2, -⟩ := wr_at W h1
  exact ⟨cl', g1, by rw [g2]; exact h2⟩
theorem AO.keep {a : Addr} {C : String} {ws : List Addr} (F : AO Z h a C) (K : Keep h h' ws) : AO Z h' a C := by
  obtain ⟨cl, h1, h2⟩ := F
  obtain ⟨cl', g1, g2, -⟩ := K.2.2 a cl h1
  exact ⟨cl', g1, by rw [g2]; exact h2⟩
theorem goNewR (X : Stn p l e R s m args below meth c n0 T h ck sk) (hx : p.tables.exec = Jvm.exec) (hZ : Z.Warmed39 s.vm) {own C : String} {index : Nat} (hown : s.vm.findClass own = some m.cls) (w1 : (Cond.classLink own index C).before a0 Z = true) (w2 : (Cond.arrayOver (.object C)).before a0 Z = true)
    {pc : Nat} {ls : Array Slot} {n : Int32} {rest : List Value} (hd : decode c.code pc = .ok (.anewarray index, 3)) (hn : ¬ n < 0) {cap : Nat} (hcap : n.toNatClampNeg ≤ cap) (hb : cap * 8 ≤ 536870912) (hc : ck + 1 ≤ R.cells) (hl : sk + cap ≤ R.slots) {ad : String} (had : "[" ++ (FieldType.object C).toString = ad)
    (k : ∀ T' h' a, a = h.size → Stn p l e R s m args below meth c n0 T' h' (ck + 1) (sk + cap) → Ext h h' → Exa Z h' a ad → Ary Z h' a (.object C) n.toNatClampNeg (fun _ => .null) → AO Z h' a C → Go p e below Post T' (mkF m (pc + 3) ls (.ref a :: rest))) : Go p e below Post T (mkF m pc ls (.int n :: rest)) := by
  obtain ⟨eT, locs, N, Y⟩ := X
  obtain ⟨T', h', cA, X', e', E, A, Ex, O, st⟩ := newRE Y hx hZ hown w1 w2 eT (g := mkF m pc ls (.int n :: rest)) rfl hd rfl hn hcap hb hc hl had
  exact Go.st st (k T' h' _ rfl ⟨e', locs, N, X'⟩ E Ex (Ary.new A) ⟨_, A.1, O⟩)
theorem goLdR (X : Stn p l e R s m args below meth c n0 T h ck sk) (hx : p.tables.exec = Jvm.exec) (hZ : Z.Warmed39 s.vm) {a : Addr} {ty : FieldType} {n : Nat} {f : Nat → Value} (A : Ary Z h a ty n f) (hty : ty.isReference = true) {j : Int32} (hj : ¬ (j < 0 ∨ n ≤ j.toNatClampNeg)) {pc : Nat} {ls : Array Slot} {rest : List Value} (hd : decode c.code pc = .ok (.aaload, 1))
    (k : Go p e below Post T (mkF m (pc + 1) ls (f j.toNatClampNeg :: rest))) : Go p e below Post T (mkF m pc ls (.int j :: .ref a :: rest)) := by
  obtain ⟨eT, locs, N, Y⟩ := X
  obtain ⟨cl, A, r1, r2⟩ := A
  subst r1
  exact Go.st (fun t q => Y.aaload hx (j := j) (v := f j.toNatClampNeg) (by rw [eT]; exact A.1) (State.isArrayOf_alike hZ.alike A.2.1) hty A.2.2 hj (r2 _ (by omega)) (g := mkF m pc ls (.int j :: .ref a :: rest)) rfl rfl hd t q) k
theorem goStR (X : Stn p l e R s m args below meth c n0 T h ck sk) (hx : p.tables.exec = Jvm.exec) (hZ : Z.Warmed39 s.vm) {a y : Addr} {ty : FieldType} {n : Nat} {f : Nat → Value} {C : String} (A : Ary Z h a ty n f) (hty : ty.isReference = true) (O : AO Z h a C) (I : Ins Z h y C true) {j : Int32} (hj : ¬ (j < 0 ∨ n ≤ j.toNatClampNeg)) (ha : n0 ≤ a) {pc : Nat} {ls : Array Slot} {rest : List Value} (hd : decode c.code pc = .ok (.aastore, 1))
    (k : ∀ T' h', Stn p l e R s m args below meth c n0 T' h' ck sk → Wr h h' a j.toNatClampNeg (.ref y) → Ary Z h' a ty n (fun i => if i = j.toNatClampNeg then .ref y else f i) → Go p e below Post T' (mkF m (pc + 1) ls rest)) : Go p e below Post T (mkF m pc ls (.ref y :: .int j :: .ref a :: rest)) := by
  obtain ⟨eT, locs, N, Y⟩ := X
  have A0 := A
  obtain ⟨cl, A, r1, r2⟩ := A
  obtain ⟨cl2, o1, o2⟩ := O
  cases A.1.symm.trans o1
  subst r1
  obtain ⟨T', h', X', e', W, st⟩ := stR Y hx hZ eT A hj hty (Sto.of A o2 I) (g := mkF m pc ls (.ref y :: .int j :: .ref a :: rest)) rfl rfl hd
  exact Go.st st (k T' h' ⟨e', _, Fr.snoc X' N ha, X'⟩ W (A0.set W))
end OwnLayer2


def own_is (r : Int32) (P : Prop) : Prop := (r = 1 ∧ P) ∨ (r = 0 ∧ ¬ P)
theorem own_is_eq {r r' : Int32} {P P' : Prop} (h : own_is r P) (h' : own_is r' P') (q : P ↔ P') : r = r' := by
  rcases h with ⟨q1, q2⟩ | ⟨q1, q2⟩ <;> rcases h' with ⟨q3, q4⟩ | ⟨q3, q4⟩
  · rw [q1, q3]
  · exact absurd (q.mp q2) q4
  · exact absurd (q.mpr q4) q2
  · rw [q1, q3]
def own_acc (w1 w2 w3 q : Int32) : Prop := (0 ≤ w1.toInt → q.toInt = w1.toInt) ∧ (0 ≤ w2.toInt → w2.toInt ≤ q.toInt) ∧ (0 ≤ w3.toInt → q.toInt ≤ w3.toInt)
theorem own_fin {w1 w2 w3 q : Int32} {lo lo' hi hi' : Int64} (h1 : lo.toInt = (if w1.toInt < 0 then -2147483648 else w1.toInt)) (h2 : hi.toInt = (if w1.toInt < 0 then 2147483647 else w1.toInt))
    (h3 : lo'.toInt = (if w2.toInt < 0 then lo.toInt else if lo.toInt < w2.toInt then w2.toInt else lo.toInt)) (h4 : hi'.toInt = (if w3.toInt < 0 then hi.toInt else if w3.toInt < hi.toInt then w3.toInt else hi.toInt)) : own_acc w1 w2 w3 q ↔ (¬ q.toInt64 < lo' ∧ ¬ hi' < q.toInt64) := by
  have a1 := q.toInt_lt; have a2 := q.le_toInt
  simp only [own_acc, Int64.lt_iff_toInt_lt, Jvm.Kit.i64_of_i32, h3, h4, h1, h2]
  by_cases c1 : w1.toInt < 0 <;> by_cases c2 : w2.toInt < 0 <;> by_cases c3 : w3.toInt < 0 <;> simp only [c1, c2, c3, if_true, if_false] <;> (repeat' split) <;> omega

theorem d11_0 : decode jdk_29_method_70_code 0 = .ok (.lload_n 0, 1) := by decide +kernel
theorem d11_1 : decode jdk_29_method_70_code 1 = .ok (.lload_n 2, 1) := by decide +kernel
theorem d11_2 : decode jdk_29_method_70_code 2 = .ok (.lcmp, 1) := by decide +kernel
theorem d11_3 : decode jdk_29_method_70_code 3 = .ok (.ifCond .gt 7, 3) := by decide +kernel
theorem d11_6 : decode jdk_29_method_70_code 6 = .ok (.lload_n 0, 1) := by decide +kernel
theorem d11_7 : decode jdk_29_method_70_code 7 = .ok (.goto 4, 3) := by decide +kernel
theorem d11_10 : decode jdk_29_method_70_code 10 = .ok (.lload_n 2, 1) := by decide +kernel
theorem d11_11 : decode jdk_29_method_70_code 11 = .ok (.lreturn, 1) := by decide +kernel
theorem pn_11 : plainFor (⟨"java/lang/Math", "min", "(JJ)J"⟩ : MethodName) = true := Jvm.Free.JP.mathPlain rfl (by decide +kernel)
theorem ef_rm11 (m : MethodId) (x0 : Int64) (x1 : Int64) : entryFrame m #[(.long x0), (.long x1)] 4 = mkF m 0 #[.val (.long x0), .second, .val (.long x1), .second] [] := by first | (simp [entryFrame, mkF, argsToLocals, Value.category]; done) | rfl
def Q11 (Z : State) (n0 : Nat) (h0 : Heap) (b : Int64) (d : Int64) (v : Option Value) (h : Heap) : Prop := ∃ (r : Int64), v = some (.long r) ∧ h = h0 ∧ ((r = b ∧ ¬ d < b) ∨ (r = d ∧ d < b))
set_option maxRecDepth 65536 in
set_option maxHeartbeats 40000000 in
theorem rm11 (l : Launch) (Z : State) (a0 : Array Value) (hw : ∀ d ∈ tables_1, d.before a0 Z = true) (ws : List Jvm.Cond) (n0 : Nat) (h0 : Heap) (b : Int64) (d : Int64) (sz0 : n0 ≤ h0.size) :
    Con l (⟨"java/lang/Math", "min", "(JJ)J"⟩ : MethodName) jdk_29_method_70_code 4 (some .long) ({ frames := 0, cells := 0, slots := 0, locals := 0 } : Room) ws Z n0 #[(.long b), (.long d)] h0 (Q11 Z n0 h0 b d) := by
  refine Con.body pn_11 ?_
  intro p e s m below meth c s₁ hx hby hml hown hnm hret hlk hZ X0
  have hown : s.vm.findClass "java/lang/Math" = some m.cls := hown
  have hnm : meth.name = "min" := hnm
  rw [show entryFrame m #[(.long b), (.long d)] 4 = mkF m 0 #[.val (.long b), .second, .val (.long d), .second] [] from ef_rm11 m b d]
  show Go p e below (PostW s n0 (0 : Nat) (0 : Nat) (Q11 Z n0 h0 b d)) s₁ (mkF m 0 #[.val (.long b), .second, .val (.long d), .second] [])
  refine Go.st (T' := s₁) (g' := (mkF m 1 #[.val (.long b), .second, .val (.long d), .second] [(.long b)])) (fun t_ k_ => XS.lloadN X0.here hx rfl (hb hby d11_0) rfl k_) ?_
  refine Go.st (T' := s₁) (g' := (mkF m 2 #[.val (.long b), .second, .val (.long d), .second] [(.long d), (.long b)])) (fun t_ k_ => XS.lloadN X0.here hx rfl (hb hby d11_1) rfl k_) ?_
  refine Go.st (T' := s₁) (g' := (mkF m 3 #[.val (.long b), .second, .val (.long d), .second] [(.int (lcmpW b d))])) (fun t_ k_ => XS.lcmp X0.here hx rfl (hb hby d11_2) rfl k_) ?_
  by_cases hc3 : d < b
  · skip
    refine Go.st (T' := s₁) (g' := (mkF m 10 #[.val (.long b), .second, .val (.long d), .second] [])) (fun t_ k_ => XS.ifYes X0.here hx rfl (pc0 := 3) (pc' := 10) rfl (hb hby d11_3) rfl (lcTgt hc3).1 (by decide) (by decide) k_) ?_
    refine Go.st (T' := s₁) (g' := (mkF m 11 #[.val (.long b), .second, .val (.long d), .second] [(.long d)])) (fun t_ k_ => XS.lloadN X0.here hx rfl (hb hby d11_10) rfl k_) ?_
    refine goRetL X0 hx hlk hret (hb hby d11_11) (by decide) (by decide) ?_
    refine ⟨d, rfl, rfl, ?_⟩
    · first | exact Or.inl ⟨rfl, hc3⟩ | exact Or.inr ⟨rfl, hc3⟩
  · skip
    refine Go.st (T' := s₁) (g' := (mkF m 6 #[.val (.long b), .second, .val (.long d), .second] [])) (fun t_ k_ => XS.ifNo X0.here hx rfl (hb hby d11_3) rfl (lcFgt hc3).1 k_) ?_
    refine Go.st (T' := s₁) (g' := (mkF m 7 #[.val (.long b), .second, .val (.long d), .second] [(.long b)])) (fun t_ k_ => XS.lloadN X0.here hx rfl (hb hby d11_6) rfl k_) ?_
    refine Go.st (T' := s₁) (g' := (mkF m 11 #[.val (.long b), .second, .val (.long d), .second] [(.long b)])) (fun t_ k_ => XS.goto X0.here hx rfl (pc0 := 7) (pc' := 11) rfl (hb hby d11_7) (by decide) (by decide) k_) ?_
    refine goRetL X0 hx hlk hret (hb hby d11_11) (by decide) (by decide) ?_
    refine ⟨b, rfl, rfl, ?_⟩
    · first | exact Or.inl ⟨rfl, hc3⟩ | exact Or.inr ⟨rfl, hc3⟩
theorem d8_0 : decode jdk_29_method_66_code 0 = .ok (.lload_n 0, 1) := by decide +kernel
theorem d8_1 : decode jdk_29_method_66_code 1 = .ok (.lload_n 2, 1) := by decide +kernel
theorem d8_2 : decode jdk_29_method_66_code 2 = .ok (.lcmp, 1) := by decide +kernel
theorem d8_3 : decode jdk_29_method_66_code 3 = .ok (.ifCond .lt 7, 3) := by decide +kernel
theorem d8_6 : decode jdk_29_method_66_code 6 = .ok (.lload_n 0, 1) := by decide +kernel
theorem d8_7 : decode jdk_29_method_66_code 7 = .ok (.goto 4, 3) := by decide +kernel
theorem d8_10 : decode jdk_29_method_66_code 10 = .ok (.lload_n 2, 1) := by decide +kernel
theorem d8_11 : decode jdk_29_method_66_code 11 = .ok (.lreturn, 1) := by decide +kernel
theorem pn_8 : plainFor (⟨"java/lang/Math", "max", "(JJ)J"⟩ : MethodName) = true := Jvm.Free.JP.mathPlain rfl (by decide +kernel)
theorem ef_rm8 (m : MethodId) (x0 : Int64) (x1 : Int64) : entryFrame m #[(.long x0), (.long x1)] 4 = mkF m 0 #[.val (.long x0), .second, .val (.long x1), .second] [] := by first | (simp [entryFrame, mkF, argsToLocals, Value.category]; done) | rfl
def Q8 (Z : State) (n0 : Nat) (h0 : Heap) (b : Int64) (d : Int64) (v : Option Value) (h : Heap) : Prop := ∃ (r : Int64), v = some (.long r) ∧ h = h0 ∧ ((r = b ∧ ¬ b < d) ∨ (r = d ∧ b < d))
set_option maxRecDepth 65536 in
set_option maxHeartbeats 40000000 in
theorem rm8 (l : Launch) (Z : State) (a0 : Array Value) (hw : ∀ d ∈ tables_1, d.before a0 Z = true) (ws : List Jvm.Cond) (n0 : Nat) (h0 : Heap) (b : Int64) (d : Int64) (sz0 : n0 ≤ h0.size) :
    Con l (⟨"java/lang/Math", "max", "(JJ)J"⟩ : MethodName) jdk_29_method_66_code 4 (some .long) ({ frames := 0, cells := 0, slots := 0, locals := 0 } : Room) ws Z n0 #[(.long b), (.long d)] h0 (Q8 Z n0 h0 b d) := by
  refine Con.body pn_8 ?_
  intro p e s m below meth c s₁ hx hby hml hown hnm hret hlk hZ X0
  have hown : s.vm.findClass "java/lang/Math" = some m.cls := hown
  have hnm : meth.name = "max" := hnm
  rw [show entryFrame m #[(.long b), (.long d)] 4 = mkF m 0 #[.val (.long b), .second, .val (.long d), .second] [] from ef_rm8 m b d]
  show Go p e below (PostW s n0 (0 : Nat) (0 : Nat) (Q8 Z n0 h0 b d)) s₁ (mkF m 0 #[.val (.long b), .second, .val (.long d), .second] [])
  refine Go.st (T' := s₁) (g' := (mkF m 1 #[.val (.long b), .second, .val (.long d), .second] [(.long b)])) (fun t_ k_ => XS.lloadN X0.here hx rfl (hb hby d8_0) rfl k_) ?_
  refine Go.st (T' := s₁) (g' := (mkF m 2 #[.val (.long b), .second, .val (.long d), .second] [(.long d), (.long b)])) (fun t_ k_ => XS.lloadN X0.here hx rfl (hb hby d8_1) rfl k_) ?_
  refine Go.st (T' := s₁) (g' := (mkF m 3 #[.val (.long b), .second, .val (.long d), .second] [(.int (lcmpW b d))])) (fun t_ k_ => XS.lcmp X0.here hx rfl (hb hby d8_2) rfl k_) ?_
  by_cases hc3 : b < d
  · skip
    refine Go.st (T' := s₁) (g' := (mkF m 10 #[.val (.long b), .second, .val (.long d), .second] [])) (fun t_ k_ => XS.ifYes X0.here hx rfl (pc0 := 3) (pc' := 10) rfl (hb hby d8_3) rfl (lcTlt hc3).1 (by decide) (by decide) k_) ?_
    refine Go.st (T' := s₁) (g' := (mkF m 11 #[.val (.long b), .second, .val (.long d), .second] [(.long d)])) (fun t_ k_ => XS.lloadN X0.here hx rfl (hb hby d8_10) rfl k_) ?_
    refine goRetL X0 hx hlk hret (hb hby d8_11) (by decide) (by decide) ?_
    refine ⟨d, rfl, rfl, ?_⟩
    · first | exact Or.inl ⟨rfl, hc3⟩ | exact Or.inr ⟨rfl, hc3⟩
  · skip
    refine Go.st (T' := s₁) (g' := (mkF m 6 #[.val (.long b), .second, .val (.long d), .second] [])) (fun t_ k_ => XS.ifNo X0.here hx rfl (hb hby d8_3) rfl (lcFlt hc3).1 k_) ?_
    refine Go.st (T' := s₁) (g' := (mkF m 7 #[.val (.long b), .second, .val (.long d), .second] [(.long b)])) (fun t_ k_ => XS.lloadN X0.here hx rfl (hb hby d8_6) rfl k_) ?_
    refine Go.st (T' := s₁) (g' := (mkF m 11 #[.val (.long b), .second, .val (.long d), .second] [(.long b)])) (fun t_ k_ => XS.goto X0.here hx rfl (pc0 := 7) (pc' := 11) rfl (hb hby d8_7) (by decide) (by decide) k_) ?_
    refine goRetL X0 hx hlk hret (hb hby d8_11) (by decide) (by decide) ?_
    refine ⟨b, rfl, rfl, ?_⟩
    · first | exact Or.inl ⟨rfl, hc3⟩ | exact Or.inr ⟨rfl, hc3⟩
theorem d5_0 : decode jdk_22_method_1_code 0 = .ok (.aload_n 0, 1) := by decide +kernel
theorem d5_1 : decode jdk_22_method_1_code 1 = .ok (.invokespecial 1, 3) := by decide +kernel
theorem d5_4 : decode jdk_22_method_1_code 4 = .ok (.return_, 1) := by decide +kernel
theorem pn_5 : plainFor (⟨"java/util/AbstractCollection", "<init>", "()V"⟩ : MethodName) = true := plainFor_of_name (by first | (simp [plainName, overriddenIn]; done) | decide +kernel)
theorem ef_rm5 (m : MethodId) (x0 : Addr) : entryFrame m #[(.ref x0)] 1 = mkF m 0 #[.val (.ref x0)] [] := by first | (simp [entryFrame, mkF, argsToLocals, Value.category]; done) | rfl
def Q5 (Z : State) (n0 : Nat) (h0 : Heap) (a : Addr) (v : Option Value) (h : Heap) : Prop := v = none ∧ h = h0
set_option maxRecDepth 65536 in
set_option maxHeartbeats 40000000 in
theorem rm5 (l : Launch) (Z : State) (a0 : Array Value) (hw : ∀ d ∈ tables_1, d.before a0 Z = true) (ws : List Jvm.Cond) (n0 : Nat) (h0 : Heap) (a : Addr) (sz0 : n0 ≤ h0.size) :
    Con l (⟨"java/util/AbstractCollection", "<init>", "()V"⟩ : MethodName) jdk_22_method_1_code 1 none ({ frames := 1, cells := 0, slots := 0, locals := 12 } : Room) ws Z n0 #[(.ref a)] h0 (Q5 Z n0 h0 a) := by
  refine Con.body pn_5 ?_
  intro p e s m below meth c s₁ hx hby hml hown hnm hret hlk hZ X0
  have hown : s.vm.findClass "java/util/AbstractCollection" = some m.cls := hown
  have hnm : meth.name = "<init>" := hnm
  rw [show entryFrame m #[(.ref a)] 1 = mkF m 0 #[.val (.ref a)] [] from ef_rm5 m a]
  show Go p e below (PostW s n0 (0 : Nat) (0 : Nat) (Q5 Z n0 h0 a)) s₁ (mkF m 0 #[.val (.ref a)] [])
  refine Go.st (T' := s₁) (g' := (mkF m 1 #[.val (.ref a)] [(.ref a)])) (fun t_ k_ => XS.aloadN X0.here hx rfl (hb hby d5_0) rfl rfl k_) ?_
  refine goInit X0 hx hZ hown (hw _ (List.mem_of_getElem? (i := 27) rfl)) (hw _ (List.mem_of_getElem? (i := 7) rfl)) (hw _ (List.mem_of_getElem? (i := 8) rfl)) (by rw [hml]; rfl) (hb hby d5_1) (by decide) (W := 0) (Nat.le_of_eq rfl) (by decide) fun T1 X1 => ?_
  show Go p e below _ T1 (mkF m 4 #[.val (.ref a)] [])
  refine goRetV X1 hx hlk hret (hb hby d5_4) (by decide) (by decide) ?_
  refine ⟨rfl, rfl⟩
theorem d4_0 : decode jdk_39_method_1_code 0 = .ok (.aload_n 0, 1) := by decide +kernel
theorem d4_1 : decode jdk_39_method_1_code 1 = .ok (.invokespecial 1, 3) := by decide +kernel
theorem d4_4 : decode jdk_39_method_1_code 4 = .ok (.aload_n 0, 1) := by decide +kernel
theorem d4_5 : decode jdk_39_method_1_code 5 = .ok (.iconst 0, 1) := by decide +kernel
theorem d4_6 : decode jdk_39_method_1_code 6 = .ok (.putfield 7, 3) := by decide +kernel
theorem d4_9 : decode jdk_39_method_1_code 9 = .ok (.return_, 1) := by decide +kernel
theorem pn_4 : plainFor (⟨"java/util/AbstractList", "<init>", "()V"⟩ : MethodName) = true := plainFor_of_name (by first | (simp [plainName, overriddenIn]; done) | decide +kernel)
theorem pd_0f51a560 : parseMethodDescriptor "()V" = some ⟨[], none⟩ := by decide +kernel
theorem ef_rm4 (m : MethodId) (x0 : Addr) : entryFrame m #[(.ref x0)] 1 = mkF m 0 #[.val (.ref x0)] [] := by first | (simp [entryFrame, mkF, argsToLocals, Value.category]; done) | rfl
def Q4 (Z : State) (n0 : Nat) (h0 : Heap) (a : Addr) (u : Value) (u2 : Value) (v : Option Value) (h : Heap) : Prop := v = none ∧ Keep h0 h [a] ∧ Exa Z h a "java/util/ArrayList" ∧ Fld Z h a "java/util/ArrayList" "elementData" "[Ljava/lang/Object;" u2
set_option maxRecDepth 65536 in
set_option maxHeartbeats 40000000 in
theorem rm4 (l : Launch) (Z : State) (a0 : Array Value) (hw : ∀ d ∈ tables_1, d.before a0 Z = true) (ws : List Jvm.Cond) (n0 : Nat) (h0 : Heap) (a : Addr) (u : Value) (u2 : Value) (sz0 : n0 ≤ h0.size) (g0 : Exa Z h0 a "java/util/ArrayList") (g1 : Fld Z h0 a "java/util/AbstractList" "modCount" "I" u) (g2 : n0 ≤ a) (g3 : Fld Z h0 a "java/util/ArrayList" "elementData" "[Ljava/lang/Object;" u2) :
    Con l (⟨"java/util/AbstractList", "<init>", "()V"⟩ : MethodName) jdk_39_method_1_code 1 none ({ frames := 2, cells := 0, slots := 0, locals := 24 } : Room) ws Z n0 #[(.ref a)] h0 (Q4 Z n0 h0 a u u2) := by
  refine Con.body pn_4 ?_
  intro p e s m below meth c s₁ hx hby hml hown hnm hret hlk hZ X0
  have hown : s.vm.findClass "java/util/AbstractList" = some m.cls := hown
  have hnm : meth.name = "<init>" := hnm
  have K0 : Keep h0 h0 [a] := Keep.refl _ _
  rw [show entryFrame m #[(.ref a)] 1 = mkF m 0 #[.val (.ref a)] [] from ef_rm4 m a]
  show Go p e below (PostW s n0 (0 : Nat) (0 : Nat) (Q4 Z n0 h0 a u u2)) s₁ (mkF m 0 #[.val (.ref a)] [])
  refine Go.st (T' := s₁) (g' := (mkF m 1 #[.val (.ref a)] [(.ref a)])) (fun t_ k_ => XS.aloadN X0.here hx rfl (hb hby d4_0) rfl rfl k_) ?_
  refine goCtor X0 hx hZ (y := (⟨"java/util/AbstractCollection", "<init>", "()V"⟩ : MethodName)) rfl hown (hw _ (List.mem_of_getElem? (i := 21) rfl)) (hw _ (List.mem_of_getElem? (i := 22) rfl)) (hw _ (List.mem_of_getElem? (i := 25) rfl)) (hw _ (List.mem_of_getElem? (i := 26) rfl)) (by decide) (rm5 l Z a0 hw [] n0 h0 a sz0) 0 (by decide) (by decide) (by rw [hml]; rfl) a [] [] (lenOf pd_0f51a560 rfl) rfl rfl rfl (hb hby d4_1) (by decide) (by decide) fun v1 T1 h1 X1 hq1 => ?_
  obtain ⟨rfl, eh1⟩ := hq1
  rw [eh1] at X1
  show Go p e below _ T1 (mkF m 4 #[.val (.ref a)] [])
  refine Go.st (T' := T1) (g' := (mkF m 5 #[.val (.ref a)] [(.ref a)])) (fun t_ k_ => XS.aloadN X1.here hx rfl (hb hby d4_4) rfl rfl k_) ?_
  refine Go.st (T' := T1) (g' := (mkF m 6 #[.val (.ref a)] [(.int (0 : Int32)), (.ref a)])) (fun t_ k_ => XS.iconst X1.here hx rfl (hb hby d4_5) k_) ?_
  refine goPut X1 hx hZ hown (host := "") (Or.inl (hw _ (List.mem_of_getElem? (i := 28) rfl))) Via.refl g1 g0 (Or.inl (hw _ (List.mem_of_getElem? (i := 29) rfl))) (hw _ (List.mem_of_getElem? (i := 10) rfl)) (ty := .int) (by decide) rfl rfl g2 (hb hby d4_6) fun T2 h2 X2 W2 => ?_
  have Fw2 := g1.same W2
  have f2_0 : Exa Z h2 a "java/util/ArrayList" := g0.wr W2
  have f2_2 : Fld Z h2 a "java/util/ArrayList" "elementData" "[Ljava/lang/Object;" u2 := g3.other W2 (Or.inr (slot_ne (Or.inl (hw _ (List.mem_of_getElem? (i := 32) rfl))) (Or.inl (hw _ (List.mem_of_getElem? (i := 29) rfl))) (by decide) (t := (.array (.object "java/lang/Object"))) (t' := .int) (by decide) (by decide)))
  have sz2 : n0 ≤ h2.size := Nat.le_trans sz0 (Keep.of_wr W2).1
  have K2 : Keep h0 h2 [a] := K0.wr W2 (Or.inl (List.mem_of_getElem? (i := 0) rfl))
  show Go p e below _ T2 (mkF m 9 #[.val (.ref a)] [])
  refine goRetV X2 hx hlk hret (hb hby d4_9) (by decide) (by decide) ?_
  refine ⟨rfl, K2, f2_0, f2_2⟩
theorem d3_0 : decode jdk_38_method_2_code 0 = .ok (.aload_n 0, 1) := by decide +kernel
theorem d3_1 : decode jdk_38_method_2_code 1 = .ok (.invokespecial 1, 3) := by decide +kernel
theorem d3_4 : decode jdk_38_method_2_code 4 = .ok (.aload_n 0, 1) := by decide +kernel
theorem d3_5 : decode jdk_38_method_2_code 5 = .ok (.getstatic 39, 3) := by decide +kernel
theorem d3_8 : decode jdk_38_method_2_code 8 = .ok (.putfield 9, 3) := by decide +kernel
theorem d3_11 : decode jdk_38_method_2_code 11 = .ok (.return_, 1) := by decide +kernel
theorem pn_3 : plainFor (⟨"java/util/ArrayList", "<init>", "()V"⟩ : MethodName) = true := plainFor_of_name (by first | (simp [plainName, overriddenIn]; done) | decide +kernel)
theorem ef_rm3 (m : MethodId) (x0 : Addr) : entryFrame m #[(.ref x0)] 1 = mkF m 0 #[.val (.ref x0)] [] := by first | (simp [entryFrame, mkF, argsToLocals, Value.category]; done) | rfl
def Q3 (Z : State) (n0 : Nat) (h0 : Heap) (a : Addr) (u : Value) (u2 : Value) (ws0 : Addr) (v : Option Value) (h : Heap) : Prop := v = none ∧ Keep h0 h [a] ∧ Exa Z h a "java/util/ArrayList"
set_option maxRecDepth 65536 in
set_option maxHeartbeats 40000000 in
theorem rm3 (l : Launch) (Z : State) (a0 : Array Value) (hw : ∀ d ∈ tables_1, d.before a0 Z = true) (ws : List Jvm.Cond) (n0 : Nat) (h0 : Heap) (a : Addr) (u : Value) (u2 : Value) (ws0 : Addr) (sz0 : n0 ≤ h0.size) (g0 : Exa Z h0 a "java/util/ArrayList") (g1 : Fld Z h0 a "java/util/AbstractList" "modCount" "I" u) (g2 : Fld Z h0 a "java/util/ArrayList" "elementData" "[Ljava/lang/Object;" u2) (g3 : n0 ≤ a) (g4 : Sta Z h0 "java/util/ArrayList" "DEFAULTCAPACITY_EMPTY_ELEMENTDATA" "[Ljava/lang/Object;" (.ref ws0)) :
    Con l (⟨"java/util/ArrayList", "<init>", "()V"⟩ : MethodName) jdk_38_method_2_code 1 none ({ frames := 3, cells := 0, slots := 0, locals := 36 } : Room) ws Z n0 #[(.ref a)] h0 (Q3 Z n0 h0 a u u2 ws0) := by
  refine Con.body pn_3 ?_
  intro p e s m below meth c s₁ hx hby hml hown hnm hret hlk hZ X0
  have hown : s.vm.findClass "java/util/ArrayList" = some m.cls := hown
  have hnm : meth.name = "<init>" := hnm
  have K0 : Keep h0 h0 [a] := Keep.refl _ _
  rw [show entryFrame m #[(.ref a)] 1 = mkF m 0 #[.val (.ref a)] [] from ef_rm3 m a]
  show Go p e below (PostW s n0 (0 : Nat) (0 : Nat) (Q3 Z n0 h0 a u u2 ws0)) s₁ (mkF m 0 #[.val (.ref a)] [])
  refine Go.st (T' := s₁) (g' := (mkF m 1 #[.val (.ref a)] [(.ref a)])) (fun t_ k_ => XS.aloadN X0.here hx rfl (hb hby d3_0) rfl rfl k_) ?_
  refine goCtor X0 hx hZ (y := (⟨"java/util/AbstractList", "<init>", "()V"⟩ : MethodName)) rfl hown (hw _ (List.mem_of_getElem? (i := 15) rfl)) (hw _ (List.mem_of_getElem? (i := 16) rfl)) (hw _ (List.mem_of_getElem? (i := 19) rfl)) (hw _ (List.mem_of_getElem? (i := 20) rfl)) (by decide) (rm4 l Z a0 hw [] n0 h0 a u u2 sz0 g0 g1 g3 g2) 0 (by decide) (by decide) (by rw [hml]; rfl) a [] [] (lenOf pd_0f51a560 rfl) rfl rfl rfl (hb hby d3_1) (by decide) (by decide) fun v1 T1 h1 X1 hq1 => ?_
  obtain ⟨rfl, K1c, p1_0, p1_1⟩ := hq1
  have f1_0 : Exa Z h1 a "java/util/ArrayList" := g0.keep K1c
  have f1_2 : Sta Z h1 "java/util/ArrayList" "DEFAULTCAPACITY_EMPTY_ELEMENTDATA" "[Ljava/lang/Object;" (.ref ws0) := sta_keep g4 K1c (allS ⟨_, g0⟩ all0)
  have sz1 : n0 ≤ h1.size := Nat.le_trans sz0 K1c.1
  have K1 : Keep h0 h1 [a] := K0.trans K1c (allS (Or.inl (List.mem_of_getElem? (i := 0) rfl)) all0)
  show Go p e below _ T1 (mkF m 4 #[.val (.ref a)] [])
  refine Go.st (T' := T1) (g' := (mkF m 5 #[.val (.ref a)] [(.ref a)])) (fun t_ k_ => XS.aloadN X1.here hx rfl (hb hby d3_4) rfl rfl k_) ?_
  refine goGetS X1 hx hZ hown (host := "") (Or.inl (hw _ (List.mem_of_getElem? (i := 30) rfl))) Via.refl f1_2 (hb hby d3_5) fun T2 X2 => ?_
  show Go p e below _ T2 (mkF m 8 #[.val (.ref a)] [(.ref ws0), (.ref a)])
  refine goPut X2 hx hZ hown (host := "") (Or.inl (hw _ (List.mem_of_getElem? (i := 31) rfl))) Via.refl p1_1 p1_0 (Or.inl (hw _ (List.mem_of_getElem? (i := 32) rfl))) (hw _ (List.mem_of_getElem? (i := 10) rfl)) (ty := (.array (.object "java/lang/Object"))) (by decide) rfl rfl g3 (hb hby d3_8) fun T3 h3 X3 W3 => ?_
  have Fw3 := p1_1.same W3
  have f3_0 : Exa Z h3 a "java/util/ArrayList" := p1_0.wr W3
  have f3_2 : Sta Z h3 "java/util/ArrayList" "DEFAULTCAPACITY_EMPTY_ELEMENTDATA" "[Ljava/lang/Object;" (.ref ws0) := f1_2.wr W3
  have sz3 : n0 ≤ h3.size := Nat.le_trans sz1 (Keep.of_wr W3).1
  have K3 : Keep h0 h3 [a] := K1.wr W3 (Or.inl (List.mem_of_getElem? (i := 0) rfl))
  show Go p e below _ T3 (mkF m 11 #[.val (.ref a)] [])
  refine goRetV X3 hx hlk hret (hb hby d3_11) (by decide) (by decide) ?_
  refine ⟨rfl, K3, f3_0⟩
theorem d1_0 : decode prog_125_method_1_code 0 = .ok (.aload_n 0, 1) := by decide +kernel
theorem d1_1 : decode prog_125_method_1_code 1 = .ok (.invokespecial 1, 3) := by decide +kernel
theorem d1_4 : decode prog_125_method_1_code 4 = .ok (.aload_n 0, 1) := by decide +kernel
theorem d1_5 : decode prog_125_method_1_code 5 = .ok (.new 7, 3) := by decide +kernel
theorem d1_8 : decode prog_125_method_1_code 8 = .ok (.dup, 1) := by decide +kernel
theorem d1_9 : decode prog_125_method_1_code 9 = .ok (.invokespecial 9, 3) := by decide +kernel
theorem d1_12 : decode prog_125_method_1_code 12 = .ok (.putfield 10, 3) := by decide +kernel
theorem d1_15 : decode prog_125_method_1_code 15 = .ok (.aload_n 0, 1) := by decide +kernel
theorem d1_16 : decode prog_125_method_1_code 16 = .ok (.iconst (-1), 1) := by decide +kernel
theorem d1_17 : decode prog_125_method_1_code 17 = .ok (.putfield 16, 3) := by decide +kernel
theorem d1_20 : decode prog_125_method_1_code 20 = .ok (.aload_n 0, 1) := by decide +kernel
theorem d1_21 : decode prog_125_method_1_code 21 = .ok (.iconst (-1), 1) := by decide +kernel
theorem d1_22 : decode prog_125_method_1_code 22 = .ok (.putfield 20, 3) := by decide +kernel
theorem d1_25 : decode prog_125_method_1_code 25 = .ok (.aload_n 0, 1) := by decide +kernel
theorem d1_26 : decode prog_125_method_1_code 26 = .ok (.iconst (-1), 1) := by decide +kernel
theorem d1_27 : decode prog_125_method_1_code 27 = .ok (.putfield 23, 3) := by decide +kernel
theorem d1_30 : decode prog_125_method_1_code 30 = .ok (.return_, 1) := by decide +kernel
theorem pn_1 : plainFor (⟨"com/example/kenshinkit/kenshinkit/schema/Facets", "<init>", "()V"⟩ : MethodName) = true := plainFor_of_name (by first | (simp [plainName, overriddenIn]; done) | decide +kernel)
theorem ef_rm1 (m : MethodId) (x0 : Addr) : entryFrame m #[(.ref x0)] 1 = mkF m 0 #[.val (.ref x0)] [] := by first | (simp [entryFrame, mkF, argsToLocals, Value.category]; done) | rfl
def Q1 (Z : State) (n0 : Nat) (h0 : Heap) (a : Addr) (u0 : Value) (u1 : Value) (u2 : Value) (u3 : Value) (ws0 : Addr) (v : Option Value) (h : Heap) : Prop := v = none ∧ Keep h0 h [a] ∧ Exa Z h a "com/example/kenshinkit/kenshinkit/schema/Facets" ∧ Fld Z h a "com/example/kenshinkit/kenshinkit/schema/Facets" "length" "I" (.int (-1 : Int32)) ∧ Fld Z h a "com/example/kenshinkit/kenshinkit/schema/Facets" "minLength" "I" (.int (-1 : Int32)) ∧ Fld Z h a "com/example/kenshinkit/kenshinkit/schema/Facets" "maxLength" "I" (.int (-1 : Int32))
set_option maxRecDepth 65536 in
set_option maxHeartbeats 40000000 in
theorem rm1 (l : Launch) (Z : State) (a0 : Array Value) (hw : ∀ d ∈ tables_1, d.before a0 Z = true) (ws : List Jvm.Cond) (n0 : Nat) (h0 : Heap) (a : Addr) (u0 : Value) (u1 : Value) (u2 : Value) (u3 : Value) (ws0 : Addr) (sz0 : n0 ≤ h0.size) (g0 : Exa Z h0 a "com/example/kenshinkit/kenshinkit/schema/Facets") (g1 : Fld Z h0 a "com/example/kenshinkit/kenshinkit/schema/Facets" "patterns" "Ljava/util/List;" u0) (g2 : Fld Z h0 a "com/example/kenshinkit/kenshinkit/schema/Facets" "length" "I" u1) (g3 : Fld Z h0 a "com/example/kenshinkit/kenshinkit/schema/Facets" "minLength" "I" u2) (g4 : Fld Z h0 a "com/example/kenshinkit/kenshinkit/schema/Facets" "maxLength" "I" u3) (g5 : n0 ≤ a) (g6 : Sta Z h0 "java/util/ArrayList" "DEFAULTCAPACITY_EMPTY_ELEMENTDATA" "[Ljava/lang/Object;" (.ref ws0)) :
    Con l (⟨"com/example/kenshinkit/kenshinkit/schema/Facets", "<init>", "()V"⟩ : MethodName) prog_125_method_1_code 1 none ({ frames := 4, cells := 1, slots := 3, locals := 60 } : Room) ws Z n0 #[(.ref a)] h0 (Q1 Z n0 h0 a u0 u1 u2 u3 ws0) := by
  refine Con.body pn_1 ?_
  intro p e s m below meth c s₁ hx hby hml hown hnm hret hlk hZ X0
  have hown : s.vm.findClass "com/example/kenshinkit/kenshinkit/schema/Facets" = some m.cls := hown
  have hnm : meth.name = "<init>" := hnm
  have K0 : Keep h0 h0 [a] := Keep.refl _ _
  rw [show entryFrame m #[(.ref a)] 1 = mkF m 0 #[.val (.ref a)] [] from ef_rm1 m a]
  show Go p e below (PostW s n0 (1 : Nat) (3 : Nat) (Q1 Z n0 h0 a u0 u1 u2 u3 ws0)) s₁ (mkF m 0 #[.val (.ref a)] [])
  refine Go.st (T' := s₁) (g' := (mkF m 1 #[.val (.ref a)] [(.ref a)])) (fun t_ k_ => XS.aloadN X0.here hx rfl (hb hby d1_0) rfl rfl k_) ?_
  refine goInit X0 hx hZ hown (hw _ (List.mem_of_getElem? (i := 6) rfl)) (hw _ (List.mem_of_getElem? (i := 7) rfl)) (hw _ (List.mem_of_getElem? (i := 8) rfl)) (by rw [hml]; rfl) (hb hby d1_1) (by decide) (W := 0) (Nat.le_of_eq rfl) (by decide) fun T1 X1 => ?_
  show Go p e below _ T1 (mkF m 4 #[.val (.ref a)] [])
  refine Go.st (T' := T1) (g' := (mkF m 5 #[.val (.ref a)] [(.ref a)])) (fun t_ k_ => XS.aloadN X1.here hx rfl (hb hby d1_4) rfl rfl k_) ?_
  refine goNew X1 hx hZ hown (hw _ (List.mem_of_getElem? (i := 9) rfl)) (hw _ (List.mem_of_getElem? (i := 10) rfl)) (hw _ (List.mem_of_getElem? (i := 11) rfl)) (hb hby d1_5) (by decide) (by decide) fun T2 h2 b2 gb2 X2 E2 A2 D2 => ?_
  have ge2 : n0 ≤ b2 := gb2 ▸ sz0
  have ne2_a : a ≠ b2 := gb2 ▸ Nat.ne_of_lt g0.lt
  have fr2 : h0.size ≤ b2 := gb2 ▸ K0.1
  have f2_0 : Exa Z h2 a "com/example/kenshinkit/kenshinkit/schema/Facets" := g0.ext E2
  have f2_1 : Fld Z h2 a "com/example/kenshinkit/kenshinkit/schema/Facets" "patterns" "Ljava/util/List;" u0 := g1.ext E2
  have f2_2 : Fld Z h2 a "com/example/kenshinkit/kenshinkit/schema/Facets" "length" "I" u1 := g2.ext E2
  have f2_3 : Fld Z h2 a "com/example/kenshinkit/kenshinkit/schema/Facets" "minLength" "I" u2 := g3.ext E2
  have f2_4 : Fld Z h2 a "com/example/kenshinkit/kenshinkit/schema/Facets" "maxLength" "I" u3 := g4.ext E2
  have f2_6 : Sta Z h2 "java/util/ArrayList" "DEFAULTCAPACITY_EMPTY_ELEMENTDATA" "[Ljava/lang/Object;" (.ref ws0) := g6.ext E2
  have sz2 : n0 ≤ h2.size := Nat.le_trans sz0 E2.1
  have K2 : Keep h0 h2 [a] := K0.ext E2
  have F2_modCount : Fld Z h2 b2 "java/util/AbstractList" "modCount" "I" (.int (0 : Int32)) := D2 (Or.inl (hw _ (List.mem_of_getElem? (i := 29) rfl))) (ty := .int) (by decide)
  have F2_elementData : Fld Z h2 b2 "java/util/ArrayList" "elementData" "[Ljava/lang/Object;" .null := D2 (Or.inl (hw _ (List.mem_of_getElem? (i := 32) rfl))) (ty := (.array (.object "java/lang/Object"))) (by decide)
  show Go p e below _ T2 (mkF m 8 #[.val (.ref a)] [(.ref b2), (.ref a)])
  refine Go.st (T' := T2) (g' := (mkF m 9 #[.val (.ref a)] [(.ref b2), (.ref b2), (.ref a)])) (fun t_ k_ => XS.dup X2.here hx rfl (hb hby d1_8) rfl rfl k_) ?_
  refine goCtor X2 hx hZ (y := (⟨"java/util/ArrayList", "<init>", "()V"⟩ : MethodName)) rfl hown (hw _ (List.mem_of_getElem? (i := 12) rfl)) (hw _ (List.mem_of_getElem? (i := 13) rfl)) (hw _ (List.mem_of_getElem? (i := 11) rfl)) (hw _ (List.mem_of_getElem? (i := 14) rfl)) (by decide) (rm3 l Z a0 hw [] n0 h2 b2 (.int (0 : Int32)) .null ws0 sz2 A2 F2_modCount F2_elementData ge2 f2_6) 2 (by decide) (by decide) (by rw [hml]; rfl) b2 [] [(.ref b2), (.ref a)] (lenOf pd_0f51a560 rfl) rfl rfl rfl (hb hby d1_9) (by decide) (by decide) fun v3 T3 h3 X3 hq3 => ?_
  obtain ⟨rfl, K3c, p3_0⟩ := hq3
  have f3_0 : Exa Z h3 a "com/example/kenshinkit/kenshinkit/schema/Facets" := f2_0.keep K3c
  have f3_1 : Fld Z h3 a "com/example/kenshinkit/kenshinkit/schema/Facets" "patterns" "Ljava/util/List;" u0 := f2_1.keep K3c (ninS ne2_a nin0)
  have f3_2 : Fld Z h3 a "com/example/kenshinkit/kenshinkit/schema/Facets" "length" "I" u1 := f2_2.keep K3c (ninS ne2_a nin0)
  have f3_3 : Fld Z h3 a "com/example/kenshinkit/kenshinkit/schema/Facets" "minLength" "I" u2 := f2_3.keep K3c (ninS ne2_a nin0)
  have f3_4 : Fld Z h3 a "com/example/kenshinkit/kenshinkit/schema/Facets" "maxLength" "I" u3 := f2_4.keep K3c (ninS ne2_a nin0)
  have f3_6 : Sta Z h3 "java/util/ArrayList" "DEFAULTCAPACITY_EMPTY_ELEMENTDATA" "[Ljava/lang/Object;" (.ref ws0) := sta_keep f2_6 K3c (allS ⟨_, A2⟩ all0)
  have f3_10 : Exa Z h3 b2 "java/util/ArrayList" := A2.keep K3c
  have sz3 : n0 ≤ h3.size := Nat.le_trans sz2 K3c.1
  have K3 : Keep h0 h3 [a] := K2.trans K3c (allS (Or.inr fr2) all0)
  show Go p e below _ T3 (mkF m 12 #[.val (.ref a)] [(.ref b2), (.ref a)])
  refine goPut X3 hx hZ hown (host := "") (Or.inl (hw _ (List.mem_of_getElem? (i := 33) rfl))) Via.refl f3_1 f3_0 (Or.inr ⟨(hw _ (List.mem_of_getElem? (i := 34) rfl)), rfl, hnm⟩) (hw _ (List.mem_of_getElem? (i := 1) rfl)) (ty := (.object "java/util/List")) (by decide) rfl rfl g5 (hb hby d1_12) fun T4 h4 X4 W4 => ?_
  have Fw4 := f3_1.same W4
  have f4_0 : Exa Z h4 a "com/example/kenshinkit/kenshinkit/schema/Facets" := f3_0.wr W4
  have f4_1 : Fld Z h4 a "com/example/kenshinkit/kenshinkit/schema/Facets" "length" "I" u1 := f3_2.other W4 (Or.inr (slot_ne (Or.inl (hw _ (List.mem_of_getElem? (i := 36) rfl))) (Or.inr (hw _ (List.mem_of_getElem? (i := 34) rfl))) (by decide) (t := .int) (t' := (.object "java/util/List")) (by decide) (by decide)))
  have f4_2 : Fld Z h4 a "com/example/kenshinkit/kenshinkit/schema/Facets" "minLength" "I" u2 := f3_3.other W4 (Or.inr (slot_ne (Or.inl (hw _ (List.mem_of_getElem? (i := 38) rfl))) (Or.inr (hw _ (List.mem_of_getElem? (i := 34) rfl))) (by decide) (t := .int) (t' := (.object "java/util/List")) (by decide) (by decide)))
  have f4_3 : Fld Z h4 a "com/example/kenshinkit/kenshinkit/schema/Facets" "maxLength" "I" u3 := f3_4.other W4 (Or.inr (slot_ne (Or.inl (hw _ (List.mem_of_getElem? (i := 40) rfl))) (Or.inr (hw _ (List.mem_of_getElem? (i := 34) rfl))) (by decide) (t := .int) (t' := (.object "java/util/List")) (by decide) (by decide)))
  have f4_5 : Sta Z h4 "java/util/ArrayList" "DEFAULTCAPACITY_EMPTY_ELEMENTDATA" "[Ljava/lang/Object;" (.ref ws0) := f3_6.wr W4
  have f4_9 : Exa Z h4 b2 "java/util/ArrayList" := p3_0.wr W4
  have sz4 : n0 ≤ h4.size := Nat.le_trans sz3 (Keep.of_wr W4).1
  have K4 : Keep h0 h4 [a] := K3.wr W4 (Or.inl (List.mem_of_getElem? (i := 0) rfl))
  show Go p e below _ T4 (mkF m 15 #[.val (.ref a)] [])
  refine Go.st (T' := T4) (g' := (mkF m 16 #[.val (.ref a)] [(.ref a)])) (fun t_ k_ => XS.aloadN X4.here hx rfl (hb hby d1_15) rfl rfl k_) ?_
  refine Go.st (T' := T4) (g' := (mkF m 17 #[.val (.ref a)] [(.int (-1 : Int32)), (.ref a)])) (fun t_ k_ => XS.iconst X4.here hx rfl (hb hby d1_16) k_) ?_
  refine goPut X4 hx hZ hown (host := "") (Or.inl (hw _ (List.mem_of_getElem? (i := 35) rfl))) Via.refl f4_1 f4_0 (Or.inl (hw _ (List.mem_of_getElem? (i := 36) rfl))) (hw _ (List.mem_of_getElem? (i := 1) rfl)) (ty := .int) (by decide) rfl rfl g5 (hb hby d1_17) fun T5 h5 X5 W5 => ?_
  have Fw5 := f4_1.same W5
  have f5_0 : Exa Z h5 a "com/example/kenshinkit/kenshinkit/schema/Facets" := f4_0.wr W5
  have f5_1 : Fld Z h5 a "com/example/kenshinkit/kenshinkit/schema/Facets" "minLength" "I" u2 := f4_2.other W5 (Or.inr (slot_ne (Or.inl (hw _ (List.mem_of_getElem? (i := 38) rfl))) (Or.inl (hw _ (List.mem_of_getElem? (i := 36) rfl))) (by decide) (t := .int) (t' := .int) (by decide) (by decide)))
  have f5_2 : Fld Z h5 a "com/example/kenshinkit/kenshinkit/schema/Facets" "maxLength" "I" u3 := f4_3.other W5 (Or.inr (slot_ne (Or.inl (hw _ (List.mem_of_getElem? (i := 40) rfl))) (Or.inl (hw _ (List.mem_of_getElem? (i := 36) rfl))) (by decide) (t := .int) (t' := .int) (by decide) (by decide)))
  have f5_4 : Sta Z h5 "java/util/ArrayList" "DEFAULTCAPACITY_EMPTY_ELEMENTDATA" "[Ljava/lang/Object;" (.ref ws0) := f4_5.wr W5
  have f5_8 : Exa Z h5 b2 "java/util/ArrayList" := f4_9.wr W5
  have f5_9 : Fld Z h5 a "com/example/kenshinkit/kenshinkit/schema/Facets" "patterns" "Ljava/util/List;" (.ref b2) := Fw4.other W5 (Or.inr (slot_ne (Or.inr (hw _ (List.mem_of_getElem? (i := 34) rfl))) (Or.inl (hw _ (List.mem_of_getElem? (i := 36) rfl))) (by decide) (t := (.object "java/util/List")) (t' := .int) (by decide) (by decide)))
  have sz5 : n0 ≤ h5.size := Nat.le_trans sz4 (Keep.of_wr W5).1
  have K5 : Keep h0 h5 [a] := K4.wr W5 (Or.inl (List.mem_of_getElem? (i := 0) rfl))
  show Go p e below _ T5 (mkF m 20 #[.val (.ref a)] [])
  refine Go.st (T' := T5) (g' := (mkF m 21 #[.val (.ref a)] [(.ref a)])) (fun t_ k_ => XS.aloadN X5.here hx rfl (hb hby d1_20) rfl rfl k_) ?_
  refine Go.st (T' := T5) (g' := (mkF m 22 #[.val (.ref a)] [(.int (-1 : Int32)), (.ref a)])) (fun t_ k_ => XS.iconst X5.here hx rfl (hb hby d1_21) k_) ?_
  refine goPut X5 hx hZ hown (host := "") (Or.inl (hw _ (List.mem_of_getElem? (i := 37) rfl))) Via.refl f5_1 f5_0 (Or.inl (hw _ (List.mem_of_getElem? (i := 38) rfl))) (hw _ (List.mem_of_getElem? (i := 1) rfl)) (ty := .int) (by decide) rfl rfl g5 (hb hby d1_22) fun T6 h6 X6 W6 => ?_
  have Fw6 := f5_1.same W6
  have f6_0 : Exa Z h6 a "com/example/kenshinkit/kenshinkit/schema/Facets" := f5_0.wr W6
  have f6_1 : Fld Z h6 a "com/example/kenshinkit/kenshinkit/schema/Facets" "maxLength" "I" u3 := f5_2.other W6 (Or.inr (slot_ne (Or.inl (hw _ (List.mem_of_getElem? (i := 40) rfl))) (Or.inl (hw _ (List.mem_of_getElem? (i := 38) rfl))) (by decide) (t := .int) (t' := .int) (by decide) (by decide)))
  have f6_3 : Sta Z h6 "java/util/ArrayList" "DEFAULTCAPACITY_EMPTY_ELEMENTDATA" "[Ljava/lang/Object;" (.ref ws0) := f5_4.wr W6
  have f6_7 : Exa Z h6 b2 "java/util/ArrayList" := f5_8.wr W6
  have f6_8 : Fld Z h6 a "com/example/kenshinkit/kenshinkit/schema/Facets" "patterns" "Ljava/util/List;" (.ref b2) := f5_9.other W6 (Or.inr (slot_ne (Or.inr (hw _ (List.mem_of_getElem? (i := 34) rfl))) (Or.inl (hw _ (List.mem_of_getElem? (i := 38) rfl))) (by decide) (t := (.object "java/util/List")) (t' := .int) (by decide) (by decide)))
  have f6_9 : Fld Z h6 a "com/example/kenshinkit/kenshinkit/schema/Facets" "length" "I" (.int (-1 : Int32)) := Fw5.other W6 (Or.inr (slot_ne (Or.inl (hw _ (List.mem_of_getElem? (i := 36) rfl))) (Or.inl (hw _ (List.mem_of_getElem? (i := 38) rfl))) (by decide) (t := .int) (t' := .int) (by decide) (by decide)))
  have sz6 : n0 ≤ h6.size := Nat.le_trans sz5 (Keep.of_wr W6).1
  have K6 : Keep h0 h6 [a] := K5.wr W6 (Or.inl (List.mem_of_getElem? (i := 0) rfl))
  show Go p e below _ T6 (mkF m 25 #[.val (.ref a)] [])
  refine Go.st (T' := T6) (g' := (mkF m 26 #[.val (.ref a)] [(.ref a)])) (fun t_ k_ => XS.aloadN X6.here hx rfl (hb hby d1_25) rfl rfl k_) ?_
  refine Go.st (T' := T6) (g' := (mkF m 27 #[.val (.ref a)] [(.int (-1 : Int32)), (.ref a)])) (fun t_ k_ => XS.iconst X6.here hx rfl (hb hby d1_26) k_) ?_
  refine goPut X6 hx hZ hown (host := "") (Or.inl (hw _ (List.mem_of_getElem? (i := 39) rfl))) Via.refl f6_1 f6_0 (Or.inl (hw _ (List.mem_of_getElem? (i := 40) rfl))) (hw _ (List.mem_of_getElem? (i := 1) rfl)) (ty := .int) (by decide) rfl rfl g5 (hb hby d1_27) fun T7 h7 X7 W7 => ?_
  have Fw7 := f6_1.same W7
  have f7_0 : Exa Z h7 a "com/example/kenshinkit/kenshinkit/schema/Facets" := f6_0.wr W7
  have f7_2 : Sta Z h7 "java/util/ArrayList" "DEFAULTCAPACITY_EMPTY_ELEMENTDATA" "[Ljava/lang/Object;" (.ref ws0) := f6_3.wr W7
  have f7_6 : Exa Z h7 b2 "java/util/ArrayList" := f6_7.wr W7
  have f7_7 : Fld Z h7 a "com/example/kenshinkit/kenshinkit/schema/Facets" "patterns" "Ljava/util/List;" (.ref b2) := f6_8.other W7 (Or.inr (slot_ne (Or.inr (hw _ (List.mem_of_getElem? (i := 34) rfl))) (Or.inl (hw _ (List.mem_of_getElem? (i := 40) rfl))) (by decide) (t := (.object "java/util/List")) (t' := .int) (by decide) (by decide)))
  have f7_8 : Fld Z h7 a "com/example/kenshinkit/kenshinkit/schema/Facets" "length" "I" (.int (-1 : Int32)) := f6_9.other W7 (Or.inr (slot_ne (Or.inl (hw _ (List.mem_of_getElem? (i := 36) rfl))) (Or.inl (hw _ (List.mem_of_getElem? (i := 40) rfl))) (by decide) (t := .int) (t' := .int) (by decide) (by decide)))
  have f7_9 : Fld Z h7 a "com/example/kenshinkit/kenshinkit/schema/Facets" "minLength" "I" (.int (-1 : Int32)) := Fw6.other W7 (Or.inr (slot_ne (Or.inl (hw _ (List.mem_of_getElem? (i := 38) rfl))) (Or.inl (hw _ (List.mem_of_getElem? (i := 40) rfl))) (by decide) (t := .int) (t' := .int) (by decide) (by decide)))
  have sz7 : n0 ≤ h7.size := Nat.le_trans sz6 (Keep.of_wr W7).1
  have K7 : Keep h0 h7 [a] := K6.wr W7 (Or.inl (List.mem_of_getElem? (i := 0) rfl))
  show Go p e below _ T7 (mkF m 30 #[.val (.ref a)] [])
  refine goRetV X7 hx hlk hret (hb hby d1_30) (by decide) (by decide) ?_
  refine ⟨rfl, K7, f7_0, f7_8, f7_9, Fw7⟩
theorem d9_0 : decode prog_125_method_4_code 0 = .ok (.aload_n 0, 1) := by decide +kernel
theorem d9_1 : decode prog_125_method_4_code 1 = .ok (.iload_n 1, 1) := by decide +kernel
theorem d9_2 : decode prog_125_method_4_code 2 = .ok (.putfield 16, 3) := by decide +kernel
theorem d9_5 : decode prog_125_method_4_code 5 = .ok (.return_, 1) := by decide +kernel
theorem pn_9 : plainFor (⟨"com/example/kenshinkit/kenshinkit/schema/Facets", "setLength", "(I)V"⟩ : MethodName) = true := plainFor_of_name (by first | (simp [plainName, overriddenIn]; done) | decide +kernel)
theorem ef_rm9 (m : MethodId) (x0 : Addr) (x1 : Int32) : entryFrame m #[(.ref x0), (.int x1)] 2 = mkF m 0 #[.val (.ref x0), .val (.int x1)] [] := by first | (simp [entryFrame, mkF, argsToLocals, Value.category]; done) | rfl
def Q9 (Z : State) (n0 : Nat) (h0 : Heap) (a : Addr) (q : Int32) (w1 : Int32) (w2 : Int32) (w3 : Int32) (v : Option Value) (h : Heap) : Prop := v = none ∧ Keep h0 h [a] ∧ Exa Z h a "com/example/kenshinkit/kenshinkit/schema/Facets" ∧ Fld Z h a "com/example/kenshinkit/kenshinkit/schema/Facets" "length" "I" (.int q) ∧ Fld Z h a "com/example/kenshinkit/kenshinkit/schema/Facets" "minLength" "I" (.int w2) ∧ Fld Z h a "com/example/kenshinkit/kenshinkit/schema/Facets" "maxLength" "I" (.int w3)
set_option maxRecDepth 65536 in
set_option maxHeartbeats 40000000 in
theorem rm9 (l : Launch) (Z : State) (a0 : Array Value) (hw : ∀ d ∈ tables_1, d.before a0 Z = true) (ws : List Jvm.Cond) (n0 : Nat) (h0 : Heap) (a : Addr) (q : Int32) (w1 : Int32) (w2 : Int32) (w3 : Int32) (sz0 : n0 ≤ h0.size) (g0 : Exa Z h0 a "com/example/kenshinkit/kenshinkit/schema/Facets") (g1 : Fld Z h0 a "com/example/kenshinkit/kenshinkit/schema/Facets" "length" "I" (.int w1)) (g2 : Fld Z h0 a "com/example/kenshinkit/kenshinkit/schema/Facets" "minLength" "I" (.int w2)) (g3 : Fld Z h0 a "com/example/kenshinkit/kenshinkit/schema/Facets" "maxLength" "I" (.int w3)) (g4 : n0 ≤ a) :
    Con l (⟨"com/example/kenshinkit/kenshinkit/schema/Facets", "setLength", "(I)V"⟩ : MethodName) prog_125_method_4_code 2 none ({ frames := 0, cells := 0, slots := 0, locals := 0 } : Room) ws Z n0 #[(.ref a), (.int q)] h0 (Q9 Z n0 h0 a q w1 w2 w3) := by
  refine Con.body pn_9 ?_
  intro p e s m below meth c s₁ hx hby hml hown hnm hret hlk hZ X0
  have hown : s.vm.findClass "com/example/kenshinkit/kenshinkit/schema/Facets" = some m.cls := hown
  have hnm : meth.name = "setLength" := hnm
  have K0 : Keep h0 h0 [a] := Keep.refl _ _
  rw [show entryFrame m #[(.ref a), (.int q)] 2 = mkF m 0 #[.val (.ref a), .val (.int q)] [] from ef_rm9 m a q]
  show Go p e below (PostW s n0 (0 : Nat) (0 : Nat) (Q9 Z n0 h0 a q w1 w2 w3)) s₁ (mkF m 0 #[.val (.ref a), .val (.int q)] [])
  refine Go.st (T' := s₁) (g' := (mkF m 1 #[.val (.ref a), .val (.int q)] [(.ref a)])) (fun t_ k_ => XS.aloadN X0.here hx rfl (hb hby d9_0) rfl rfl k_) ?_
  refine Go.st (T' := s₁) (g' := (mkF m 2 #[.val (.ref a), .val (.int q)] [(.int q), (.ref a)])) (fun t_ k_ => XS.iloadN X0.here hx rfl (hb hby d9_1) rfl k_) ?_
  refine goPut X0 hx hZ hown (host := "") (Or.inl (hw _ (List.mem_of_getElem? (i := 35) rfl))) Via.refl g1 g0 (Or.inl (hw _ (List.mem_of_getElem? (i := 36) rfl))) (hw _ (List.mem_of_getElem? (i := 1) rfl)) (ty := .int) (by decide) rfl rfl g4 (hb hby d9_2) fun T1 h1 X1 W1 => ?_
  have Fw1 := g1.same W1
  have f1_0 : Exa Z h1 a "com/example/kenshinkit/kenshinkit/schema/Facets" := g0.wr W1
  have f1_1 : Fld Z h1 a "com/example/kenshinkit/kenshinkit/schema/Facets" "minLength" "I" (.int w2) := g2.other W1 (Or.inr (slot_ne (Or.inl (hw _ (List.mem_of_getElem? (i := 38) rfl))) (Or.inl (hw _ (List.mem_of_getElem? (i := 36) rfl))) (by decide) (t := .int) (t' := .int) (by decide) (by decide)))
  have f1_2 : Fld Z h1 a "com/example/kenshinkit/kenshinkit/schema/Facets" "maxLength" "I" (.int w3) := g3.other W1 (Or.inr (slot_ne (Or.inl (hw _ (List.mem_of_getElem? (i := 40) rfl))) (Or.inl (hw _ (List.mem_of_getElem? (i := 36) rfl))) (by decide) (t := .int) (t' := .int) (by decide) (by decide)))
  have sz1 : n0 ≤ h1.size := Nat.le_trans sz0 (Keep.of_wr W1).1
  have K1 : Keep h0 h1 [a] := K0.wr W1 (Or.inl (List.mem_of_getElem? (i := 0) rfl))
  show Go p e below _ T1 (mkF m 5 #[.val (.ref a), .val (.int q)] [])
  refine goRetV X1 hx hlk hret (hb hby d9_5) (by decide) (by decide) ?_
  refine ⟨rfl, K1, f1_0, Fw1, f1_1, f1_2⟩
theorem d7_0 : decode prog_125_method_5_code 0 = .ok (.aload_n 0, 1) := by decide +kernel
theorem d7_1 : decode prog_125_method_5_code 1 = .ok (.iload_n 1, 1) := by decide +kernel
theorem d7_2 : decode prog_125_method_5_code 2 = .ok (.putfield 20, 3) := by decide +kernel
theorem d7_5 : decode prog_125_method_5_code 5 = .ok (.return_, 1) := by decide +kernel
theorem pn_7 : plainFor (⟨"com/example/kenshinkit/kenshinkit/schema/Facets", "setMinLength", "(I)V"⟩ : MethodName) = true := plainFor_of_name (by first | (simp [plainName, overriddenIn]; done) | decide +kernel)
theorem ef_rm7 (m : MethodId) (x0 : Addr) (x1 : Int32) : entryFrame m #[(.ref x0), (.int x1)] 2 = mkF m 0 #[.val (.ref x0), .val (.int x1)] [] := by first | (simp [entryFrame, mkF, argsToLocals, Value.category]; done) | rfl
def Q7 (Z : State) (n0 : Nat) (h0 : Heap) (a : Addr) (q : Int32) (w1 : Int32) (w2 : Int32) (w3 : Int32) (v : Option Value) (h : Heap) : Prop := v = none ∧ Keep h0 h [a] ∧ Exa Z h a "com/example/kenshinkit/kenshinkit/schema/Facets" ∧ Fld Z h a "com/example/kenshinkit/kenshinkit/schema/Facets" "length" "I" (.int w1) ∧ Fld Z h a "com/example/kenshinkit/kenshinkit/schema/Facets" "minLength" "I" (.int q) ∧ Fld Z h a "com/example/kenshinkit/kenshinkit/schema/Facets" "maxLength" "I" (.int w3)
set_option maxRecDepth 65536 in
set_option maxHeartbeats 40000000 in
theorem rm7 (l : Launch) (Z : State) (a0 : Array Value) (hw : ∀ d ∈ tables_1, d.before a0 Z = true) (ws : List Jvm.Cond) (n0 : Nat) (h0 : Heap) (a : Addr) (q : Int32) (w1 : Int32) (w2 : Int32) (w3 : Int32) (sz0 : n0 ≤ h0.size) (g0 : Exa Z h0 a "com/example/kenshinkit/kenshinkit/schema/Facets") (g1 : Fld Z h0 a "com/example/kenshinkit/kenshinkit/schema/Facets" "length" "I" (.int w1)) (g2 : Fld Z h0 a "com/example/kenshinkit/kenshinkit/schema/Facets" "minLength" "I" (.int w2)) (g3 : Fld Z h0 a "com/example/kenshinkit/kenshinkit/schema/Facets" "maxLength" "I" (.int w3)) (g4 : n0 ≤ a) :
    Con l (⟨"com/example/kenshinkit/kenshinkit/schema/Facets", "setMinLength", "(I)V"⟩ : MethodName) prog_125_method_5_code 2 none ({ frames := 0, cells := 0, slots := 0, locals := 0 } : Room) ws Z n0 #[(.ref a), (.int q)] h0 (Q7 Z n0 h0 a q w1 w2 w3) := by
  refine Con.body pn_7 ?_
  intro p e s m below meth c s₁ hx hby hml hown hnm hret hlk hZ X0
  have hown : s.vm.findClass "com/example/kenshinkit/kenshinkit/schema/Facets" = some m.cls := hown
  have hnm : meth.name = "setMinLength" := hnm
  have K0 : Keep h0 h0 [a] := Keep.refl _ _
  rw [show entryFrame m #[(.ref a), (.int q)] 2 = mkF m 0 #[.val (.ref a), .val (.int q)] [] from ef_rm7 m a q]
  show Go p e below (PostW s n0 (0 : Nat) (0 : Nat) (Q7 Z n0 h0 a q w1 w2 w3)) s₁ (mkF m 0 #[.val (.ref a), .val (.int q)] [])
  refine Go.st (T' := s₁) (g' := (mkF m 1 #[.val (.ref a), .val (.int q)] [(.ref a)])) (fun t_ k_ => XS.aloadN X0.here hx rfl (hb hby d7_0) rfl rfl k_) ?_
  refine Go.st (T' := s₁) (g' := (mkF m 2 #[.val (.ref a), .val (.int q)] [(.int q), (.ref a)])) (fun t_ k_ => XS.iloadN X0.here hx rfl (hb hby d7_1) rfl k_) ?_
  refine goPut X0 hx hZ hown (host := "") (Or.inl (hw _ (List.mem_of_getElem? (i := 37) rfl))) Via.refl g2 g0 (Or.inl (hw _ (List.mem_of_getElem? (i := 38) rfl))) (hw _ (List.mem_of_getElem? (i := 1) rfl)) (ty := .int) (by decide) rfl rfl g4 (hb hby d7_2) fun T1 h1 X1 W1 => ?_
  have Fw1 := g2.same W1
  have f1_0 : Exa Z h1 a "com/example/kenshinkit/kenshinkit/schema/Facets" := g0.wr W1
  have f1_1 : Fld Z h1 a "com/example/kenshinkit/kenshinkit/schema/Facets" "length" "I" (.int w1) := g1.other W1 (Or.inr (slot_ne (Or.inl (hw _ (List.mem_of_getElem? (i := 36) rfl))) (Or.inl (hw _ (List.mem_of_getElem? (i := 38) rfl))) (by decide) (t := .int) (t' := .int) (by decide) (by decide)))
  have f1_2 : Fld Z h1 a "com/example/kenshinkit/kenshinkit/schema/Facets" "maxLength" "I" (.int w3) := g3.other W1 (Or.inr (slot_ne (Or.inl (hw _ (List.mem_of_getElem? (i := 40) rfl))) (Or.inl (hw _ (List.mem_of_getElem? (i := 38) rfl))) (by decide) (t := .int) (t' := .int) (by decide) (by decide)))
  have sz1 : n0 ≤ h1.size := Nat.le_trans sz0 (Keep.of_wr W1).1
  have K1 : Keep h0 h1 [a] := K0.wr W1 (Or.inl (List.mem_of_getElem? (i := 0) rfl))
  show Go p e below _ T1 (mkF m 5 #[.val (.ref a), .val (.int q)] [])
  refine goRetV X1 hx hlk hret (hb hby d7_5) (by decide) (by decide) ?_
  refine ⟨rfl, K1, f1_0, f1_1, Fw1, f1_2⟩
theorem d10_0 : decode prog_125_method_6_code 0 = .ok (.aload_n 0, 1) := by decide +kernel
theorem d10_1 : decode prog_125_method_6_code 1 = .ok (.iload_n 1, 1) := by decide +kernel
theorem d10_2 : decode prog_125_method_6_code 2 = .ok (.putfield 23, 3) := by decide +kernel
theorem d10_5 : decode prog_125_method_6_code 5 = .ok (.return_, 1) := by decide +kernel
theorem pn_10 : plainFor (⟨"com/example/kenshinkit/kenshinkit/schema/Facets", "setMaxLength", "(I)V"⟩ : MethodName) = true := plainFor_of_name (by first | (simp [plainName, overriddenIn]; done) | decide +kernel)
theorem ef_rm10 (m : MethodId) (x0 : Addr) (x1 : Int32) : entryFrame m #[(.ref x0), (.int x1)] 2 = mkF m 0 #[.val (.ref x0), .val (.int x1)] [] := by first | (simp [entryFrame, mkF, argsToLocals, Value.category]; done) | rfl
def Q10 (Z : State) (n0 : Nat) (h0 : Heap) (a : Addr) (q : Int32) (w1 : Int32) (w2 : Int32) (w3 : Int32) (v : Option Value) (h : Heap) : Prop := v = none ∧ Keep h0 h [a] ∧ Exa Z h a "com/example/kenshinkit/kenshinkit/schema/Facets" ∧ Fld Z h a "com/example/kenshinkit/kenshinkit/schema/Facets" "length" "I" (.int w1) ∧ Fld Z h a "com/example/kenshinkit/kenshinkit/schema/Facets" "minLength" "I" (.int w2) ∧ Fld Z h a "com/example/kenshinkit/kenshinkit/schema/Facets" "maxLength" "I" (.int q)
set_option maxRecDepth 65536 in
set_option maxHeartbeats 40000000 in
theorem rm10 (l : Launch) (Z : State) (a0 : Array Value) (hw : ∀ d ∈ tables_1, d.before a0 Z = true) (ws : List Jvm.Cond) (n0 : Nat) (h0 : Heap) (a : Addr) (q : Int32) (w1 : Int32) (w2 : Int32) (w3 : Int32) (sz0 : n0 ≤ h0.size) (g0 : Exa Z h0 a "com/example/kenshinkit/kenshinkit/schema/Facets") (g1 : Fld Z h0 a "com/example/kenshinkit/kenshinkit/schema/Facets" "length" "I" (.int w1)) (g2 : Fld Z h0 a "com/example/kenshinkit/kenshinkit/schema/Facets" "minLength" "I" (.int w2)) (g3 : Fld Z h0 a "com/example/kenshinkit/kenshinkit/schema/Facets" "maxLength" "I" (.int w3)) (g4 : n0 ≤ a) :
    Con l (⟨"com/example/kenshinkit/kenshinkit/schema/Facets", "setMaxLength", "(I)V"⟩ : MethodName) prog_125_method_6_code 2 none ({ frames := 0, cells := 0, slots := 0, locals := 0 } : Room) ws Z n0 #[(.ref a), (.int q)] h0 (Q10 Z n0 h0 a q w1 w2 w3) := by
  refine Con.body pn_10 ?_
  intro p e s m below meth c s₁ hx hby hml hown hnm hret hlk hZ X0
  have hown : s.vm.findClass "com/example/kenshinkit/kenshinkit/schema/Facets" = some m.cls := hown
  have hnm : meth.name = "setMaxLength" := hnm
  have K0 : Keep h0 h0 [a] := Keep.refl _ _
  rw [show entryFrame m #[(.ref a), (.int q)] 2 = mkF m 0 #[.val (.ref a), .val (.int q)] [] from ef_rm10 m a q]
  show Go p e below (PostW s n0 (0 : Nat) (0 : Nat) (Q10 Z n0 h0 a q w1 w2 w3)) s₁ (mkF m 0 #[.val (.ref a), .val (.int q)] [])
  refine Go.st (T' := s₁) (g' := (mkF m 1 #[.val (.ref a), .val (.int q)] [(.ref a)])) (fun t_ k_ => XS.aloadN X0.here hx rfl (hb hby d10_0) rfl rfl k_) ?_
  refine Go.st (T' := s₁) (g' := (mkF m 2 #[.val (.ref a), .val (.int q)] [(.int q), (.ref a)])) (fun t_ k_ => XS.iloadN X0.here hx rfl (hb hby d10_1) rfl k_) ?_
  refine goPut X0 hx hZ hown (host := "") (Or.inl (hw _ (List.mem_of_getElem? (i := 39) rfl))) Via.refl g3 g0 (Or.inl (hw _ (List.mem_of_getElem? (i := 40) rfl))) (hw _ (List.mem_of_getElem? (i := 1) rfl)) (ty := .int) (by decide) rfl rfl g4 (hb hby d10_2) fun T1 h1 X1 W1 => ?_
  have Fw1 := g3.same W1
  have f1_0 : Exa Z h1 a "com/example/kenshinkit/kenshinkit/schema/Facets" := g0.wr W1
  have f1_1 : Fld Z h1 a "com/example/kenshinkit/kenshinkit/schema/Facets" "length" "I" (.int w1) := g1.other W1 (Or.inr (slot_ne (Or.inl (hw _ (List.mem_of_getElem? (i := 36) rfl))) (Or.inl (hw _ (List.mem_of_getElem? (i := 40) rfl))) (by decide) (t := .int) (t' := .int) (by decide) (by decide)))
  have f1_2 : Fld Z h1 a "com/example/kenshinkit/kenshinkit/schema/Facets" "minLength" "I" (.int w2) := g2.other W1 (Or.inr (slot_ne (Or.inl (hw _ (List.mem_of_getElem? (i := 38) rfl))) (Or.inl (hw _ (List.mem_of_getElem? (i := 40) rfl))) (by decide) (t := .int) (t' := .int) (by decide) (by decide)))
  have sz1 : n0 ≤ h1.size := Nat.le_trans sz0 (Keep.of_wr W1).1
  have K1 : Keep h0 h1 [a] := K0.wr W1 (Or.inl (List.mem_of_getElem? (i := 0) rfl))
  show Go p e below _ T1 (mkF m 5 #[.val (.ref a), .val (.int q)] [])
  refine goRetV X1 hx hlk hret (hb hby d10_5) (by decide) (by decide) ?_
  refine ⟨rfl, K1, f1_0, f1_1, f1_2, Fw1⟩
theorem d6_0 : decode prog_125_method_10_code 0 = .ok (.aload_n 0, 1) := by decide +kernel
theorem d6_1 : decode prog_125_method_10_code 1 = .ok (.getfield 16, 3) := by decide +kernel
theorem d6_4 : decode prog_125_method_10_code 4 = .ok (.ifCond .lt 11, 3) := by decide +kernel
theorem d6_7 : decode prog_125_method_10_code 7 = .ok (.iload_n 1, 1) := by decide +kernel
theorem d6_8 : decode prog_125_method_10_code 8 = .ok (.aload_n 0, 1) := by decide +kernel
theorem d6_9 : decode prog_125_method_10_code 9 = .ok (.getfield 16, 3) := by decide +kernel
theorem d6_12 : decode prog_125_method_10_code 12 = .ok (.if_icmp .ne 37, 3) := by decide +kernel
theorem d6_15 : decode prog_125_method_10_code 15 = .ok (.aload_n 0, 1) := by decide +kernel
theorem d6_16 : decode prog_125_method_10_code 16 = .ok (.getfield 20, 3) := by decide +kernel
theorem d6_19 : decode prog_125_method_10_code 19 = .ok (.ifCond .lt 11, 3) := by decide +kernel
theorem d6_22 : decode prog_125_method_10_code 22 = .ok (.iload_n 1, 1) := by decide +kernel
theorem d6_23 : decode prog_125_method_10_code 23 = .ok (.aload_n 0, 1) := by decide +kernel
theorem d6_24 : decode prog_125_method_10_code 24 = .ok (.getfield 20, 3) := by decide +kernel
theorem d6_27 : decode prog_125_method_10_code 27 = .ok (.if_icmp .lt 22, 3) := by decide +kernel
theorem d6_30 : decode prog_125_method_10_code 30 = .ok (.aload_n 0, 1) := by decide +kernel
theorem d6_31 : decode prog_125_method_10_code 31 = .ok (.getfield 23, 3) := by decide +kernel
theorem d6_34 : decode prog_125_method_10_code 34 = .ok (.ifCond .lt 11, 3) := by decide +kernel
theorem d6_37 : decode prog_125_method_10_code 37 = .ok (.iload_n 1, 1) := by decide +kernel
theorem d6_38 : decode prog_125_method_10_code 38 = .ok (.aload_n 0, 1) := by decide +kernel
theorem d6_39 : decode prog_125_method_10_code 39 = .ok (.getfield 23, 3) := by decide +kernel
theorem d6_42 : decode prog_125_method_10_code 42 = .ok (.if_icmp .gt 7, 3) := by decide +kernel
theorem d6_45 : decode prog_125_method_10_code 45 = .ok (.iconst 1, 1) := by decide +kernel
theorem d6_46 : decode prog_125_method_10_code 46 = .ok (.goto 4, 3) := by decide +kernel
theorem d6_49 : decode prog_125_method_10_code 49 = .ok (.iconst 0, 1) := by decide +kernel
theorem d6_50 : decode prog_125_method_10_code 50 = .ok (.ireturn, 1) := by decide +kernel
theorem pn_6 : plainFor (⟨"com/example/kenshinkit/kenshinkit/schema/Facets", "acceptsLength", "(I)Z"⟩ : MethodName) = true := plainFor_of_name (by first | (simp [plainName, overriddenIn]; done) | decide +kernel)
theorem ef_rm6 (m : MethodId) (x0 : Addr) (x1 : Int32) : entryFrame m #[(.ref x0), (.int x1)] 2 = mkF m 0 #[.val (.ref x0), .val (.int x1)] [] := by first | (simp [entryFrame, mkF, argsToLocals, Value.category]; done) | rfl
def Q6 (Z : State) (n0 : Nat) (h0 : Heap) (a : Addr) (q : Int32) (w1 : Int32) (w2 : Int32) (w3 : Int32) (v : Option Value) (h : Heap) : Prop := ∃ (r : Int32), v = some (.int r) ∧ h = h0 ∧ (own_is r (own_acc w1 w2 w3 q))
set_option maxRecDepth 65536 in
set_option maxHeartbeats 40000000 in
theorem rm6 (l : Launch) (Z : State) (a0 : Array Value) (hw : ∀ d ∈ tables_1, d.before a0 Z = true) (ws : List Jvm.Cond) (n0 : Nat) (h0 : Heap) (a : Addr) (q : Int32) (w1 : Int32) (w2 : Int32) (w3 : Int32) (sz0 : n0 ≤ h0.size) (g0 : Fld Z h0 a "com/example/kenshinkit/kenshinkit/schema/Facets" "length" "I" (.int w1)) (g1 : Fld Z h0 a "com/example/kenshinkit/kenshinkit/schema/Facets" "minLength" "I" (.int w2)) (g2 : Fld Z h0 a "com/example/kenshinkit/kenshinkit/schema/Facets" "maxLength" "I" (.int w3)) :
    Con l (⟨"com/example/kenshinkit/kenshinkit/schema/Facets", "acceptsLength", "(I)Z"⟩ : MethodName) prog_125_method_10_code 2 (some .boolean) ({ frames := 0, cells := 0, slots := 0, locals := 0 } : Room) ws Z n0 #[(.ref a), (.int q)] h0 (Q6 Z n0 h0 a q w1 w2 w3) := by
  refine Con.body pn_6 ?_
  intro p e s m below meth c s₁ hx hby hml hown hnm hret hlk hZ X0
  have hown : s.vm.findClass "com/example/kenshinkit/kenshinkit/schema/Facets" = some m.cls := hown
  have hnm : meth.name = "acceptsLength" := hnm
  rw [show entryFrame m #[(.ref a), (.int q)] 2 = mkF m 0 #[.val (.ref a), .val (.int q)] [] from ef_rm6 m a q]
  show Go p e below (PostW s n0 (0 : Nat) (0 : Nat) (Q6 Z n0 h0 a q w1 w2 w3)) s₁ (mkF m 0 #[.val (.ref a), .val (.int q)] [])
  refine Go.st (T' := s₁) (g' := (mkF m 1 #[.val (.ref a), .val (.int q)] [(.ref a)])) (fun t_ k_ => XS.aloadN X0.here hx rfl (hb hby d6_0) rfl rfl k_) ?_
  refine goGet X0 hx hZ hown (host := "") (Or.inl (hw _ (List.mem_of_getElem? (i := 35) rfl))) Via.refl g0 (hb hby d6_1) fun T1 X1 => ?_
  show Go p e below _ T1 (mkF m 4 #[.val (.ref a), .val (.int q)] [(.int w1)])
  by_cases hc4 : w1 < (0 : Int32)
  · skip
    refine Go.st (T' := T1) (g' := (mkF m 15 #[.val (.ref a), .val (.int q)] [])) (fun t_ k_ => XS.ifYes X1.here hx rfl (pc0 := 4) (pc' := 15) rfl (hb hby d6_4) rfl ((if0 _ _).trans (tlt hc4).1) (by decide) (by decide) k_) ?_
    refine Go.st (T' := T1) (g' := (mkF m 16 #[.val (.ref a), .val (.int q)] [(.ref a)])) (fun t_ k_ => XS.aloadN X1.here hx rfl (hb hby d6_15) rfl rfl k_) ?_
    refine goGet X1 hx hZ hown (host := "") (Or.inl (hw _ (List.mem_of_getElem? (i := 37) rfl))) Via.refl g1 (hb hby d6_16) fun T2 X2 => ?_
    show Go p e below _ T2 (mkF m 19 #[.val (.ref a), .val (.int q)] [(.int w2)])
    by_cases hc19 : w2 < (0 : Int32)
    · skip
      refine Go.st (T' := T2) (g' := (mkF m 30 #[.val (.ref a), .val (.int q)] [])) (fun t_ k_ => XS.ifYes X2.here hx rfl (pc0 := 19) (pc' := 30) rfl (hb hby d6_19) rfl ((if0 _ _).trans (tlt hc19).1) (by decide) (by decide) k_) ?_
      refine Go.st (T' := T2) (g' := (mkF m 31 #[.val (.ref a), .val (.int q)] [(.ref a)])) (fun t_ k_ => XS.aloadN X2.here hx rfl (hb hby d6_30) rfl rfl k_) ?_
      refine goGet X2 hx hZ hown (host := "") (Or.inl (hw _ (List.mem_of_getElem? (i := 39) rfl))) Via.refl g2 (hb hby d6_31) fun T3 X3 => ?_
      show Go p e below _ T3 (mkF m 34 #[.val (.ref a), .val (.int q)] [(.int w3)])
      by_cases hc34 : w3 < (0 : Int32)
      · skip
        refine Go.st (T' := T3) (g' := (mkF m 45 #[.val (.ref a), .val (.int q)] [])) (fun t_ k_ => XS.ifYes X3.here hx rfl (pc0 := 34) (pc' := 45) rfl (hb hby d6_34) rfl ((if0 _ _).trans (tlt hc34).1) (by decide) (by decide) k_) ?_
        refine Go.st (T' := T3) (g' := (mkF m 46 #[.val (.ref a), .val (.int q)] [(.int (1 : Int32))])) (fun t_ k_ => XS.iconst X3.here hx rfl (hb hby d6_45) k_) ?_
        refine Go.st (T' := T3) (g' := (mkF m 50 #[.val (.ref a), .val (.int q)] [(.int (1 : Int32))])) (fun t_ k_ => XS.goto X3.here hx rfl (pc0 := 46) (pc' := 50) rfl (hb hby d6_46) (by decide) (by decide) k_) ?_
        refine goRetZ X3 hx hlk hret (hb hby d6_50) (by decide) (by decide) (Or.inr rfl) ?_
        refine ⟨(1 : Int32), rfl, rfl, ?_⟩
        · first | exact Or.inl ⟨rfl, by simp only [own_acc, Int32.lt_iff_toInt_lt, ← Int32.toInt_inj, Int32.reduceToInt] at *; omega⟩ | exact Or.inr ⟨rfl, by simp only [own_acc, Int32.lt_iff_toInt_lt, ← Int32.toInt_inj, Int32.reduceToInt] at *; omega⟩
      · skip
        refine Go.st (T' := T3) (g' := (mkF m 37 #[.val (.ref a), .val (.int q)] [])) (fun t_ k_ => XS.ifNo X3.here hx rfl (hb hby d6_34) rfl ((if0 _ _).trans (flt hc34).1) k_) ?_
        refine Go.st (T' := T3) (g' := (mkF m 38 #[.val (.ref a), .val (.int q)] [(.int q)])) (fun t_ k_ => XS.iloadN X3.here hx rfl (hb hby d6_37) rfl k_) ?_
        refine Go.st (T' := T3) (g' := (mkF m 39 #[.val (.ref a), .val (.int q)] [(.ref a), (.int q)])) (fun t_ k_ => XS.aloadN X3.here hx rfl (hb hby d6_38) rfl rfl k_) ?_
        refine goGet X3 hx hZ hown (host := "") (Or.inl (hw _ (List.mem_of_getElem? (i := 39) rfl))) Via.refl g2 (hb hby d6_39) fun T4 X4 => ?_
        show Go p e below _ T4 (mkF m 42 #[.val (.ref a), .val (.int q)] [(.int w3), (.int q)])
        by_cases hc42 : w3 < q
        · skip
          refine Go.st (T' := T4) (g' := (mkF m 49 #[.val (.ref a), .val (.int q)] [])) (fun t_ k_ => XS.icmpYes X4.here hx rfl (pc0 := 42) (pc' := 49) rfl (hb hby d6_42) rfl (tlt hc42).2.2.1 (by decide) (by decide) k_) ?_
          refine Go.st (T' := T4) (g' := (mkF m 50 #[.val (.ref a), .val (.int q)] [(.int (0 : Int32))])) (fun t_ k_ => XS.iconst X4.here hx rfl (hb hby d6_49) k_) ?_
          refine goRetZ X4 hx hlk hret (hb hby d6_50) (by decide) (by decide) (Or.inl rfl) ?_
          refine ⟨(0 : Int32), rfl, rfl, ?_⟩
          · first | exact Or.inl ⟨rfl, by simp only [own_acc, Int32.lt_iff_toInt_lt, ← Int32.toInt_inj, Int32.reduceToInt] at *; omega⟩ | exact Or.inr ⟨rfl, by simp only [own_acc, Int32.lt_iff_toInt_lt, ← Int32.toInt_inj, Int32.reduceToInt] at *; omega⟩
        · skip
          refine Go.st (T' := T4) (g' := (mkF m 45 #[.val (.ref a), .val (.int q)] [])) (fun t_ k_ => XS.icmpNo X4.here hx rfl (hb hby d6_42) rfl (flt hc42).2.2.1 k_) ?_
          refine Go.st (T' := T4) (g' := (mkF m 46 #[.val (.ref a), .val (.int q)] [(.int (1 : Int32))])) (fun t_ k_ => XS.iconst X4.here hx rfl (hb hby d6_45) k_) ?_
          refine Go.st (T' := T4) (g' := (mkF m 50 #[.val (.ref a), .val (.int q)] [(.int (1 : Int32))])) (fun t_ k_ => XS.goto X4.here hx rfl (pc0 := 46) (pc' := 50) rfl (hb hby d6_46) (by decide) (by decide) k_) ?_
          refine goRetZ X4 hx hlk hret (hb hby d6_50) (by decide) (by decide) (Or.inr rfl) ?_
          refine ⟨(1 : Int32), rfl, rfl, ?_⟩
          · first | exact Or.inl ⟨rfl, by simp only [own_acc, Int32.lt_iff_toInt_lt, ← Int32.toInt_inj, Int32.reduceToInt] at *; omega⟩ | exact Or.inr ⟨rfl, by simp only [own_acc, Int32.lt_iff_toInt_lt, ← Int32.toInt_inj, Int32.reduceToInt] at *; omega⟩
    · skip
      refine Go.st (T' := T2) (g' := (mkF m 22 #[.val (.ref a), .val (.int q)] [])) (fun t_ k_ => XS.ifNo X2.here hx rfl (hb hby d6_19) rfl ((if0 _ _).trans (flt hc19).1) k_) ?_
      refine Go.st (T' := T2) (g' := (mkF m 23 #[.val (.ref a), .val (.int q)] [(.int q)])) (fun t_ k_ => XS.iloadN X2.here hx rfl (hb hby d6_22) rfl k_) ?_
      refine Go.st (T' := T2) (g' := (mkF m 24 #[.val (.ref a), .val (.int q)] [(.ref a), (.int q)])) (fun t_ k_ => XS.aloadN X2.here hx rfl (hb hby d6_23) rfl rfl k_) ?_
      refine goGet X2 hx hZ hown (host := "") (Or.inl (hw _ (List.mem_of_getElem? (i := 37) rfl))) Via.refl g1 (hb hby d6_24) fun T5 X5 => ?_
      show Go p e below _ T5 (mkF m 27 #[.val (.ref a), .val (.int q)] [(.int w2), (.int q)])
      by_cases hc27 : q < w2
      · skip
        refine Go.st (T' := T5) (g' := (mkF m 49 #[.val (.ref a), .val (.int q)] [])) (fun t_ k_ => XS.icmpYes X5.here hx rfl (pc0 := 27) (pc' := 49) rfl (hb hby d6_27) rfl (tlt hc27).1 (by decide) (by decide) k_) ?_
        refine Go.st (T' := T5) (g' := (mkF m 50 #[.val (.ref a), .val (.int q)] [(.int (0 : Int32))])) (fun t_ k_ => XS.iconst X5.here hx rfl (hb hby d6_49) k_) ?_
        refine goRetZ X5 hx hlk hret (hb hby d6_50) (by decide) (by decide) (Or.inl rfl) ?_
        refine ⟨(0 : Int32), rfl, rfl, ?_⟩
        · first | exact Or.inl ⟨rfl, by simp only [own_acc, Int32.lt_iff_toInt_lt, ← Int32.toInt_inj, Int32.reduceToInt] at *; omega⟩ | exact Or.inr ⟨rfl, by simp only [own_acc, Int32.lt_iff_toInt_lt, ← Int32.toInt_inj, Int32.reduceToInt] at *; omega⟩
      · skip
        refine Go.st (T' := T5) (g' := (mkF m 30 #[.val (.ref a), .val (.int q)] [])) (fun t_ k_ => XS.icmpNo X5.here hx rfl (hb hby d6_27) rfl (flt hc27).1 k_) ?_
        refine Go.st (T' := T5) (g' := (mkF m 31 #[.val (.ref a), .val (.int q)] [(.ref a)])) (fun t_ k_ => XS.aloadN X5.here hx rfl (hb hby d6_30) rfl rfl k_) ?_
        refine goGet X5 hx hZ hown (host := "") (Or.inl (hw _ (List.mem_of_getElem? (i := 39) rfl))) Via.refl g2 (hb hby d6_31) fun T6 X6 => ?_
        show Go p e below _ T6 (mkF m 34 #[.val (.ref a), .val (.int q)] [(.int w3)])
        by_cases hc34 : w3 < (0 : Int32)
        · skip
          refine Go.st (T' := T6) (g' := (mkF m 45 #[.val (.ref a), .val (.int q)] [])) (fun t_ k_ => XS.ifYes X6.here hx rfl (pc0 := 34) (pc' := 45) rfl (hb hby d6_34) rfl ((if0 _ _).trans (tlt hc34).1) (by decide) (by decide) k_) ?_
          refine Go.st (T' := T6) (g' := (mkF m 46 #[.val (.ref a), .val (.int q)] [(.int (1 : Int32))])) (fun t_ k_ => XS.iconst X6.here hx rfl (hb hby d6_45) k_) ?_
          refine Go.st (T' := T6) (g' := (mkF m 50 #[.val (.ref a), .val (.int q)] [(.int (1 : Int32))])) (fun t_ k_ => XS.goto X6.here hx rfl (pc0 := 46) (pc' := 50) rfl (hb hby d6_46) (by decide) (by decide) k_) ?_
          refine goRetZ X6 hx hlk hret (hb hby d6_50) (by decide) (by decide) (Or.inr rfl) ?_
          refine ⟨(1 : Int32), rfl, rfl, ?_⟩
          · first | exact Or.inl ⟨rfl, by simp only [own_acc, Int32.lt_iff_toInt_lt, ← Int32.toInt_inj, Int32.reduceToInt] at *; omega⟩ | exact Or.inr ⟨rfl, by simp only [own_acc, Int32.lt_iff_toInt_lt, ← Int32.toInt_inj, Int32.reduceToInt] at *; omega⟩
        · skip
          refine Go.st (T' := T6) (g' := (mkF m 37 #[.val (.ref a), .val (.int q)] [])) (fun t_ k_ => XS.ifNo X6.here hx rfl (hb hby d6_34) rfl ((if0 _ _).trans (flt hc34).1) k_) ?_
          refine Go.st (T' := T6) (g' := (mkF m 38 #[.val (.ref a), .val (.int q)] [(.int q)])) (fun t_ k_ => XS.iloadN X6.here hx rfl (hb hby d6_37) rfl k_) ?_
          refine Go.st (T' := T6) (g' := (mkF m 39 #[.val (.ref a), .val (.int q)] [(.ref a), (.int q)])) (fun t_ k_ => XS.aloadN X6.here hx rfl (hb hby d6_38) rfl rfl k_) ?_
          refine goGet X6 hx hZ hown (host := "") (Or.inl (hw _ (List.mem_of_getElem? (i := 39) rfl))) Via.refl g2 (hb hby d6_39) fun T7 X7 => ?_
          show Go p e below _ T7 (mkF m 42 #[.val (.ref a), .val (.int q)] [(.int w3), (.int q)])
          by_cases hc42 : w3 < q
          · skip
            refine Go.st (T' := T7) (g' := (mkF m 49 #[.val (.ref a), .val (.int q)] [])) (fun t_ k_ => XS.icmpYes X7.here hx rfl (pc0 := 42) (pc' := 49) rfl (hb hby d6_42) rfl (tlt hc42).2.2.1 (by decide) (by decide) k_) ?_
            refine Go.st (T' := T7) (g' := (mkF m 50 #[.val (.ref a), .val (.int q)] [(.int (0 : Int32))])) (fun t_ k_ => XS.iconst X7.here hx rfl (hb hby d6_49) k_) ?_
            refine goRetZ X7 hx hlk hret (hb hby d6_50) (by decide) (by decide) (Or.inl rfl) ?_
            refine ⟨(0 : Int32), rfl, rfl, ?_⟩
            · first | exact Or.inl ⟨rfl, by simp only [own_acc, Int32.lt_iff_toInt_lt, ← Int32.toInt_inj, Int32.reduceToInt] at *; omega⟩ | exact Or.inr ⟨rfl, by simp only [own_acc, Int32.lt_iff_toInt_lt, ← Int32.toInt_inj, Int32.reduceToInt] at *; omega⟩
          · skip
            refine Go.st (T' := T7) (g' := (mkF m 45 #[.val (.ref a), .val (.int q)] [])) (fun t_ k_ => XS.icmpNo X7.here hx rfl (hb hby d6_42) rfl (flt hc42).2.2.1 k_) ?_
            refine Go.st (T' := T7) (g' := (mkF m 46 #[.val (.ref a), .val (.int q)] [(.int (1 : Int32))])) (fun t_ k_ => XS.iconst X7.here hx rfl (hb hby d6_45) k_) ?_
            refine Go.st (T' := T7) (g' := (mkF m 50 #[.val (.ref a), .val (.int q)] [(.int (1 : Int32))])) (fun t_ k_ => XS.goto X7.here hx rfl (pc0 := 46) (pc' := 50) rfl (hb hby d6_46) (by decide) (by decide) k_) ?_
            refine goRetZ X7 hx hlk hret (hb hby d6_50) (by decide) (by decide) (Or.inr rfl) ?_
            refine ⟨(1 : Int32), rfl, rfl, ?_⟩
            · first | exact Or.inl ⟨rfl, by simp only [own_acc, Int32.lt_iff_toInt_lt, ← Int32.toInt_inj, Int32.reduceToInt] at *; omega⟩ | exact Or.inr ⟨rfl, by simp only [own_acc, Int32.lt_iff_toInt_lt, ← Int32.toInt_inj, Int32.reduceToInt] at *; omega⟩
  · skip
    refine Go.st (T' := T1) (g' := (mkF m 7 #[.val (.ref a), .val (.int q)] [])) (fun t_ k_ => XS.ifNo X1.here hx rfl (hb hby d6_4) rfl ((if0 _ _).trans (flt hc4).1) k_) ?_
    refine Go.st (T' := T1) (g' := (mkF m 8 #[.val (.ref a), .val (.int q)] [(.int q)])) (fun t_ k_ => XS.iloadN X1.here hx rfl (hb hby d6_7) rfl k_) ?_
    refine Go.st (T' := T1) (g' := (mkF m 9 #[.val (.ref a), .val (.int q)] [(.ref a), (.int q)])) (fun t_ k_ => XS.aloadN X1.here hx rfl (hb hby d6_8) rfl rfl k_) ?_
    refine goGet X1 hx hZ hown (host := "") (Or.inl (hw _ (List.mem_of_getElem? (i := 35) rfl))) Via.refl g0 (hb hby d6_9) fun T8 X8 => ?_
    show Go p e below _ T8 (mkF m 12 #[.val (.ref a), .val (.int q)] [(.int w1), (.int q)])
    by_cases hc12 : q = w1
    · skip
      refine Go.st (T' := T8) (g' := (mkF m 15 #[.val (.ref a), .val (.int q)] [])) (fun t_ k_ => XS.icmpNo X8.here hx rfl (hb hby d6_12) rfl (teq hc12).2 k_) ?_
      refine Go.st (T' := T8) (g' := (mkF m 16 #[.val (.ref a), .val (.int q)] [(.ref a)])) (fun t_ k_ => XS.aloadN X8.here hx rfl (hb hby d6_15) rfl rfl k_) ?_
      refine goGet X8 hx hZ hown (host := "") (Or.inl (hw _ (List.mem_of_getElem? (i := 37) rfl))) Via.refl g1 (hb hby d6_16) fun T9 X9 => ?_
      show Go p e below _ T9 (mkF m 19 #[.val (.ref a), .val (.int q)] [(.int w2)])
      by_cases hc19 : w2 < (0 : Int32)
      · skip
        refine Go.st (T' := T9) (g' := (mkF m 30 #[.val (.ref a), .val (.int q)] [])) (fun t_ k_ => XS.ifYes X9.here hx rfl (pc0 := 19) (pc' := 30) rfl (hb hby d6_19) rfl ((if0 _ _).trans (tlt hc19).1) (by decide) (by decide) k_) ?_
        refine Go.st (T' := T9) (g' := (mkF m 31 #[.val (.ref a), .val (.int q)] [(.ref a)])) (fun t_ k_ => XS.aloadN X9.here hx rfl (hb hby d6_30) rfl rfl k_) ?_
        refine goGet X9 hx hZ hown (host := "") (Or.inl (hw _ (List.mem_of_getElem? (i := 39) rfl))) Via.refl g2 (hb hby d6_31) fun T10 X10 => ?_
        show Go p e below _ T10 (mkF m 34 #[.val (.ref a), .val (.int q)] [(.int w3)])
        by_cases hc34 : w3 < (0 : Int32)
        · skip
          refine Go.st (T' := T10) (g' := (mkF m 45 #[.val (.ref a), .val (.int q)] [])) (fun t_ k_ => XS.ifYes X10.here hx rfl (pc0 := 34) (pc' := 45) rfl (hb hby d6_34) rfl ((if0 _ _).trans (tlt hc34).1) (by decide) (by decide) k_) ?_
          refine Go.st (T' := T10) (g' := (mkF m 46 #[.val (.ref a), .val (.int q)] [(.int (1 : Int32))])) (fun t_ k_ => XS.iconst X10.here hx rfl (hb hby d6_45) k_) ?_
          refine Go.st (T' := T10) (g' := (mkF m 50 #[.val (.ref a), .val (.int q)] [(.int (1 : Int32))])) (fun t_ k_ => XS.goto X10.here hx rfl (pc0 := 46) (pc' := 50) rfl (hb hby d6_46) (by decide) (by decide) k_) ?_
          refine goRetZ X10 hx hlk hret (hb hby d6_50) (by decide) (by decide) (Or.inr rfl) ?_
          refine ⟨(1 : Int32), rfl, rfl, ?_⟩
          · first | exact Or.inl ⟨rfl, by simp only [own_acc, Int32.lt_iff_toInt_lt, ← Int32.toInt_inj, Int32.reduceToInt] at *; omega⟩ | exact Or.inr ⟨rfl, by simp only [own_acc, Int32.lt_iff_toInt_lt, ← Int32.toInt_inj, Int32.reduceToInt] at *; omega⟩
        · skip
          refine Go.st (T' := T10) (g' := (mkF m 37 #[.val (.ref a), .val (.int q)] [])) (fun t_ k_ => XS.ifNo X10.here hx rfl (hb hby d6_34) rfl ((if0 _ _).trans (flt hc34).1) k_) ?_
          refine Go.st (T' := T10) (g' := (mkF m 38 #[.val (.ref a), .val (.int q)] [(.int q)])) (fun t_ k_ => XS.iloadN X10.here hx rfl (hb hby d6_37) rfl k_) ?_
          refine Go.st (T' := T10) (g' := (mkF m 39 #[.val (.ref a), .val (.int q)] [(.ref a), (.int q)])) (fun t_ k_ => XS.aloadN X10.here hx rfl (hb hby d6_38) rfl rfl k_) ?_
          refine goGet X10 hx hZ hown (host := "") (Or.inl (hw _ (List.mem_of_getElem? (i := 39) rfl))) Via.refl g2 (hb hby d6_39) fun T11 X11 => ?_
          show Go p e below _ T11 (mkF m 42 #[.val (.ref a), .val (.int q)] [(.int w3), (.int q)])
          by_cases hc42 : w3 < q
          · skip
            refine Go.st (T' := T11) (g' := (mkF m 49 #[.val (.ref a), .val (.int q)] [])) (fun t_ k_ => XS.icmpYes X11.here hx rfl (pc0 := 42) (pc' := 49) rfl (hb hby d6_42) rfl (tlt hc42).2.2.1 (by decide) (by decide) k_) ?_
            refine Go.st (T' := T11) (g' := (mkF m 50 #[.val (.ref a), .val (.int q)] [(.int (0 : Int32))])) (fun t_ k_ => XS.iconst X11.here hx rfl (hb hby d6_49) k_) ?_
            refine goRetZ X11 hx hlk hret (hb hby d6_50) (by decide) (by decide) (Or.inl rfl) ?_
            refine ⟨(0 : Int32), rfl, rfl, ?_⟩
            · first | exact Or.inl ⟨rfl, by simp only [own_acc, Int32.lt_iff_toInt_lt, ← Int32.toInt_inj, Int32.reduceToInt] at *; omega⟩ | exact Or.inr ⟨rfl, by simp only [own_acc, Int32.lt_iff_toInt_lt, ← Int32.toInt_inj, Int32.reduceToInt] at *; omega⟩
          · skip
            refine Go.st (T' := T11) (g' := (mkF m 45 #[.val (.ref a), .val (.int q)] [])) (fun t_ k_ => XS.icmpNo X11.here hx rfl (hb hby d6_42) rfl (flt hc42).2.2.1 k_) ?_
            refine Go.st (T' := T11) (g' := (mkF m 46 #[.val (.ref a), .val (.int q)] [(.int (1 : Int32))])) (fun t_ k_ => XS.iconst X11.here hx rfl (hb hby d6_45) k_) ?_
            refine Go.st (T' := T11) (g' := (mkF m 50 #[.val (.ref a), .val (.int q)] [(.int (1 : Int32))])) (fun t_ k_ => XS.goto X11.here hx rfl (pc0 := 46) (pc' := 50) rfl (hb hby d6_46) (by decide) (by decide) k_) ?_
            refine goRetZ X11 hx hlk hret (hb hby d6_50) (by decide) (by decide) (Or.inr rfl) ?_
            refine ⟨(1 : Int32), rfl, rfl, ?_⟩
            · first | exact Or.inl ⟨rfl, by simp only [own_acc, Int32.lt_iff_toInt_lt, ← Int32.toInt_inj, Int32.reduceToInt] at *; omega⟩ | exact Or.inr ⟨rfl, by simp only [own_acc, Int32.lt_iff_toInt_lt, ← Int32.toInt_inj, Int32.reduceToInt] at *; omega⟩
      · skip
        refine Go.st (T' := T9) (g' := (mkF m 22 #[.val (.ref a), .val (.int q)] [])) (fun t_ k_ => XS.ifNo X9.here hx rfl (hb hby d6_19) rfl ((if0 _ _).trans (flt hc19).1) k_) ?_
        refine Go.st (T' := T9) (g' := (mkF m 23 #[.val (.ref a), .val (.int q)] [(.int q)])) (fun t_ k_ => XS.iloadN X9.here hx rfl (hb hby d6_22) rfl k_) ?_
        refine Go.st (T' := T9) (g' := (mkF m 24 #[.val (.ref a), .val (.int q)] [(.ref a), (.int q)])) (fun t_ k_ => XS.aloadN X9.here hx rfl (hb hby d6_23) rfl rfl k_) ?_
        refine goGet X9 hx hZ hown (host := "") (Or.inl (hw _ (List.mem_of_getElem? (i := 37) rfl))) Via.refl g1 (hb hby d6_24) fun T12 X12 => ?_
        show Go p e below _ T12 (mkF m 27 #[.val (.ref a), .val (.int q)] [(.int w2), (.int q)])
        by_cases hc27 : q < w2
        · skip
          refine Go.st (T' := T12) (g' := (mkF m 49 #[.val (.ref a), .val (.int q)] [])) (fun t_ k_ => XS.icmpYes X12.here hx rfl (pc0 := 27) (pc' := 49) rfl (hb hby d6_27) rfl (tlt hc27).1 (by decide) (by decide) k_) ?_
          refine Go.st (T' := T12) (g' := (mkF m 50 #[.val (.ref a), .val (.int q)] [(.int (0 : Int32))])) (fun t_ k_ => XS.iconst X12.here hx rfl (hb hby d6_49) k_) ?_
          refine goRetZ X12 hx hlk hret (hb hby d6_50) (by decide) (by decide) (Or.inl rfl) ?_
          refine ⟨(0 : Int32), rfl, rfl, ?_⟩
          · first | exact Or.inl ⟨rfl, by simp only [own_acc, Int32.lt_iff_toInt_lt, ← Int32.toInt_inj, Int32.reduceToInt] at *; omega⟩ | exact Or.inr ⟨rfl, by simp only [own_acc, Int32.lt_iff_toInt_lt, ← Int32.toInt_inj, Int32.reduceToInt] at *; omega⟩
        · skip
          refine Go.st (T' := T12) (g' := (mkF m 30 #[.val (.ref a), .val (.int q)] [])) (fun t_ k_ => XS.icmpNo X12.here hx rfl (hb hby d6_27) rfl (flt hc27).1 k_) ?_
          refine Go.st (T' := T12) (g' := (mkF m 31 #[.val (.ref a), .val (.int q)] [(.ref a)])) (fun t_ k_ => XS.aloadN X12.here hx rfl (hb hby d6_30) rfl rfl k_) ?_
          refine goGet X12 hx hZ hown (host := "") (Or.inl (hw _ (List.mem_of_getElem? (i := 39) rfl))) Via.refl g2 (hb hby d6_31) fun T13 X13 => ?_
          show Go p e below _ T13 (mkF m 34 #[.val (.ref a), .val (.int q)] [(.int w3)])
          by_cases hc34 : w3 < (0 : Int32)
          · skip
            refine Go.st (T' := T13) (g' := (mkF m 45 #[.val (.ref a), .val (.int q)] [])) (fun t_ k_ => XS.ifYes X13.here hx rfl (pc0 := 34) (pc' := 45) rfl (hb hby d6_34) rfl ((if0 _ _).trans (tlt hc34).1) (by decide) (by decide) k_) ?_
            refine Go.st (T' := T13) (g' := (mkF m 46 #[.val (.ref a), .val (.int q)] [(.int (1 : Int32))])) (fun t_ k_ => XS.iconst X13.here hx rfl (hb hby d6_45) k_) ?_
            refine Go.st (T' := T13) (g' := (mkF m 50 #[.val (.ref a), .val (.int q)] [(.int (1 : Int32))])) (fun t_ k_ => XS.goto X13.here hx rfl (pc0 := 46) (pc' := 50) rfl (hb hby d6_46) (by decide) (by decide) k_) ?_
            refine goRetZ X13 hx hlk hret (hb hby d6_50) (by decide) (by decide) (Or.inr rfl) ?_
            refine ⟨(1 : Int32), rfl, rfl, ?_⟩
            · first | exact Or.inl ⟨rfl, by simp only [own_acc, Int32.lt_iff_toInt_lt, ← Int32.toInt_inj, Int32.reduceToInt] at *; omega⟩ | exact Or.inr ⟨rfl, by simp only [own_acc, Int32.lt_iff_toInt_lt, ← Int32.toInt_inj, Int32.reduceToInt] at *; omega⟩
          · skip
            refine Go.st (T' := T13) (g' := (mkF m 37 #[.val (.ref a), .val (.int q)] [])) (fun t_ k_ => XS.ifNo X13.here hx rfl (hb hby d6_34) rfl ((if0 _ _).trans (flt hc34).1) k_) ?_
            refine Go.st (T' := T13) (g' := (mkF m 38 #[.val (.ref a), .val (.int q)] [(.int q)])) (fun t_ k_ => XS.iloadN X13.here hx rfl (hb hby d6_37) rfl k_) ?_
            refine Go.st (T' := T13) (g' := (mkF m 39 #[.val (.ref a), .val (.int q)] [(.ref a), (.int q)])) (fun t_ k_ => XS.aloadN X13.here hx rfl (hb hby d6_38) rfl rfl k_) ?_
            refine goGet X13 hx hZ hown (host := "") (Or.inl (hw _ (List.mem_of_getElem? (i := 39) rfl))) Via.refl g2 (hb hby d6_39) fun T14 X14 => ?_
            show Go p e below _ T14 (mkF m 42 #[.val (.ref a), .val (.int q)] [(.int w3), (.int q)])
            by_cases hc42 : w3 < q
            · skip
              refine Go.st (T' := T14) (g' := (mkF m 49 #[.val (.ref a), .val (.int q)] [])) (fun t_ k_ => XS.icmpYes X14.here hx rfl (pc0 := 42) (pc' := 49) rfl (hb hby d6_42) rfl (tlt hc42).2.2.1 (by decide) (by decide) k_) ?_
              refine Go.st (T' := T14) (g' := (mkF m 50 #[.val (.ref a), .val (.int q)] [(.int (0 : Int32))])) (fun t_ k_ => XS.iconst X14.here hx rfl (hb hby d6_49) k_) ?_
              refine goRetZ X14 hx hlk hret (hb hby d6_50) (by decide) (by decide) (Or.inl rfl) ?_
              refine ⟨(0 : Int32), rfl, rfl, ?_⟩
              · first | exact Or.inl ⟨rfl, by simp only [own_acc, Int32.lt_iff_toInt_lt, ← Int32.toInt_inj, Int32.reduceToInt] at *; omega⟩ | exact Or.inr ⟨rfl, by simp only [own_acc, Int32.lt_iff_toInt_lt, ← Int32.toInt_inj, Int32.reduceToInt] at *; omega⟩
            · skip
              refine Go.st (T' := T14) (g' := (mkF m 45 #[.val (.ref a), .val (.int q)] [])) (fun t_ k_ => XS.icmpNo X14.here hx rfl (hb hby d6_42) rfl (flt hc42).2.2.1 k_) ?_
              refine Go.st (T' := T14) (g' := (mkF m 46 #[.val (.ref a), .val (.int q)] [(.int (1 : Int32))])) (fun t_ k_ => XS.iconst X14.here hx rfl (hb hby d6_45) k_) ?_
              refine Go.st (T' := T14) (g' := (mkF m 50 #[.val (.ref a), .val (.int q)] [(.int (1 : Int32))])) (fun t_ k_ => XS.goto X14.here hx rfl (pc0 := 46) (pc' := 50) rfl (hb hby d6_46) (by decide) (by decide) k_) ?_
              refine goRetZ X14 hx hlk hret (hb hby d6_50) (by decide) (by decide) (Or.inr rfl) ?_
              refine ⟨(1 : Int32), rfl, rfl, ?_⟩
              · first | exact Or.inl ⟨rfl, by simp only [own_acc, Int32.lt_iff_toInt_lt, ← Int32.toInt_inj, Int32.reduceToInt] at *; omega⟩ | exact Or.inr ⟨rfl, by simp only [own_acc, Int32.lt_iff_toInt_lt, ← Int32.toInt_inj, Int32.reduceToInt] at *; omega⟩
    · skip
      refine Go.st (T' := T8) (g' := (mkF m 49 #[.val (.ref a), .val (.int q)] [])) (fun t_ k_ => XS.icmpYes X8.here hx rfl (pc0 := 12) (pc' := 49) rfl (hb hby d6_12) rfl (feq hc12).2 (by decide) (by decide) k_) ?_
      refine Go.st (T' := T8) (g' := (mkF m 50 #[.val (.ref a), .val (.int q)] [(.int (0 : Int32))])) (fun t_ k_ => XS.iconst X8.here hx rfl (hb hby d6_49) k_) ?_
      refine goRetZ X8 hx hlk hret (hb hby d6_50) (by decide) (by decide) (Or.inl rfl) ?_
      refine ⟨(0 : Int32), rfl, rfl, ?_⟩
      · first | exact Or.inl ⟨rfl, by simp only [own_acc, Int32.lt_iff_toInt_lt, ← Int32.toInt_inj, Int32.reduceToInt] at *; omega⟩ | exact Or.inr ⟨rfl, by simp only [own_acc, Int32.lt_iff_toInt_lt, ← Int32.toInt_inj, Int32.reduceToInt] at *; omega⟩

theorem own_isx {e : Int32} {q : Int32} {lo hi : Int64} (h : e = (if q.toInt64 < lo then (0 : Int32) else (if hi < q.toInt64 then (0 : Int32) else (1 : Int32)))) : own_is e (¬ q.toInt64 < lo ∧ ¬ hi < q.toInt64) := by
  by_cases z1 : q.toInt64 < lo <;> by_cases z2 : hi < q.toInt64 <;> simp [own_is, h, z1, z2]

theorem pn_0 : plainFor x = true := plainFor_of_name (by first | (simp [plainName, overriddenIn]; done) | decide +kernel)
theorem pd_f471c983 : parseMethodDescriptor "(I)Z" = some ⟨[.int], some .boolean⟩ := by decide +kernel
theorem pd_6c7814f2 : parseMethodDescriptor "(JJ)J" = some ⟨[.long, .long], some .long⟩ := by decide +kernel
theorem pd_fdc785a8 : parseMethodDescriptor "(I)V" = some ⟨[.int], none⟩ := by decide +kernel
theorem ef_rm0 (m : MethodId) (x0 : Int32) (x1 : Int32) (x2 : Int32) (x3 : Int32) (x4 : Int32) : entryFrame m #[(.int x0), (.int x1), (.int x2), (.int x3), (.int x4)] maxLocals = mkF m 0 #[.val (.int x0), .val (.int x1), .val (.int x2), .val (.int x3), .val (.int x4), .unset, .unset, .unset, .unset, .unset, .unset, .unset, .unset, .unset, .unset, .unset, .unset, .unset, .unset, .unset, .unset] [] := by first | (simp [entryFrame, mkF, argsToLocals, Value.category, maxLocals]; done) | rfl
def Q0 (Z : State) (n0 : Nat) (h0 : Heap) (p1 : Int32) (p2 : Int32) (p3 : Int32) (p4 : Int32) (p5 : Int32) (ws0 : Addr) (v : Option Value) (h : Heap) : Prop := v = some (.int (1 : Int32))
set_option maxRecDepth 65536 in
set_option maxHeartbeats 40000000 in
theorem rm0 (l : Launch) (Z : State) (a0 : Array Value) (hw : ∀ d ∈ tables_1, d.before a0 Z = true) (ws : List Jvm.Cond) (n0 : Nat) (h0 : Heap) (p1 : Int32) (p2 : Int32) (p3 : Int32) (p4 : Int32) (p5 : Int32) (ws0 : Addr) (sz0 : n0 ≤ h0.size) (g0 : Sta Z h0 "java/util/ArrayList" "DEFAULTCAPACITY_EMPTY_ELEMENTDATA" "[Ljava/lang/Object;" (.ref ws0)) :
    Con l x code maxLocals ret room_1 ws Z n0 #[(.int p1), (.int p2), (.int p3), (.int p4), (.int p5)] h0 (Q0 Z n0 h0 p1 p2 p3 p4 p5 ws0) := by
  refine Con.body pn_0 ?_
  intro p e s m below meth c s₁ hx hby hml hown hnm hret hlk hZ X0
  have hown : s.vm.findClass "com/example/kenshinkit/kenshinkit/schema/FacetsAcceptsLengthPinLaw" = some m.cls := hown
  have hnm : meth.name = "law" := hnm
  have hml : c.maxLocals = 21 := hml
  have hret : meth.sig.returnType = some .boolean := hret
  rw [show entryFrame m #[(.int p1), (.int p2), (.int p3), (.int p4), (.int p5)] maxLocals = mkF m 0 #[.val (.int p1), .val (.int p2), .val (.int p3), .val (.int p4), .val (.int p5), .unset, .unset, .unset, .unset, .unset, .unset, .unset, .unset, .unset, .unset, .unset, .unset, .unset, .unset, .unset, .unset] [] from ef_rm0 m p1 p2 p3 p4 p5]
  show Go p e below (PostW s n0 room_1.cells room_1.slots (Q0 Z n0 h0 p1 p2 p3 p4 p5 ws0)) s₁ (mkF m 0 #[.val (.int p1), .val (.int p2), .val (.int p3), .val (.int p4), .val (.int p5), .unset, .unset, .unset, .unset, .unset, .unset, .unset, .unset, .unset, .unset, .unset, .unset, .unset, .unset, .unset, .unset] [])
  refine Go.st (T' := s₁) (g' := (mkF m 2 #[.val (.int p1), .val (.int p2), .val (.int p3), .val (.int p4), .val (.int p5), .unset, .unset, .unset, .unset, .unset, .unset, .unset, .unset, .unset, .unset, .unset, .unset, .unset, .unset, .unset, .unset] [(.int p5)])) (fun t_ k_ => XS.iload X0.here hx rfl (hb hby at_0) rfl k_) ?_
  refine Go.st (T' := s₁) (g' := (mkF m 3 #[.val (.int p1), .val (.int p2), .val (.int p3), .val (.int p4), .val (.int p5), .unset, .unset, .unset, .unset, .unset, .unset, .unset, .unset, .unset, .unset, .unset, .unset, .unset, .unset, .unset, .unset] [(.int (4 : Int32)), (.int p5)])) (fun t_ k_ => XS.iconst X0.here hx rfl (hb hby at_2) k_) ?_
  refine Go.st (T' := s₁) (g' := (mkF m 4 #[.val (.int p1), .val (.int p2), .val (.int p3), .val (.int p4), .val (.int p5), .unset, .unset, .unset, .unset, .unset, .unset, .unset, .unset, .unset, .unset, .unset, .unset, .unset, .unset, .unset, .unset] [(.int ((p5.toUInt32 >>> ((4 : Int32) &&& 31).toUInt32).toInt32))])) (fun t_ k_ => XS.iushr X0.here hx rfl (hb hby at_3) rfl k_) ?_
  refine Go.st (T' := s₁) (g' := (mkF m 5 #[.val (.int p1), .val (.int p2), .val (.int p3), .val (.int p4), .val (.int p5), .unset, .unset, .unset, .unset, .unset, .unset, .unset, .unset, .unset, .unset, .unset, .unset, .unset, .unset, .unset, .unset] [(.int (1 : Int32)), (.int ((p5.toUInt32 >>> ((4 : Int32) &&& 31).toUInt32).toInt32))])) (fun t_ k_ => XS.iconst X0.here hx rfl (hb hby at_4) k_) ?_
  refine Go.st (T' := s₁) (g' := (mkF m 6 #[.val (.int p1), .val (.int p2), .val (.int p3), .val (.int p4), .val (.int p5), .unset, .unset, .unset, .unset, .unset, .unset, .unset, .unset, .unset, .unset, .unset, .unset, .unset, .unset, .unset, .unset] [(.int (((p5.toUInt32 >>> ((4 : Int32) &&& 31).toUInt32).toInt32) &&& (1 : Int32)))])) (fun t_ k_ => XS.iand X0.here hx rfl (hb hby at_5) rfl k_) ?_
  have J14_1 : ∀ (s1 : Int32), s1 = (if (((p5.toUInt32 >>> ((4 : Int32) &&& 31).toUInt32).toInt32) &&& (1 : Int32)) = (0 : Int32) then (0 : Int32) else (1 : Int32)) → Go p e below (PostW s n0 room_1.cells room_1.slots (Q0 Z n0 h0 p1 p2 p3 p4 p5 ws0)) s₁ (mkF m 14 #[.val (.int p1), .val (.int p2), .val (.int p3), .val (.int p4), .val (.int p5), .unset, .unset, .unset, .unset, .unset, .unset, .unset, .unset, .unset, .unset, .unset, .unset, .unset, .unset, .unset, .unset] [(.int s1)]) := by
    intro s1 h_s1
    refine Go.st (T' := s₁) (g' := (mkF m 16 #[.val (.int p1), .val (.int p2), .val (.int p3), .val (.int p4), .val (.int p5), .val (.int s1), .unset, .unset, .unset, .unset, .unset, .unset, .unset, .unset, .unset, .unset, .unset, .unset, .unset, .unset, .unset] [])) (fun t_ k_ => XS.istore X0.here hx rfl (hb hby at_14) rfl (l' := #[.val (.int p1), .val (.int p2), .val (.int p3), .val (.int p4), .val (.int p5), .val (.int s1), .unset, .unset, .unset, .unset, .unset, .unset, .unset, .unset, .unset, .unset, .unset, .unset, .unset, .unset, .unset]) rfl k_) ?_
    refine Go.st (T' := s₁) (g' := (mkF m 18 #[.val (.int p1), .val (.int p2), .val (.int p3), .val (.int p4), .val (.int p5), .val (.int s1), .unset, .unset, .unset, .unset, .unset, .unset, .unset, .unset, .unset, .unset, .unset, .unset, .unset, .unset, .unset] [(.int p5)])) (fun t_ k_ => XS.iload X0.here hx rfl (hb hby at_16) rfl k_) ?_
    refine Go.st (T' := s₁) (g' := (mkF m 19 #[.val (.int p1), .val (.int p2), .val (.int p3), .val (.int p4), .val (.int p5), .val (.int s1), .unset, .unset, .unset, .unset, .unset, .unset, .unset, .unset, .unset, .unset, .unset, .unset, .unset, .unset, .unset] [(.int (5 : Int32)), (.int p5)])) (fun t_ k_ => XS.iconst X0.here hx rfl (hb hby at_18) k_) ?_
    refine Go.st (T' := s₁) (g' := (mkF m 20 #[.val (.int p1), .val (.int p2), .val (.int p3), .val (.int p4), .val (.int p5), .val (.int s1), .unset, .unset, .unset, .unset, .unset, .unset, .unset, .unset, .unset, .unset, .unset, .unset, .unset, .unset, .unset] [(.int ((p5.toUInt32 >>> ((5 : Int32) &&& 31).toUInt32).toInt32))])) (fun t_ k_ => XS.iushr X0.here hx rfl (hb hby at_19) rfl k_) ?_
    refine Go.st (T' := s₁) (g' := (mkF m 21 #[.val (.int p1), .val (.int p2), .val (.int p3), .val (.int p4), .val (.int p5), .val (.int s1), .unset, .unset, .unset, .unset, .unset, .unset, .unset, .unset, .unset, .unset, .unset, .unset, .unset, .unset, .unset] [(.int (1 : Int32)), (.int ((p5.toUInt32 >>> ((5 : Int32) &&& 31).toUInt32).toInt32))])) (fun t_ k_ => XS.iconst X0.here hx rfl (hb hby at_20) k_) ?_
    refine Go.st (T' := s₁) (g' := (mkF m 22 #[.val (.int p1), .val (.int p2), .val (.int p3), .val (.int p4), .val (.int p5), .val (.int s1), .unset, .unset, .unset, .unset, .unset, .unset, .unset, .unset, .unset, .unset, .unset, .unset, .unset, .unset, .unset] [(.int (((p5.toUInt32 >>> ((5 : Int32) &&& 31).toUInt32).toInt32) &&& (1 : Int32)))])) (fun t_ k_ => XS.iand X0.here hx rfl (hb hby at_21) rfl k_) ?_
    have J30_2 : ∀ (s2 : Int32), s2 = (if (((p5.toUInt32 >>> ((5 : Int32) &&& 31).toUInt32).toInt32) &&& (1 : Int32)) = (0 : Int32) then (0 : Int32) else (1 : Int32)) → Go p e below (PostW s n0 room_1.cells room_1.slots (Q0 Z n0 h0 p1 p2 p3 p4 p5 ws0)) s₁ (mkF m 30 #[.val (.int p1), .val (.int p2), .val (.int p3), .val (.int p4), .val (.int p5), .val (.int s1), .unset, .unset, .unset, .unset, .unset, .unset, .unset, .unset, .unset, .unset, .unset, .unset, .unset, .unset, .unset] [(.int s2)]) := by
      intro s2 h_s2
      refine Go.st (T' := s₁) (g' := (mkF m 32 #[.val (.int p1), .val (.int p2), .val (.int p3), .val (.int p4), .val (.int p5), .val (.int s1), .val (.int s2), .unset, .unset, .unset, .unset, .unset, .unset, .unset, .unset, .unset, .unset, .unset, .unset, .unset, .unset] [])) (fun t_ k_ => XS.istore X0.here hx rfl (hb hby at_30) rfl (l' := #[.val (.int p1), .val (.int p2), .val (.int p3), .val (.int p4), .val (.int p5), .val (.int s1), .val (.int s2), .unset, .unset, .unset, .unset, .unset, .unset, .unset, .unset, .unset, .unset, .unset, .unset, .unset, .unset]) rfl k_) ?_
      refine Go.st (T' := s₁) (g' := (mkF m 34 #[.val (.int p1), .val (.int p2), .val (.int p3), .val (.int p4), .val (.int p5), .val (.int s1), .val (.int s2), .unset, .unset, .unset, .unset, .unset, .unset, .unset, .unset, .unset, .unset, .unset, .unset, .unset, .unset] [(.int p5)])) (fun t_ k_ => XS.iload X0.here hx rfl (hb hby at_32) rfl k_) ?_
      refine Go.st (T' := s₁) (g' := (mkF m 36 #[.val (.int p1), .val (.int p2), .val (.int p3), .val (.int p4), .val (.int p5), .val (.int s1), .val (.int s2), .unset, .unset, .unset, .unset, .unset, .unset, .unset, .unset, .unset, .unset, .unset, .unset, .unset, .unset] [(.int (6 : Int32)), (.int p5)])) (fun t_ k_ => XS.bipush X0.here hx rfl (hb hby at_34) k_) ?_
      refine Go.st (T' := s₁) (g' := (mkF m 37 #[.val (.int p1), .val (.int p2), .val (.int p3), .val (.int p4), .val (.int p5), .val (.int s1), .val (.int s2), .unset, .unset, .unset, .unset, .unset, .unset, .unset, .unset, .unset, .unset, .unset, .unset, .unset, .unset] [(.int ((p5.toUInt32 >>> ((6 : Int32) &&& 31).toUInt32).toInt32))])) (fun t_ k_ => XS.iushr X0.here hx rfl (hb hby at_36) rfl k_) ?_
      refine Go.st (T' := s₁) (g' := (mkF m 38 #[.val (.int p1), .val (.int p2), .val (.int p3), .val (.int p4), .val (.int p5), .val (.int s1), .val (.int s2), .unset, .unset, .unset, .unset, .unset, .unset, .unset, .unset, .unset, .unset, .unset, .unset, .unset, .unset] [(.int (1 : Int32)), (.int ((p5.toUInt32 >>> ((6 : Int32) &&& 31).toUInt32).toInt32))])) (fun t_ k_ => XS.iconst X0.here hx rfl (hb hby at_37) k_) ?_
      refine Go.st (T' := s₁) (g' := (mkF m 39 #[.val (.int p1), .val (.int p2), .val (.int p3), .val (.int p4), .val (.int p5), .val (.int s1), .val (.int s2), .unset, .unset, .unset, .unset, .unset, .unset, .unset, .unset, .unset, .unset, .unset, .unset, .unset, .unset] [(.int (((p5.toUInt32 >>> ((6 : Int32) &&& 31).toUInt32).toInt32) &&& (1 : Int32)))])) (fun t_ k_ => XS.iand X0.here hx rfl (hb hby at_38) rfl k_) ?_
      have J47_3 : ∀ (s3 : Int32), s3 = (if (((p5.toUInt32 >>> ((6 : Int32) &&& 31).toUInt32).toInt32) &&& (1 : Int32)) = (0 : Int32) then (0 : Int32) else (1 : Int32)) → Go p e below (PostW s n0 room_1.cells room_1.slots (Q0 Z n0 h0 p1 p2 p3 p4 p5 ws0)) s₁ (mkF m 47 #[.val (.int p1), .val (.int p2), .val (.int p3), .val (.int p4), .val (.int p5), .val (.int s1), .val (.int s2), .unset, .unset, .unset, .unset, .unset, .unset, .unset, .unset, .unset, .unset, .unset, .unset, .unset, .unset] [(.int s3)]) := by
        intro s3 h_s3
        refine Go.st (T' := s₁) (g' := (mkF m 49 #[.val (.int p1), .val (.int p2), .val (.int p3), .val (.int p4), .val (.int p5), .val (.int s1), .val (.int s2), .val (.int s3), .unset, .unset, .unset, .unset, .unset, .unset, .unset, .unset, .unset, .unset, .unset, .unset, .unset] [])) (fun t_ k_ => XS.istore X0.here hx rfl (hb hby at_47) rfl (l' := #[.val (.int p1), .val (.int p2), .val (.int p3), .val (.int p4), .val (.int p5), .val (.int s1), .val (.int s2), .val (.int s3), .unset, .unset, .unset, .unset, .unset, .unset, .unset, .unset, .unset, .unset, .unset, .unset, .unset]) rfl k_) ?_
        refine Go.st (T' := s₁) (g' := (mkF m 51 #[.val (.int p1), .val (.int p2), .val (.int p3), .val (.int p4), .val (.int p5), .val (.int s1), .val (.int s2), .val (.int s3), .unset, .unset, .unset, .unset, .unset, .unset, .unset, .unset, .unset, .unset, .unset, .unset, .unset] [(.int s1)])) (fun t_ k_ => XS.iload X0.here hx rfl (hb hby at_49) rfl k_) ?_
        have J59_4 : ∀ (effL : Int32), effL = (if s1 = (0 : Int32) then (-1 : Int32) else p1) → Go p e below (PostW s n0 room_1.cells room_1.slots (Q0 Z n0 h0 p1 p2 p3 p4 p5 ws0)) s₁ (mkF m 59 #[.val (.int p1), .val (.int p2), .val (.int p3), .val (.int p4), .val (.int p5), .val (.int s1), .val (.int s2), .val (.int s3), .unset, .unset, .unset, .unset, .unset, .unset, .unset, .unset, .unset, .unset, .unset, .unset, .unset] [(.int effL)]) := by
          intro effL h_effL
          refine Go.st (T' := s₁) (g' := (mkF m 61 #[.val (.int p1), .val (.int p2), .val (.int p3), .val (.int p4), .val (.int p5), .val (.int s1), .val (.int s2), .val (.int s3), .val (.int effL), .unset, .unset, .unset, .unset, .unset, .unset, .unset, .unset, .unset, .unset, .unset, .unset] [])) (fun t_ k_ => XS.istore X0.here hx rfl (hb hby at_59) rfl (l' := #[.val (.int p1), .val (.int p2), .val (.int p3), .val (.int p4), .val (.int p5), .val (.int s1), .val (.int s2), .val (.int s3), .val (.int effL), .unset, .unset, .unset, .unset, .unset, .unset, .unset, .unset, .unset, .unset, .unset, .unset]) rfl k_) ?_
          refine Go.st (T' := s₁) (g' := (mkF m 63 #[.val (.int p1), .val (.int p2), .val (.int p3), .val (.int p4), .val (.int p5), .val (.int s1), .val (.int s2), .val (.int s3), .val (.int effL), .unset, .unset, .unset, .unset, .unset, .unset, .unset, .unset, .unset, .unset, .unset, .unset] [(.int s2)])) (fun t_ k_ => XS.iload X0.here hx rfl (hb hby at_61) rfl k_) ?_
          have J71_5 : ∀ (effMn : Int32), effMn = (if s2 = (0 : Int32) then (-1 : Int32) else p2) → Go p e below (PostW s n0 room_1.cells room_1.slots (Q0 Z n0 h0 p1 p2 p3 p4 p5 ws0)) s₁ (mkF m 71 #[.val (.int p1), .val (.int p2), .val (.int p3), .val (.int p4), .val (.int p5), .val (.int s1), .val (.int s2), .val (.int s3), .val (.int effL), .unset, .unset, .unset, .unset, .unset, .unset, .unset, .unset, .unset, .unset, .unset, .unset] [(.int effMn)]) := by
            intro effMn h_effMn
            refine Go.st (T' := s₁) (g' := (mkF m 73 #[.val (.int p1), .val (.int p2), .val (.int p3), .val (.int p4), .val (.int p5), .val (.int s1), .val (.int s2), .val (.int s3), .val (.int effL), .val (.int effMn), .unset, .unset, .unset, .unset, .unset, .unset, .unset, .unset, .unset, .unset, .unset] [])) (fun t_ k_ => XS.istore X0.here hx rfl (hb hby at_71) rfl (l' := #[.val (.int p1), .val (.int p2), .val (.int p3), .val (.int p4), .val (.int p5), .val (.int s1), .val (.int s2), .val (.int s3), .val (.int effL), .val (.int effMn), .unset, .unset, .unset, .unset, .unset, .unset, .unset, .unset, .unset, .unset, .unset]) rfl k_) ?_
            refine Go.st (T' := s₁) (g' := (mkF m 75 #[.val (.int p1), .val (.int p2), .val (.int p3), .val (.int p4), .val (.int p5), .val (.int s1), .val (.int s2), .val (.int s3), .val (.int effL), .val (.int effMn), .unset, .unset, .unset, .unset, .unset, .unset, .unset, .unset, .unset, .unset, .unset] [(.int s3)])) (fun t_ k_ => XS.iload X0.here hx rfl (hb hby at_73) rfl k_) ?_
            have J83_6 : ∀ (effMx : Int32), effMx = (if s3 = (0 : Int32) then (-1 : Int32) else p3) → Go p e below (PostW s n0 room_1.cells room_1.slots (Q0 Z n0 h0 p1 p2 p3 p4 p5 ws0)) s₁ (mkF m 83 #[.val (.int p1), .val (.int p2), .val (.int p3), .val (.int p4), .val (.int p5), .val (.int s1), .val (.int s2), .val (.int s3), .val (.int effL), .val (.int effMn), .unset, .unset, .unset, .unset, .unset, .unset, .unset, .unset, .unset, .unset, .unset] [(.int effMx)]) := by
              intro effMx h_effMx
              refine Go.st (T' := s₁) (g' := (mkF m 85 #[.val (.int p1), .val (.int p2), .val (.int p3), .val (.int p4), .val (.int p5), .val (.int s1), .val (.int s2), .val (.int s3), .val (.int effL), .val (.int effMn), .val (.int effMx), .unset, .unset, .unset, .unset, .unset, .unset, .unset, .unset, .unset, .unset] [])) (fun t_ k_ => XS.istore X0.here hx rfl (hb hby at_83) rfl (l' := #[.val (.int p1), .val (.int p2), .val (.int p3), .val (.int p4), .val (.int p5), .val (.int s1), .val (.int s2), .val (.int s3), .val (.int effL), .val (.int effMn), .val (.int effMx), .unset, .unset, .unset, .unset, .unset, .unset, .unset, .unset, .unset, .unset]) rfl k_) ?_
              refine Go.st (T' := s₁) (g' := (mkF m 87 #[.val (.int p1), .val (.int p2), .val (.int p3), .val (.int p4), .val (.int p5), .val (.int s1), .val (.int s2), .val (.int s3), .val (.int effL), .val (.int effMn), .val (.int effMx), .unset, .unset, .unset, .unset, .unset, .unset, .unset, .unset, .unset, .unset] [(.int p5)])) (fun t_ k_ => XS.iload X0.here hx rfl (hb hby at_85) rfl k_) ?_
              refine Go.st (T' := s₁) (g' := (mkF m 88 #[.val (.int p1), .val (.int p2), .val (.int p3), .val (.int p4), .val (.int p5), .val (.int s1), .val (.int s2), .val (.int s3), .val (.int effL), .val (.int effMn), .val (.int effMx), .unset, .unset, .unset, .unset, .unset, .unset, .unset, .unset, .unset, .unset] [(.int (3 : Int32)), (.int p5)])) (fun t_ k_ => XS.iconst X0.here hx rfl (hb hby at_87) k_) ?_
              refine Go.st (T' := s₁) (g' := (mkF m 89 #[.val (.int p1), .val (.int p2), .val (.int p3), .val (.int p4), .val (.int p5), .val (.int s1), .val (.int s2), .val (.int s3), .val (.int effL), .val (.int effMn), .val (.int effMx), .unset, .unset, .unset, .unset, .unset, .unset, .unset, .unset, .unset, .unset] [(.int (p5 &&& (3 : Int32)))])) (fun t_ k_ => XS.iand X0.here hx rfl (hb hby at_88) rfl k_) ?_
              refine Go.st (T' := s₁) (g' := (mkF m 91 #[.val (.int p1), .val (.int p2), .val (.int p3), .val (.int p4), .val (.int p5), .val (.int s1), .val (.int s2), .val (.int s3), .val (.int effL), .val (.int effMn), .val (.int effMx), .val (.int (p5 &&& (3 : Int32))), .unset, .unset, .unset, .unset, .unset, .unset, .unset, .unset, .unset] [])) (fun t_ k_ => XS.istore X0.here hx rfl (hb hby at_89) rfl (l' := #[.val (.int p1), .val (.int p2), .val (.int p3), .val (.int p4), .val (.int p5), .val (.int s1), .val (.int s2), .val (.int s3), .val (.int effL), .val (.int effMn), .val (.int effMx), .val (.int (p5 &&& (3 : Int32))), .unset, .unset, .unset, .unset, .unset, .unset, .unset, .unset, .unset]) rfl k_) ?_
              refine Go.st (T' := s₁) (g' := (mkF m 93 #[.val (.int p1), .val (.int p2), .val (.int p3), .val (.int p4), .val (.int p5), .val (.int s1), .val (.int s2), .val (.int s3), .val (.int effL), .val (.int effMn), .val (.int effMx), .val (.int (p5 &&& (3 : Int32))), .unset, .unset, .unset, .unset, .unset, .unset, .unset, .unset, .unset] [(.int p5)])) (fun t_ k_ => XS.iload X0.here hx rfl (hb hby at_91) rfl k_) ?_
              refine Go.st (T' := s₁) (g' := (mkF m 94 #[.val (.int p1), .val (.int p2), .val (.int p3), .val (.int p4), .val (.int p5), .val (.int s1), .val (.int s2), .val (.int s3), .val (.int effL), .val (.int effMn), .val (.int effMx), .val (.int (p5 &&& (3 : Int32))), .unset, .unset, .unset, .unset, .unset, .unset, .unset, .unset, .unset] [(.int (2 : Int32)), (.int p5)])) (fun t_ k_ => XS.iconst X0.here hx rfl (hb hby at_93) k_) ?_
              refine Go.st (T' := s₁) (g' := (mkF m 95 #[.val (.int p1), .val (.int p2), .val (.int p3), .val (.int p4), .val (.int p5), .val (.int s1), .val (.int s2), .val (.int s3), .val (.int effL), .val (.int effMn), .val (.int effMx), .val (.int (p5 &&& (3 : Int32))), .unset, .unset, .unset, .unset, .unset, .unset, .unset, .unset, .unset] [(.int ((p5.toUInt32 >>> ((2 : Int32) &&& 31).toUInt32).toInt32))])) (fun t_ k_ => XS.iushr X0.here hx rfl (hb hby at_94) rfl k_) ?_
              refine Go.st (T' := s₁) (g' := (mkF m 96 #[.val (.int p1), .val (.int p2), .val (.int p3), .val (.int p4), .val (.int p5), .val (.int s1), .val (.int s2), .val (.int s3), .val (.int effL), .val (.int effMn), .val (.int effMx), .val (.int (p5 &&& (3 : Int32))), .unset, .unset, .unset, .unset, .unset, .unset, .unset, .unset, .unset] [(.int (3 : Int32)), (.int ((p5.toUInt32 >>> ((2 : Int32) &&& 31).toUInt32).toInt32))])) (fun t_ k_ => XS.iconst X0.here hx rfl (hb hby at_95) k_) ?_
              refine Go.st (T' := s₁) (g' := (mkF m 97 #[.val (.int p1), .val (.int p2), .val (.int p3), .val (.int p4), .val (.int p5), .val (.int s1), .val (.int s2), .val (.int s3), .val (.int effL), .val (.int effMn), .val (.int effMx), .val (.int (p5 &&& (3 : Int32))), .unset, .unset, .unset, .unset, .unset, .unset, .unset, .unset, .unset] [(.int (((p5.toUInt32 >>> ((2 : Int32) &&& 31).toUInt32).toInt32) &&& (3 : Int32)))])) (fun t_ k_ => XS.iand X0.here hx rfl (hb hby at_96) rfl k_) ?_
              refine Go.st (T' := s₁) (g' := (mkF m 98 #[.val (.int p1), .val (.int p2), .val (.int p3), .val (.int p4), .val (.int p5), .val (.int s1), .val (.int s2), .val (.int s3), .val (.int effL), .val (.int effMn), .val (.int effMx), .val (.int (p5 &&& (3 : Int32))), .unset, .unset, .unset, .unset, .unset, .unset, .unset, .unset, .unset] [(.int (1 : Int32)), (.int (((p5.toUInt32 >>> ((2 : Int32) &&& 31).toUInt32).toInt32) &&& (3 : Int32)))])) (fun t_ k_ => XS.iconst X0.here hx rfl (hb hby at_97) k_) ?_
              refine Go.st (T' := s₁) (g' := (mkF m 99 #[.val (.int p1), .val (.int p2), .val (.int p3), .val (.int p4), .val (.int p5), .val (.int s1), .val (.int s2), .val (.int s3), .val (.int effL), .val (.int effMn), .val (.int effMx), .val (.int (p5 &&& (3 : Int32))), .unset, .unset, .unset, .unset, .unset, .unset, .unset, .unset, .unset] [(.int ((((p5.toUInt32 >>> ((2 : Int32) &&& 31).toUInt32).toInt32) &&& (3 : Int32)) - (1 : Int32)))])) (fun t_ k_ => XS.isub X0.here hx rfl (hb hby at_98) rfl k_) ?_
              refine Go.st (T' := s₁) (g' := (mkF m 101 #[.val (.int p1), .val (.int p2), .val (.int p3), .val (.int p4), .val (.int p5), .val (.int s1), .val (.int s2), .val (.int s3), .val (.int effL), .val (.int effMn), .val (.int effMx), .val (.int (p5 &&& (3 : Int32))), .val (.int ((((p5.toUInt32 >>> ((2 : Int32) &&& 31).toUInt32).toInt32) &&& (3 : Int32)) - (1 : Int32))), .unset, .unset, .unset, .unset, .unset, .unset, .unset, .unset] [])) (fun t_ k_ => XS.istore X0.here hx rfl (hb hby at_99) rfl (l' := #[.val (.int p1), .val (.int p2), .val (.int p3), .val (.int p4), .val (.int p5), .val (.int s1), .val (.int s2), .val (.int s3), .val (.int effL), .val (.int effMn), .val (.int effMx), .val (.int (p5 &&& (3 : Int32))), .val (.int ((((p5.toUInt32 >>> ((2 : Int32) &&& 31).toUInt32).toInt32) &&& (3 : Int32)) - (1 : Int32))), .unset, .unset, .unset, .unset, .unset, .unset, .unset, .unset]) rfl k_) ?_
              refine Go.st (T' := s₁) (g' := (mkF m 103 #[.val (.int p1), .val (.int p2), .val (.int p3), .val (.int p4), .val (.int p5), .val (.int s1), .val (.int s2), .val (.int s3), .val (.int effL), .val (.int effMn), .val (.int effMx), .val (.int (p5 &&& (3 : Int32))), .val (.int ((((p5.toUInt32 >>> ((2 : Int32) &&& 31).toUInt32).toInt32) &&& (3 : Int32)) - (1 : Int32))), .unset, .unset, .unset, .unset, .unset, .unset, .unset, .unset] [(.int (p5 &&& (3 : Int32)))])) (fun t_ k_ => XS.iload X0.here hx rfl (hb hby at_101) rfl k_) ?_
              have J151_7 : ∀ (cnt : Int32), cnt = (if (p5 &&& (3 : Int32)) = (0 : Int32) then p4 else (if (p5 &&& (3 : Int32)) = (1 : Int32) then (effL + ((((p5.toUInt32 >>> ((2 : Int32) &&& 31).toUInt32).toInt32) &&& (3 : Int32)) - (1 : Int32))) else (if (p5 &&& (3 : Int32)) = (2 : Int32) then (effMn + ((((p5.toUInt32 >>> ((2 : Int32) &&& 31).toUInt32).toInt32) &&& (3 : Int32)) - (1 : Int32))) else (effMx + ((((p5.toUInt32 >>> ((2 : Int32) &&& 31).toUInt32).toInt32) &&& (3 : Int32)) - (1 : Int32)))))) → Go p e below (PostW s n0 room_1.cells room_1.slots (Q0 Z n0 h0 p1 p2 p3 p4 p5 ws0)) s₁ (mkF m 151 #[.val (.int p1), .val (.int p2), .val (.int p3), .val (.int p4), .val (.int p5), .val (.int s1), .val (.int s2), .val (.int s3), .val (.int effL), .val (.int effMn), .val (.int effMx), .val (.int (p5 &&& (3 : Int32))), .val (.int ((((p5.toUInt32 >>> ((2 : Int32) &&& 31).toUInt32).toInt32) &&& (3 : Int32)) - (1 : Int32))), .val (.int cnt), .unset, .unset, .unset, .unset, .unset, .unset, .unset] []) := by
                intro cnt h_cnt
                refine goNew X0 hx hZ hown (hw _ (List.mem_of_getElem? (i := 0) rfl)) (hw _ (List.mem_of_getElem? (i := 1) rfl)) (hw _ (List.mem_of_getElem? (i := 2) rfl)) (hb hby at_151) (by decide) (by decide) fun T8 h8 of gb8 X8 E8 A8 D8 => ?_
                have ge8 : n0 ≤ of := gb8 ▸ sz0
                have f8_0 : Sta Z h8 "java/util/ArrayList" "DEFAULTCAPACITY_EMPTY_ELEMENTDATA" "[Ljava/lang/Object;" (.ref ws0) := g0.ext E8
                have sz8 : n0 ≤ h8.size := Nat.le_trans sz0 E8.1
                have F8_patterns : Fld Z h8 of "com/example/kenshinkit/kenshinkit/schema/Facets" "patterns" "Ljava/util/List;" .null := D8 (Or.inr (hw _ (List.mem_of_getElem? (i := 34) rfl))) (ty := (.object "java/util/List")) (by decide)
                have F8_length : Fld Z h8 of "com/example/kenshinkit/kenshinkit/schema/Facets" "length" "I" (.int (0 : Int32)) := D8 (Or.inl (hw _ (List.mem_of_getElem? (i := 36) rfl))) (ty := .int) (by decide)
                have F8_minLength : Fld Z h8 of "com/example/kenshinkit/kenshinkit/schema/Facets" "minLength" "I" (.int (0 : Int32)) := D8 (Or.inl (hw _ (List.mem_of_getElem? (i := 38) rfl))) (ty := .int) (by decide)
                have F8_maxLength : Fld Z h8 of "com/example/kenshinkit/kenshinkit/schema/Facets" "maxLength" "I" (.int (0 : Int32)) := D8 (Or.inl (hw _ (List.mem_of_getElem? (i := 40) rfl))) (ty := .int) (by decide)
                show Go p e below _ T8 (mkF m 154 #[.val (.int p1), .val (.int p2), .val (.int p3), .val (.int p4), .val (.int p5), .val (.int s1), .val (.int s2), .val (.int s3), .val (.int effL), .val (.int effMn), .val (.int effMx), .val (.int (p5 &&& (3 : Int32))), .val (.int ((((p5.toUInt32 >>> ((2 : Int32) &&& 31).toUInt32).toInt32) &&& (3 : Int32)) - (1 : Int32))), .val (.int cnt), .unset, .unset, .unset, .unset, .unset, .unset, .unset] [(.ref of)])
                refine Go.st (T' := T8) (g' := (mkF m 155 #[.val (.int p1), .val (.int p2), .val (.int p3), .val (.int p4), .val (.int p5), .val (.int s1), .val (.int s2), .val (.int s3), .val (.int effL), .val (.int effMn), .val (.int effMx), .val (.int (p5 &&& (3 : Int32))), .val (.int ((((p5.toUInt32 >>> ((2 : Int32) &&& 31).toUInt32).toInt32) &&& (3 : Int32)) - (1 : Int32))), .val (.int cnt), .unset, .unset, .unset, .unset, .unset, .unset, .unset] [(.ref of), (.ref of)])) (fun t_ k_ => XS.dup X8.here hx rfl (hb hby at_154) rfl rfl k_) ?_
                refine goCtor X8 hx hZ (y := (⟨"com/example/kenshinkit/kenshinkit/schema/Facets", "<init>", "()V"⟩ : MethodName)) rfl hown (hw _ (List.mem_of_getElem? (i := 3) rfl)) (hw _ (List.mem_of_getElem? (i := 4) rfl)) (hw _ (List.mem_of_getElem? (i := 2) rfl)) (hw _ (List.mem_of_getElem? (i := 5) rfl)) (by decide) (rm1 l Z a0 hw [] n0 h8 of .null (.int (0 : Int32)) (.int (0 : Int32)) (.int (0 : Int32)) ws0 sz8 A8 F8_patterns F8_length F8_minLength F8_maxLength ge8 f8_0) 1 (by decide) (by decide) (by rw [hml]; rfl) of [] [(.ref of)] (lenOf pd_0f51a560 rfl) rfl rfl rfl (hb hby at_155) (by decide) (by decide) fun v9 T9 h9 X9 hq9 => ?_
                obtain ⟨rfl, K9c, p9_0, p9_1, p9_2, p9_3⟩ := hq9
                have f9_0 : Sta Z h9 "java/util/ArrayList" "DEFAULTCAPACITY_EMPTY_ELEMENTDATA" "[Ljava/lang/Object;" (.ref ws0) := sta_keep f8_0 K9c (allS ⟨_, A8⟩ all0)
                have f9_2 : Exa Z h9 of "com/example/kenshinkit/kenshinkit/schema/Facets" := A8.keep K9c
                have sz9 : n0 ≤ h9.size := Nat.le_trans sz8 K9c.1
                show Go p e below _ T9 (mkF m 158 #[.val (.int p1), .val (.int p2), .val (.int p3), .val (.int p4), .val (.int p5), .val (.int s1), .val (.int s2), .val (.int s3), .val (.int effL), .val (.int effMn), .val (.int effMx), .val (.int (p5 &&& (3 : Int32))), .val (.int ((((p5.toUInt32 >>> ((2 : Int32) &&& 31).toUInt32).toInt32) &&& (3 : Int32)) - (1 : Int32))), .val (.int cnt), .unset, .unset, .unset, .unset, .unset, .unset, .unset] [(.ref of)])
                refine Go.st (T' := T9) (g' := (mkF m 160 #[.val (.int p1), .val (.int p2), .val (.int p3), .val (.int p4), .val (.int p5), .val (.int s1), .val (.int s2), .val (.int s3), .val (.int effL), .val (.int effMn), .val (.int effMx), .val (.int (p5 &&& (3 : Int32))), .val (.int ((((p5.toUInt32 >>> ((2 : Int32) &&& 31).toUInt32).toInt32) &&& (3 : Int32)) - (1 : Int32))), .val (.int cnt), .val (.ref of), .unset, .unset, .unset, .unset, .unset, .unset] [])) (fun t_ k_ => XS.astore X9.here hx rfl (hb hby at_158) rfl rfl (l' := #[.val (.int p1), .val (.int p2), .val (.int p3), .val (.int p4), .val (.int p5), .val (.int s1), .val (.int s2), .val (.int s3), .val (.int effL), .val (.int effMn), .val (.int effMx), .val (.int (p5 &&& (3 : Int32))), .val (.int ((((p5.toUInt32 >>> ((2 : Int32) &&& 31).toUInt32).toInt32) &&& (3 : Int32)) - (1 : Int32))), .val (.int cnt), .val (.ref of), .unset, .unset, .unset, .unset, .unset, .unset]) rfl k_) ?_
                refine Go.st (T' := T9) (g' := (mkF m 162 #[.val (.int p1), .val (.int p2), .val (.int p3), .val (.int p4), .val (.int p5), .val (.int s1), .val (.int s2), .val (.int s3), .val (.int effL), .val (.int effMn), .val (.int effMx), .val (.int (p5 &&& (3 : Int32))), .val (.int ((((p5.toUInt32 >>> ((2 : Int32) &&& 31).toUInt32).toInt32) &&& (3 : Int32)) - (1 : Int32))), .val (.int cnt), .val (.ref of), .unset, .unset, .unset, .unset, .unset, .unset] [(.int s1)])) (fun t_ k_ => XS.iload X9.here hx rfl (hb hby at_160) rfl k_) ?_
                have J171 : ∀ (z1 : Int32) (T_J171 : State) (h_J171 : Heap), Stn p l e room_1 s m #[(.int p1), (.int p2), (.int p3), (.int p4), (.int p5)] below meth c n0 T_J171 h_J171 2 10 → n0 ≤ h_J171.size → Exa Z h_J171 of "com/example/kenshinkit/kenshinkit/schema/Facets" → n0 ≤ of → Fld Z h_J171 of "com/example/kenshinkit/kenshinkit/schema/Facets" "length" "I" (.int z1) → Fld Z h_J171 of "com/example/kenshinkit/kenshinkit/schema/Facets" "minLength" "I" (.int (-1 : Int32)) → Fld Z h_J171 of "com/example/kenshinkit/kenshinkit/schema/Facets" "maxLength" "I" (.int (-1 : Int32)) → (z1 = effL) → Go p e below (PostW s n0 room_1.cells room_1.slots (Q0 Z n0 h0 p1 p2 p3 p4 p5 ws0)) T_J171 (mkF m 171 #[.val (.int p1), .val (.int p2), .val (.int p3), .val (.int p4), .val (.int p5), .val (.int s1), .val (.int s2), .val (.int s3), .val (.int effL), .val (.int effMn), .val (.int effMx), .val (.int (p5 &&& (3 : Int32))), .val (.int ((((p5.toUInt32 >>> ((2 : Int32) &&& 31).toUInt32).toInt32) &&& (3 : Int32)) - (1 : Int32))), .val (.int cnt), .val (.ref of), .unset, .unset, .unset, .unset, .unset, .unset] []) := by
                  intro z1 T_J171 h_J171 X_J171 sz_J171 g0_J171 g1_J171 g2_J171 g3_J171 g4_J171 hz1_171
                  refine Go.st (T' := T_J171) (g' := (mkF m 173 #[.val (.int p1), .val (.int p2), .val (.int p3), .val (.int p4), .val (.int p5), .val (.int s1), .val (.int s2), .val (.int s3), .val (.int effL), .val (.int effMn), .val (.int effMx), .val (.int (p5 &&& (3 : Int32))), .val (.int ((((p5.toUInt32 >>> ((2 : Int32) &&& 31).toUInt32).toInt32) &&& (3 : Int32)) - (1 : Int32))), .val (.int cnt), .val (.ref of), .unset, .unset, .unset, .unset, .unset, .unset] [(.int s2)])) (fun t_ k_ => XS.iload X_J171.here hx rfl (hb hby at_171) rfl k_) ?_
                  have J182 : ∀ (z1 : Int32) (z2 : Int32) (T_J182 : State) (h_J182 : Heap), Stn p l e room_1 s m #[(.int p1), (.int p2), (.int p3), (.int p4), (.int p5)] below meth c n0 T_J182 h_J182 2 10 → n0 ≤ h_J182.size → Exa Z h_J182 of "com/example/kenshinkit/kenshinkit/schema/Facets" → n0 ≤ of → Fld Z h_J182 of "com/example/kenshinkit/kenshinkit/schema/Facets" "length" "I" (.int z1) → Fld Z h_J182 of "com/example/kenshinkit/kenshinkit/schema/Facets" "minLength" "I" (.int z2) → Fld Z h_J182 of "com/example/kenshinkit/kenshinkit/schema/Facets" "maxLength" "I" (.int (-1 : Int32)) → (z1 = effL) → (z2 = effMn) → Go p e below (PostW s n0 room_1.cells room_1.slots (Q0 Z n0 h0 p1 p2 p3 p4 p5 ws0)) T_J182 (mkF m 182 #[.val (.int p1), .val (.int p2), .val (.int p3), .val (.int p4), .val (.int p5), .val (.int s1), .val (.int s2), .val (.int s3), .val (.int effL), .val (.int effMn), .val (.int effMx), .val (.int (p5 &&& (3 : Int32))), .val (.int ((((p5.toUInt32 >>> ((2 : Int32) &&& 31).toUInt32).toInt32) &&& (3 : Int32)) - (1 : Int32))), .val (.int cnt), .val (.ref of), .unset, .unset, .unset, .unset, .unset, .unset] []) := by
                    intro z1 z2 T_J182 h_J182 X_J182 sz_J182 g0_J182 g1_J182 g2_J182 g3_J182 g4_J182 hz1_182 hz2_182
                    refine Go.st (T' := T_J182) (g' := (mkF m 184 #[.val (.int p1), .val (.int p2), .val (.int p3), .val (.int p4), .val (.int p5), .val (.int s1), .val (.int s2), .val (.int s3), .val (.int effL), .val (.int effMn), .val (.int effMx), .val (.int (p5 &&& (3 : Int32))), .val (.int ((((p5.toUInt32 >>> ((2 : Int32) &&& 31).toUInt32).toInt32) &&& (3 : Int32)) - (1 : Int32))), .val (.int cnt), .val (.ref of), .unset, .unset, .unset, .unset, .unset, .unset] [(.int s3)])) (fun t_ k_ => XS.iload X_J182.here hx rfl (hb hby at_182) rfl k_) ?_
                    have J193 : ∀ (z1 : Int32) (z2 : Int32) (z3 : Int32) (T_J193 : State) (h_J193 : Heap), Stn p l e room_1 s m #[(.int p1), (.int p2), (.int p3), (.int p4), (.int p5)] below meth c n0 T_J193 h_J193 2 10 → n0 ≤ h_J193.size → Exa Z h_J193 of "com/example/kenshinkit/kenshinkit/schema/Facets" → n0 ≤ of → Fld Z h_J193 of "com/example/kenshinkit/kenshinkit/schema/Facets" "length" "I" (.int z1) → Fld Z h_J193 of "com/example/kenshinkit/kenshinkit/schema/Facets" "minLength" "I" (.int z2) → Fld Z h_J193 of "com/example/kenshinkit/kenshinkit/schema/Facets" "maxLength" "I" (.int z3) → (z1 = effL) → (z2 = effMn) → (z3 = effMx) → Go p e below (PostW s n0 room_1.cells room_1.slots (Q0 Z n0 h0 p1 p2 p3 p4 p5 ws0)) T_J193 (mkF m 193 #[.val (.int p1), .val (.int p2), .val (.int p3), .val (.int p4), .val (.int p5), .val (.int s1), .val (.int s2), .val (.int s3), .val (.int effL), .val (.int effMn), .val (.int effMx), .val (.int (p5 &&& (3 : Int32))), .val (.int ((((p5.toUInt32 >>> ((2 : Int32) &&& 31).toUInt32).toInt32) &&& (3 : Int32)) - (1 : Int32))), .val (.int cnt), .val (.ref of), .unset, .unset, .unset, .unset, .unset, .unset] []) := by
                      intro z1 z2 z3 T_J193 h_J193 X_J193 sz_J193 g0_J193 g1_J193 g2_J193 g3_J193 g4_J193 hz1_193 hz2_193 hz3_193
                      refine Go.st (T' := T_J193) (g' := (mkF m 195 #[.val (.int p1), .val (.int p2), .val (.int p3), .val (.int p4), .val (.int p5), .val (.int s1), .val (.int s2), .val (.int s3), .val (.int effL), .val (.int effMn), .val (.int effMx), .val (.int (p5 &&& (3 : Int32))), .val (.int ((((p5.toUInt32 >>> ((2 : Int32) &&& 31).toUInt32).toInt32) &&& (3 : Int32)) - (1 : Int32))), .val (.int cnt), .val (.ref of), .unset, .unset, .unset, .unset, .unset, .unset] [(.ref of)])) (fun t_ k_ => XS.aload X_J193.here hx rfl (hb hby at_193) rfl rfl k_) ?_
                      refine Go.st (T' := T_J193) (g' := (mkF m 197 #[.val (.int p1), .val (.int p2), .val (.int p3), .val (.int p4), .val (.int p5), .val (.int s1), .val (.int s2), .val (.int s3), .val (.int effL), .val (.int effMn), .val (.int effMx), .val (.int (p5 &&& (3 : Int32))), .val (.int ((((p5.toUInt32 >>> ((2 : Int32) &&& 31).toUInt32).toInt32) &&& (3 : Int32)) - (1 : Int32))), .val (.int cnt), .val (.ref of), .unset, .unset, .unset, .unset, .unset, .unset] [(.int cnt), (.ref of)])) (fun t_ k_ => XS.iload X_J193.here hx rfl (hb hby at_195) rfl k_) ?_
                      refine goVirtS X_J193 hx hZ (y := (⟨"com/example/kenshinkit/kenshinkit/schema/Facets", "acceptsLength", "(I)Z"⟩ : MethodName)) hown (hw _ (List.mem_of_getElem? (i := 41) rfl)) (hw _ (List.mem_of_getElem? (i := 42) rfl)) (hw _ (List.mem_of_getElem? (i := 44) rfl)) (hw _ (List.mem_of_getElem? (i := 43) rfl)) (hw _ (List.mem_of_getElem? (i := 2) rfl)) (hw _ (List.mem_of_getElem? (i := 45) rfl)) (by decide) g0_J193 (rm6 l Z a0 hw [] n0 h_J193 of cnt z1 z2 z3 sz_J193 g2_J193 g3_J193 g4_J193) 0 (by decide) (by decide) (by rw [hml]; rfl) [(.int cnt)] [] (lenOf pd_f471c983 rfl) rfl rfl rfl (hb hby at_197) (by decide) (by decide) fun v10 T10 h10 X10 hq10 => ?_
                      obtain ⟨ra, rfl, eh10, tr⟩ := hq10
                      rw [eh10] at X10
                      show Go p e below _ T10 (mkF m 200 #[.val (.int p1), .val (.int p2), .val (.int p3), .val (.int p4), .val (.int p5), .val (.int s1), .val (.int s2), .val (.int s3), .val (.int effL), .val (.int effMn), .val (.int effMx), .val (.int (p5 &&& (3 : Int32))), .val (.int ((((p5.toUInt32 >>> ((2 : Int32) &&& 31).toUInt32).toInt32) &&& (3 : Int32)) - (1 : Int32))), .val (.int cnt), .val (.ref of), .unset, .unset, .unset, .unset, .unset, .unset] [(.int ra)])
                      refine Go.st (T' := T10) (g' := (mkF m 202 #[.val (.int p1), .val (.int p2), .val (.int p3), .val (.int p4), .val (.int p5), .val (.int s1), .val (.int s2), .val (.int s3), .val (.int effL), .val (.int effMn), .val (.int effMx), .val (.int (p5 &&& (3 : Int32))), .val (.int ((((p5.toUInt32 >>> ((2 : Int32) &&& 31).toUInt32).toInt32) &&& (3 : Int32)) - (1 : Int32))), .val (.int cnt), .val (.ref of), .val (.int ra), .unset, .unset, .unset, .unset, .unset] [])) (fun t_ k_ => XS.istore X10.here hx rfl (hb hby at_200) rfl (l' := #[.val (.int p1), .val (.int p2), .val (.int p3), .val (.int p4), .val (.int p5), .val (.int s1), .val (.int s2), .val (.int s3), .val (.int effL), .val (.int effMn), .val (.int effMx), .val (.int (p5 &&& (3 : Int32))), .val (.int ((((p5.toUInt32 >>> ((2 : Int32) &&& 31).toUInt32).toInt32) &&& (3 : Int32)) - (1 : Int32))), .val (.int cnt), .val (.ref of), .val (.int ra), .unset, .unset, .unset, .unset, .unset]) rfl k_) ?_
                      refine Go.st (T' := T10) (g' := (mkF m 205 #[.val (.int p1), .val (.int p2), .val (.int p3), .val (.int p4), .val (.int p5), .val (.int s1), .val (.int s2), .val (.int s3), .val (.int effL), .val (.int effMn), .val (.int effMx), .val (.int (p5 &&& (3 : Int32))), .val (.int ((((p5.toUInt32 >>> ((2 : Int32) &&& 31).toUInt32).toInt32) &&& (3 : Int32)) - (1 : Int32))), .val (.int cnt), .val (.ref of), .val (.int ra), .unset, .unset, .unset, .unset, .unset] [(.long (-2147483648 : Int64))])) (fun t_ k_ => Stn.ldcJ X10 hx hZ hown (hw _ (List.mem_of_getElem? (i := 46) rfl)) (hb hby at_202) k_) ?_
                      refine Go.st (T' := T10) (g' := (mkF m 207 #[.val (.int p1), .val (.int p2), .val (.int p3), .val (.int p4), .val (.int p5), .val (.int s1), .val (.int s2), .val (.int s3), .val (.int effL), .val (.int effMn), .val (.int effMx), .val (.int (p5 &&& (3 : Int32))), .val (.int ((((p5.toUInt32 >>> ((2 : Int32) &&& 31).toUInt32).toInt32) &&& (3 : Int32)) - (1 : Int32))), .val (.int cnt), .val (.ref of), .val (.int ra), .val (.long (-2147483648 : Int64)), .second, .unset, .unset, .unset] [])) (fun t_ k_ => XS.lstore X10.here hx rfl (hb hby at_205) rfl (l' := #[.val (.int p1), .val (.int p2), .val (.int p3), .val (.int p4), .val (.int p5), .val (.int s1), .val (.int s2), .val (.int s3), .val (.int effL), .val (.int effMn), .val (.int effMx), .val (.int (p5 &&& (3 : Int32))), .val (.int ((((p5.toUInt32 >>> ((2 : Int32) &&& 31).toUInt32).toInt32) &&& (3 : Int32)) - (1 : Int32))), .val (.int cnt), .val (.ref of), .val (.int ra), .val (.long (-2147483648 : Int64)), .second, .unset, .unset, .unset]) rfl k_) ?_
                      refine Go.st (T' := T10) (g' := (mkF m 210 #[.val (.int p1), .val (.int p2), .val (.int p3), .val (.int p4), .val (.int p5), .val (.int s1), .val (.int s2), .val (.int s3), .val (.int effL), .val (.int effMn), .val (.int effMx), .val (.int (p5 &&& (3 : Int32))), .val (.int ((((p5.toUInt32 >>> ((2 : Int32) &&& 31).toUInt32).toInt32) &&& (3 : Int32)) - (1 : Int32))), .val (.int cnt), .val (.ref of), .val (.int ra), .val (.long (-2147483648 : Int64)), .second, .unset, .unset, .unset] [(.long (2147483647 : Int64))])) (fun t_ k_ => Stn.ldcJ X10 hx hZ hown (hw _ (List.mem_of_getElem? (i := 47) rfl)) (hb hby at_207) k_) ?_
                      refine Go.st (T' := T10) (g' := (mkF m 212 #[.val (.int p1), .val (.int p2), .val (.int p3), .val (.int p4), .val (.int p5), .val (.int s1), .val (.int s2), .val (.int s3), .val (.int effL), .val (.int effMn), .val (.int effMx), .val (.int (p5 &&& (3 : Int32))), .val (.int ((((p5.toUInt32 >>> ((2 : Int32) &&& 31).toUInt32).toInt32) &&& (3 : Int32)) - (1 : Int32))), .val (.int cnt), .val (.ref of), .val (.int ra), .val (.long (-2147483648 : Int64)), .second, .val (.long (2147483647 : Int64)), .second, .unset] [])) (fun t_ k_ => XS.lstore X10.here hx rfl (hb hby at_210) rfl (l' := #[.val (.int p1), .val (.int p2), .val (.int p3), .val (.int p4), .val (.int p5), .val (.int s1), .val (.int s2), .val (.int s3), .val (.int effL), .val (.int effMn), .val (.int effMx), .val (.int (p5 &&& (3 : Int32))), .val (.int ((((p5.toUInt32 >>> ((2 : Int32) &&& 31).toUInt32).toInt32) &&& (3 : Int32)) - (1 : Int32))), .val (.int cnt), .val (.ref of), .val (.int ra), .val (.long (-2147483648 : Int64)), .second, .val (.long (2147483647 : Int64)), .second, .unset]) rfl k_) ?_
                      refine Go.st (T' := T10) (g' := (mkF m 214 #[.val (.int p1), .val (.int p2), .val (.int p3), .val (.int p4), .val (.int p5), .val (.int s1), .val (.int s2), .val (.int s3), .val (.int effL), .val (.int effMn), .val (.int effMx), .val (.int (p5 &&& (3 : Int32))), .val (.int ((((p5.toUInt32 >>> ((2 : Int32) &&& 31).toUInt32).toInt32) &&& (3 : Int32)) - (1 : Int32))), .val (.int cnt), .val (.ref of), .val (.int ra), .val (.long (-2147483648 : Int64)), .second, .val (.long (2147483647 : Int64)), .second, .unset] [(.int effL)])) (fun t_ k_ => XS.iload X10.here hx rfl (hb hby at_212) rfl k_) ?_
                      have J237 : ∀ (lo : Int64) (hi : Int64) (T_J237 : State) (h_J237 : Heap), Stn p l e room_1 s m #[(.int p1), (.int p2), (.int p3), (.int p4), (.int p5)] below meth c n0 T_J237 h_J237 2 10 → n0 ≤ h_J237.size → (lo.toInt = (if effL.toInt < 0 then -2147483648 else effL.toInt)) → (hi.toInt = (if effL.toInt < 0 then 2147483647 else effL.toInt)) → Go p e below (PostW s n0 room_1.cells room_1.slots (Q0 Z n0 h0 p1 p2 p3 p4 p5 ws0)) T_J237 (mkF m 237 #[.val (.int p1), .val (.int p2), .val (.int p3), .val (.int p4), .val (.int p5), .val (.int s1), .val (.int s2), .val (.int s3), .val (.int effL), .val (.int effMn), .val (.int effMx), .val (.int (p5 &&& (3 : Int32))), .val (.int ((((p5.toUInt32 >>> ((2 : Int32) &&& 31).toUInt32).toInt32) &&& (3 : Int32)) - (1 : Int32))), .val (.int cnt), .val (.ref of), .val (.int ra), .val (.long lo), .second, .val (.long hi), .second, .unset] []) := by
                        intro lo hi T_J237 h_J237 X_J237 sz_J237 hlo hhi
                        refine Go.st (T' := T_J237) (g' := (mkF m 239 #[.val (.int p1), .val (.int p2), .val (.int p3), .val (.int p4), .val (.int p5), .val (.int s1), .val (.int s2), .val (.int s3), .val (.int effL), .val (.int effMn), .val (.int effMx), .val (.int (p5 &&& (3 : Int32))), .val (.int ((((p5.toUInt32 >>> ((2 : Int32) &&& 31).toUInt32).toInt32) &&& (3 : Int32)) - (1 : Int32))), .val (.int cnt), .val (.ref of), .val (.int ra), .val (.long lo), .second, .val (.long hi), .second, .unset] [(.int effMn)])) (fun t_ k_ => XS.iload X_J237.here hx rfl (hb hby at_237) rfl k_) ?_
                        have J252 : ∀ (lo2 : Int64) (T_J252 : State) (h_J252 : Heap), Stn p l e room_1 s m #[(.int p1), (.int p2), (.int p3), (.int p4), (.int p5)] below meth c n0 T_J252 h_J252 2 10 → n0 ≤ h_J252.size → (lo2.toInt = (if effMn.toInt < 0 then lo.toInt else if lo.toInt < effMn.toInt then effMn.toInt else lo.toInt)) → Go p e below (PostW s n0 room_1.cells room_1.slots (Q0 Z n0 h0 p1 p2 p3 p4 p5 ws0)) T_J252 (mkF m 252 #[.val (.int p1), .val (.int p2), .val (.int p3), .val (.int p4), .val (.int p5), .val (.int s1), .val (.int s2), .val (.int s3), .val (.int effL), .val (.int effMn), .val (.int effMx), .val (.int (p5 &&& (3 : Int32))), .val (.int ((((p5.toUInt32 >>> ((2 : Int32) &&& 31).toUInt32).toInt32) &&& (3 : Int32)) - (1 : Int32))), .val (.int cnt), .val (.ref of), .val (.int ra), .val (.long lo2), .second, .val (.long hi), .second, .unset] []) := by
                          intro lo2 T_J252 h_J252 X_J252 sz_J252 hlo2
                          refine Go.st (T' := T_J252) (g' := (mkF m 254 #[.val (.int p1), .val (.int p2), .val (.int p3), .val (.int p4), .val (.int p5), .val (.int s1), .val (.int s2), .val (.int s3), .val (.int effL), .val (.int effMn), .val (.int effMx), .val (.int (p5 &&& (3 : Int32))), .val (.int ((((p5.toUInt32 >>> ((2 : Int32) &&& 31).toUInt32).toInt32) &&& (3 : Int32)) - (1 : Int32))), .val (.int cnt), .val (.ref of), .val (.int ra), .val (.long lo2), .second, .val (.long hi), .second, .unset] [(.int effMx)])) (fun t_ k_ => XS.iload X_J252.here hx rfl (hb hby at_252) rfl k_) ?_
                          have J267 : ∀ (hi2 : Int64) (T_J267 : State) (h_J267 : Heap), Stn p l e room_1 s m #[(.int p1), (.int p2), (.int p3), (.int p4), (.int p5)] below meth c n0 T_J267 h_J267 2 10 → n0 ≤ h_J267.size → (hi2.toInt = (if effMx.toInt < 0 then hi.toInt else if effMx.toInt < hi.toInt then effMx.toInt else hi.toInt)) → Go p e below (PostW s n0 room_1.cells room_1.slots (Q0 Z n0 h0 p1 p2 p3 p4 p5 ws0)) T_J267 (mkF m 267 #[.val (.int p1), .val (.int p2), .val (.int p3), .val (.int p4), .val (.int p5), .val (.int s1), .val (.int s2), .val (.int s3), .val (.int effL), .val (.int effMn), .val (.int effMx), .val (.int (p5 &&& (3 : Int32))), .val (.int ((((p5.toUInt32 >>> ((2 : Int32) &&& 31).toUInt32).toInt32) &&& (3 : Int32)) - (1 : Int32))), .val (.int cnt), .val (.ref of), .val (.int ra), .val (.long lo2), .second, .val (.long hi2), .second, .unset] []) := by
                            intro hi2 T_J267 h_J267 X_J267 sz_J267 hhi2
                            refine Go.st (T' := T_J267) (g' := (mkF m 269 #[.val (.int p1), .val (.int p2), .val (.int p3), .val (.int p4), .val (.int p5), .val (.int s1), .val (.int s2), .val (.int s3), .val (.int effL), .val (.int effMn), .val (.int effMx), .val (.int (p5 &&& (3 : Int32))), .val (.int ((((p5.toUInt32 >>> ((2 : Int32) &&& 31).toUInt32).toInt32) &&& (3 : Int32)) - (1 : Int32))), .val (.int cnt), .val (.ref of), .val (.int ra), .val (.long lo2), .second, .val (.long hi2), .second, .unset] [(.long lo2)])) (fun t_ k_ => XS.lload X_J267.here hx rfl (hb hby at_267) rfl k_) ?_
                            refine Go.st (T' := T_J267) (g' := (mkF m 271 #[.val (.int p1), .val (.int p2), .val (.int p3), .val (.int p4), .val (.int p5), .val (.int s1), .val (.int s2), .val (.int s3), .val (.int effL), .val (.int effMn), .val (.int effMx), .val (.int (p5 &&& (3 : Int32))), .val (.int ((((p5.toUInt32 >>> ((2 : Int32) &&& 31).toUInt32).toInt32) &&& (3 : Int32)) - (1 : Int32))), .val (.int cnt), .val (.ref of), .val (.int ra), .val (.long lo2), .second, .val (.long hi2), .second, .unset] [(.int cnt), (.long lo2)])) (fun t_ k_ => XS.iload X_J267.here hx rfl (hb hby at_269) rfl k_) ?_
                            refine Go.st (T' := T_J267) (g' := (mkF m 272 #[.val (.int p1), .val (.int p2), .val (.int p3), .val (.int p4), .val (.int p5), .val (.int s1), .val (.int s2), .val (.int s3), .val (.int effL), .val (.int effMn), .val (.int effMx), .val (.int (p5 &&& (3 : Int32))), .val (.int ((((p5.toUInt32 >>> ((2 : Int32) &&& 31).toUInt32).toInt32) &&& (3 : Int32)) - (1 : Int32))), .val (.int cnt), .val (.ref of), .val (.int ra), .val (.long lo2), .second, .val (.long hi2), .second, .unset] [(.long (cnt.toInt64)), (.long lo2)])) (fun t_ k_ => XS.i2l X_J267.here hx rfl (hb hby at_271) rfl k_) ?_
                            refine Go.st (T' := T_J267) (g' := (mkF m 273 #[.val (.int p1), .val (.int p2), .val (.int p3), .val (.int p4), .val (.int p5), .val (.int s1), .val (.int s2), .val (.int s3), .val (.int effL), .val (.int effMn), .val (.int effMx), .val (.int (p5 &&& (3 : Int32))), .val (.int ((((p5.toUInt32 >>> ((2 : Int32) &&& 31).toUInt32).toInt32) &&& (3 : Int32)) - (1 : Int32))), .val (.int cnt), .val (.ref of), .val (.int ra), .val (.long lo2), .second, .val (.long hi2), .second, .unset] [(.int (lcmpW lo2 (cnt.toInt64)))])) (fun t_ k_ => XS.lcmp X_J267.here hx rfl (hb hby at_272) rfl k_) ?_
                            have J290_11 : ∀ (ex : Int32), ex = (if (cnt.toInt64) < lo2 then (0 : Int32) else (if hi2 < (cnt.toInt64) then (0 : Int32) else (1 : Int32))) → Go p e below (PostW s n0 room_1.cells room_1.slots (Q0 Z n0 h0 p1 p2 p3 p4 p5 ws0)) T_J267 (mkF m 290 #[.val (.int p1), .val (.int p2), .val (.int p3), .val (.int p4), .val (.int p5), .val (.int s1), .val (.int s2), .val (.int s3), .val (.int effL), .val (.int effMn), .val (.int effMx), .val (.int (p5 &&& (3 : Int32))), .val (.int ((((p5.toUInt32 >>> ((2 : Int32) &&& 31).toUInt32).toInt32) &&& (3 : Int32)) - (1 : Int32))), .val (.int cnt), .val (.ref of), .val (.int ra), .val (.long lo2), .second, .val (.long hi2), .second, .unset] [(.int ex)]) := by
                              intro ex h_ex
                              refine Go.st (T' := T_J267) (g' := (mkF m 292 #[.val (.int p1), .val (.int p2), .val (.int p3), .val (.int p4), .val (.int p5), .val (.int s1), .val (.int s2), .val (.int s3), .val (.int effL), .val (.int effMn), .val (.int effMx), .val (.int (p5 &&& (3 : Int32))), .val (.int ((((p5.toUInt32 >>> ((2 : Int32) &&& 31).toUInt32).toInt32) &&& (3 : Int32)) - (1 : Int32))), .val (.int cnt), .val (.ref of), .val (.int ra), .val (.long lo2), .second, .val (.long hi2), .second, .val (.int ex)] [])) (fun t_ k_ => XS.istore X_J267.here hx rfl (hb hby at_290) rfl (l' := #[.val (.int p1), .val (.int p2), .val (.int p3), .val (.int p4), .val (.int p5), .val (.int s1), .val (.int s2), .val (.int s3), .val (.int effL), .val (.int effMn), .val (.int effMx), .val (.int (p5 &&& (3 : Int32))), .val (.int ((((p5.toUInt32 >>> ((2 : Int32) &&& 31).toUInt32).toInt32) &&& (3 : Int32)) - (1 : Int32))), .val (.int cnt), .val (.ref of), .val (.int ra), .val (.long lo2), .second, .val (.long hi2), .second, .val (.int ex)]) rfl k_) ?_
                              refine Go.st (T' := T_J267) (g' := (mkF m 294 #[.val (.int p1), .val (.int p2), .val (.int p3), .val (.int p4), .val (.int p5), .val (.int s1), .val (.int s2), .val (.int s3), .val (.int effL), .val (.int effMn), .val (.int effMx), .val (.int (p5 &&& (3 : Int32))), .val (.int ((((p5.toUInt32 >>> ((2 : Int32) &&& 31).toUInt32).toInt32) &&& (3 : Int32)) - (1 : Int32))), .val (.int cnt), .val (.ref of), .val (.int ra), .val (.long lo2), .second, .val (.long hi2), .second, .val (.int ex)] [(.int ra)])) (fun t_ k_ => XS.iload X_J267.here hx rfl (hb hby at_292) rfl k_) ?_
                              refine Go.st (T' := T_J267) (g' := (mkF m 296 #[.val (.int p1), .val (.int p2), .val (.int p3), .val (.int p4), .val (.int p5), .val (.int s1), .val (.int s2), .val (.int s3), .val (.int effL), .val (.int effMn), .val (.int effMx), .val (.int (p5 &&& (3 : Int32))), .val (.int ((((p5.toUInt32 >>> ((2 : Int32) &&& 31).toUInt32).toInt32) &&& (3 : Int32)) - (1 : Int32))), .val (.int cnt), .val (.ref of), .val (.int ra), .val (.long lo2), .second, .val (.long hi2), .second, .val (.int ex)] [(.int ex), (.int ra)])) (fun t_ k_ => XS.iload X_J267.here hx rfl (hb hby at_294) rfl k_) ?_
                              have hc296 : ra = ex := own_is_eq tr (own_isx h_ex) (by rw [hz1_193, hz2_193, hz3_193]; exact own_fin hlo hhi hlo2 hhi2)
                              refine Go.st (T' := T_J267) (g' := (mkF m 299 #[.val (.int p1), .val (.int p2), .val (.int p3), .val (.int p4), .val (.int p5), .val (.int s1), .val (.int s2), .val (.int s3), .val (.int effL), .val (.int effMn), .val (.int effMx), .val (.int (p5 &&& (3 : Int32))), .val (.int ((((p5.toUInt32 >>> ((2 : Int32) &&& 31).toUInt32).toInt32) &&& (3 : Int32)) - (1 : Int32))), .val (.int cnt), .val (.ref of), .val (.int ra), .val (.long lo2), .second, .val (.long hi2), .second, .val (.int ex)] [])) (fun t_ k_ => XS.icmpNo X_J267.here hx rfl (hb hby at_296) rfl (teq hc296).2 k_) ?_
                              refine Go.st (T' := T_J267) (g' := (mkF m 300 #[.val (.int p1), .val (.int p2), .val (.int p3), .val (.int p4), .val (.int p5), .val (.int s1), .val (.int s2), .val (.int s3), .val (.int effL), .val (.int effMn), .val (.int effMx), .val (.int (p5 &&& (3 : Int32))), .val (.int ((((p5.toUInt32 >>> ((2 : Int32) &&& 31).toUInt32).toInt32) &&& (3 : Int32)) - (1 : Int32))), .val (.int cnt), .val (.ref of), .val (.int ra), .val (.long lo2), .second, .val (.long hi2), .second, .val (.int ex)] [(.int (1 : Int32))])) (fun t_ k_ => XS.iconst X_J267.here hx rfl (hb hby at_299) k_) ?_
                              refine Go.st (T' := T_J267) (g' := (mkF m 304 #[.val (.int p1), .val (.int p2), .val (.int p3), .val (.int p4), .val (.int p5), .val (.int s1), .val (.int s2), .val (.int s3), .val (.int effL), .val (.int effMn), .val (.int effMx), .val (.int (p5 &&& (3 : Int32))), .val (.int ((((p5.toUInt32 >>> ((2 : Int32) &&& 31).toUInt32).toInt32) &&& (3 : Int32)) - (1 : Int32))), .val (.int cnt), .val (.ref of), .val (.int ra), .val (.long lo2), .second, .val (.long hi2), .second, .val (.int ex)] [(.int (1 : Int32))])) (fun t_ k_ => XS.goto X_J267.here hx rfl (pc0 := 300) (pc' := 304) rfl (hb hby at_300) (by decide) (by decide) k_) ?_
                              refine goRetZ X_J267 hx hlk hret (hb hby at_304) (by decide) (by decide) (Or.inr rfl) ?_
                              exact rfl
                            by_cases hc273 : (cnt.toInt64) < lo2
                            · skip
                              refine Go.st (T' := T_J267) (g' := (mkF m 289 #[.val (.int p1), .val (.int p2), .val (.int p3), .val (.int p4), .val (.int p5), .val (.int s1), .val (.int s2), .val (.int s3), .val (.int effL), .val (.int effMn), .val (.int effMx), .val (.int (p5 &&& (3 : Int32))), .val (.int ((((p5.toUInt32 >>> ((2 : Int32) &&& 31).toUInt32).toInt32) &&& (3 : Int32)) - (1 : Int32))), .val (.int cnt), .val (.ref of), .val (.int ra), .val (.long lo2), .second, .val (.long hi2), .second, .unset] [])) (fun t_ k_ => XS.ifYes X_J267.here hx rfl (pc0 := 273) (pc' := 289) rfl (hb hby at_273) rfl (lcTgt hc273).1 (by decide) (by decide) k_) ?_
                              refine Go.st (T' := T_J267) (g' := (mkF m 290 #[.val (.int p1), .val (.int p2), .val (.int p3), .val (.int p4), .val (.int p5), .val (.int s1), .val (.int s2), .val (.int s3), .val (.int effL), .val (.int effMn), .val (.int effMx), .val (.int (p5 &&& (3 : Int32))), .val (.int ((((p5.toUInt32 >>> ((2 : Int32) &&& 31).toUInt32).toInt32) &&& (3 : Int32)) - (1 : Int32))), .val (.int cnt), .val (.ref of), .val (.int ra), .val (.long lo2), .second, .val (.long hi2), .second, .unset] [(.int (0 : Int32))])) (fun t_ k_ => XS.iconst X_J267.here hx rfl (hb hby at_289) k_) ?_
                              exact J290_11 (0 : Int32) (by rw [if_pos hc273])
                            · skip
                              refine Go.st (T' := T_J267) (g' := (mkF m 276 #[.val (.int p1), .val (.int p2), .val (.int p3), .val (.int p4), .val (.int p5), .val (.int s1), .val (.int s2), .val (.int s3), .val (.int effL), .val (.int effMn), .val (.int effMx), .val (.int (p5 &&& (3 : Int32))), .val (.int ((((p5.toUInt32 >>> ((2 : Int32) &&& 31).toUInt32).toInt32) &&& (3 : Int32)) - (1 : Int32))), .val (.int cnt), .val (.ref of), .val (.int ra), .val (.long lo2), .second, .val (.long hi2), .second, .unset] [])) (fun t_ k_ => XS.ifNo X_J267.here hx rfl (hb hby at_273) rfl (lcFgt hc273).1 k_) ?_
                              refine Go.st (T' := T_J267) (g' := (mkF m 278 #[.val (.int p1), .val (.int p2), .val (.int p3), .val (.int p4), .val (.int p5), .val (.int s1), .val (.int s2), .val (.int s3), .val (.int effL), .val (.int effMn), .val (.int effMx), .val (.int (p5 &&& (3 : Int32))), .val (.int ((((p5.toUInt32 >>> ((2 : Int32) &&& 31).toUInt32).toInt32) &&& (3 : Int32)) - (1 : Int32))), .val (.int cnt), .val (.ref of), .val (.int ra), .val (.long lo2), .second, .val (.long hi2), .second, .unset] [(.int cnt)])) (fun t_ k_ => XS.iload X_J267.here hx rfl (hb hby at_276) rfl k_) ?_
                              refine Go.st (T' := T_J267) (g' := (mkF m 279 #[.val (.int p1), .val (.int p2), .val (.int p3), .val (.int p4), .val (.int p5), .val (.int s1), .val (.int s2), .val (.int s3), .val (.int effL), .val (.int effMn), .val (.int effMx), .val (.int (p5 &&& (3 : Int32))), .val (.int ((((p5.toUInt32 >>> ((2 : Int32) &&& 31).toUInt32).toInt32) &&& (3 : Int32)) - (1 : Int32))), .val (.int cnt), .val (.ref of), .val (.int ra), .val (.long lo2), .second, .val (.long hi2), .second, .unset] [(.long (cnt.toInt64))])) (fun t_ k_ => XS.i2l X_J267.here hx rfl (hb hby at_278) rfl k_) ?_
                              refine Go.st (T' := T_J267) (g' := (mkF m 281 #[.val (.int p1), .val (.int p2), .val (.int p3), .val (.int p4), .val (.int p5), .val (.int s1), .val (.int s2), .val (.int s3), .val (.int effL), .val (.int effMn), .val (.int effMx), .val (.int (p5 &&& (3 : Int32))), .val (.int ((((p5.toUInt32 >>> ((2 : Int32) &&& 31).toUInt32).toInt32) &&& (3 : Int32)) - (1 : Int32))), .val (.int cnt), .val (.ref of), .val (.int ra), .val (.long lo2), .second, .val (.long hi2), .second, .unset] [(.long hi2), (.long (cnt.toInt64))])) (fun t_ k_ => XS.lload X_J267.here hx rfl (hb hby at_279) rfl k_) ?_
                              refine Go.st (T' := T_J267) (g' := (mkF m 282 #[.val (.int p1), .val (.int p2), .val (.int p3), .val (.int p4), .val (.int p5), .val (.int s1), .val (.int s2), .val (.int s3), .val (.int effL), .val (.int effMn), .val (.int effMx), .val (.int (p5 &&& (3 : Int32))), .val (.int ((((p5.toUInt32 >>> ((2 : Int32) &&& 31).toUInt32).toInt32) &&& (3 : Int32)) - (1 : Int32))), .val (.int cnt), .val (.ref of), .val (.int ra), .val (.long lo2), .second, .val (.long hi2), .second, .unset] [(.int (lcmpW (cnt.toInt64) hi2))])) (fun t_ k_ => XS.lcmp X_J267.here hx rfl (hb hby at_281) rfl k_) ?_
                              by_cases hc282 : hi2 < (cnt.toInt64)
                              · skip
                                refine Go.st (T' := T_J267) (g' := (mkF m 289 #[.val (.int p1), .val (.int p2), .val (.int p3), .val (.int p4), .val (.int p5), .val (.int s1), .val (.int s2), .val (.int s3), .val (.int effL), .val (.int effMn), .val (.int effMx), .val (.int (p5 &&& (3 : Int32))), .val (.int ((((p5.toUInt32 >>> ((2 : Int32) &&& 31).toUInt32).toInt32) &&& (3 : Int32)) - (1 : Int32))), .val (.int cnt), .val (.ref of), .val (.int ra), .val (.long lo2), .second, .val (.long hi2), .second, .unset] [])) (fun t_ k_ => XS.ifYes X_J267.here hx rfl (pc0 := 282) (pc' := 289) rfl (hb hby at_282) rfl (lcTgt hc282).1 (by decide) (by decide) k_) ?_
                                refine Go.st (T' := T_J267) (g' := (mkF m 290 #[.val (.int p1), .val (.int p2), .val (.int p3), .val (.int p4), .val (.int p5), .val (.int s1), .val (.int s2), .val (.int s3), .val (.int effL), .val (.int effMn), .val (.int effMx), .val (.int (p5 &&& (3 : Int32))), .val (.int ((((p5.toUInt32 >>> ((2 : Int32) &&& 31).toUInt32).toInt32) &&& (3 : Int32)) - (1 : Int32))), .val (.int cnt), .val (.ref of), .val (.int ra), .val (.long lo2), .second, .val (.long hi2), .second, .unset] [(.int (0 : Int32))])) (fun t_ k_ => XS.iconst X_J267.here hx rfl (hb hby at_289) k_) ?_
                                exact J290_11 (0 : Int32) (by rw [if_neg hc273, if_pos hc282])
                              · skip
                                refine Go.st (T' := T_J267) (g' := (mkF m 285 #[.val (.int p1), .val (.int p2), .val (.int p3), .val (.int p4), .val (.int p5), .val (.int s1), .val (.int s2), .val (.int s3), .val (.int effL), .val (.int effMn), .val (.int effMx), .val (.int (p5 &&& (3 : Int32))), .val (.int ((((p5.toUInt32 >>> ((2 : Int32) &&& 31).toUInt32).toInt32) &&& (3 : Int32)) - (1 : Int32))), .val (.int cnt), .val (.ref of), .val (.int ra), .val (.long lo2), .second, .val (.long hi2), .second, .unset] [])) (fun t_ k_ => XS.ifNo X_J267.here hx rfl (hb hby at_282) rfl (lcFgt hc282).1 k_) ?_
                                refine Go.st (T' := T_J267) (g' := (mkF m 286 #[.val (.int p1), .val (.int p2), .val (.int p3), .val (.int p4), .val (.int p5), .val (.int s1), .val (.int s2), .val (.int s3), .val (.int effL), .val (.int effMn), .val (.int effMx), .val (.int (p5 &&& (3 : Int32))), .val (.int ((((p5.toUInt32 >>> ((2 : Int32) &&& 31).toUInt32).toInt32) &&& (3 : Int32)) - (1 : Int32))), .val (.int cnt), .val (.ref of), .val (.int ra), .val (.long lo2), .second, .val (.long hi2), .second, .unset] [(.int (1 : Int32))])) (fun t_ k_ => XS.iconst X_J267.here hx rfl (hb hby at_285) k_) ?_
                                refine Go.st (T' := T_J267) (g' := (mkF m 290 #[.val (.int p1), .val (.int p2), .val (.int p3), .val (.int p4), .val (.int p5), .val (.int s1), .val (.int s2), .val (.int s3), .val (.int effL), .val (.int effMn), .val (.int effMx), .val (.int (p5 &&& (3 : Int32))), .val (.int ((((p5.toUInt32 >>> ((2 : Int32) &&& 31).toUInt32).toInt32) &&& (3 : Int32)) - (1 : Int32))), .val (.int cnt), .val (.ref of), .val (.int ra), .val (.long lo2), .second, .val (.long hi2), .second, .unset] [(.int (1 : Int32))])) (fun t_ k_ => XS.goto X_J267.here hx rfl (pc0 := 286) (pc' := 290) rfl (hb hby at_286) (by decide) (by decide) k_) ?_
                                exact J290_11 (1 : Int32) (by rw [if_neg hc273, if_neg hc282])
                          by_cases hc254 : effMx < (0 : Int32)
                          · skip
                            refine Go.st (T' := T_J252) (g' := (mkF m 267 #[.val (.int p1), .val (.int p2), .val (.int p3), .val (.int p4), .val (.int p5), .val (.int s1), .val (.int s2), .val (.int s3), .val (.int effL), .val (.int effMn), .val (.int effMx), .val (.int (p5 &&& (3 : Int32))), .val (.int ((((p5.toUInt32 >>> ((2 : Int32) &&& 31).toUInt32).toInt32) &&& (3 : Int32)) - (1 : Int32))), .val (.int cnt), .val (.ref of), .val (.int ra), .val (.long lo2), .second, .val (.long hi), .second, .unset] [])) (fun t_ k_ => XS.ifYes X_J252.here hx rfl (pc0 := 254) (pc' := 267) rfl (hb hby at_254) rfl ((if0 _ _).trans (tlt hc254).1) (by decide) (by decide) k_) ?_
                            exact J267 hi T_J252 h_J252 (X_J252.mono (by decide) (by decide)) sz_J252 (by simp only [Int32.lt_iff_toInt_lt, Int64.lt_iff_toInt_lt, Jvm.Kit.i64_of_i32, ← Int64.toInt_inj, Int32.reduceToInt, Int64.reduceToInt] at *; (repeat' split) <;> omega)
                          · skip
                            refine Go.st (T' := T_J252) (g' := (mkF m 257 #[.val (.int p1), .val (.int p2), .val (.int p3), .val (.int p4), .val (.int p5), .val (.int s1), .val (.int s2), .val (.int s3), .val (.int effL), .val (.int effMn), .val (.int effMx), .val (.int (p5 &&& (3 : Int32))), .val (.int ((((p5.toUInt32 >>> ((2 : Int32) &&& 31).toUInt32).toInt32) &&& (3 : Int32)) - (1 : Int32))), .val (.int cnt), .val (.ref of), .val (.int ra), .val (.long lo2), .second, .val (.long hi), .second, .unset] [])) (fun t_ k_ => XS.ifNo X_J252.here hx rfl (hb hby at_254) rfl ((if0 _ _).trans (flt hc254).1) k_) ?_
                            refine Go.st (T' := T_J252) (g' := (mkF m 259 #[.val (.int p1), .val (.int p2), .val (.int p3), .val (.int p4), .val (.int p5), .val (.int s1), .val (.int s2), .val (.int s3), .val (.int effL), .val (.int effMn), .val (.int effMx), .val (.int (p5 &&& (3 : Int32))), .val (.int ((((p5.toUInt32 >>> ((2 : Int32) &&& 31).toUInt32).toInt32) &&& (3 : Int32)) - (1 : Int32))), .val (.int cnt), .val (.ref of), .val (.int ra), .val (.long lo2), .second, .val (.long hi), .second, .unset] [(.long hi)])) (fun t_ k_ => XS.lload X_J252.here hx rfl (hb hby at_257) rfl k_) ?_
                            refine Go.st (T' := T_J252) (g' := (mkF m 261 #[.val (.int p1), .val (.int p2), .val (.int p3), .val (.int p4), .val (.int p5), .val (.int s1), .val (.int s2), .val (.int s3), .val (.int effL), .val (.int effMn), .val (.int effMx), .val (.int (p5 &&& (3 : Int32))), .val (.int ((((p5.toUInt32 >>> ((2 : Int32) &&& 31).toUInt32).toInt32) &&& (3 : Int32)) - (1 : Int32))), .val (.int cnt), .val (.ref of), .val (.int ra), .val (.long lo2), .second, .val (.long hi), .second, .unset] [(.int effMx), (.long hi)])) (fun t_ k_ => XS.iload X_J252.here hx rfl (hb hby at_259) rfl k_) ?_
                            refine Go.st (T' := T_J252) (g' := (mkF m 262 #[.val (.int p1), .val (.int p2), .val (.int p3), .val (.int p4), .val (.int p5), .val (.int s1), .val (.int s2), .val (.int s3), .val (.int effL), .val (.int effMn), .val (.int effMx), .val (.int (p5 &&& (3 : Int32))), .val (.int ((((p5.toUInt32 >>> ((2 : Int32) &&& 31).toUInt32).toInt32) &&& (3 : Int32)) - (1 : Int32))), .val (.int cnt), .val (.ref of), .val (.int ra), .val (.long lo2), .second, .val (.long hi), .second, .unset] [(.long (effMx.toInt64)), (.long hi)])) (fun t_ k_ => XS.i2l X_J252.here hx rfl (hb hby at_261) rfl k_) ?_
                            refine goStatic X_J252 hx hZ (y := (⟨"java/lang/Math", "min", "(JJ)J"⟩ : MethodName)) hown (hw _ (List.mem_of_getElem? (i := 67) rfl)) (hw _ (List.mem_of_getElem? (i := 68) rfl)) (hw _ (List.mem_of_getElem? (i := 55) rfl)) (hw _ (List.mem_of_getElem? (i := 69) rfl)) (by decide) (rm11 l Z a0 hw [] n0 h_J252 hi (effMx.toInt64) sz_J252) 0 (by decide) (by decide) (by rw [hml]; rfl) [(.long hi), (.long (effMx.toInt64))] [] (lenOf pd_6c7814f2 rfl) rfl rfl rfl (hb hby at_262) (by decide) (by decide) fun v12 T12 h12 X12 hq12 => ?_
                            obtain ⟨md, rfl, eh12, td⟩ := hq12
                            rw [eh12] at X12
                            show Go p e below _ T12 (mkF m 265 #[.val (.int p1), .val (.int p2), .val (.int p3), .val (.int p4), .val (.int p5), .val (.int s1), .val (.int s2), .val (.int s3), .val (.int effL), .val (.int effMn), .val (.int effMx), .val (.int (p5 &&& (3 : Int32))), .val (.int ((((p5.toUInt32 >>> ((2 : Int32) &&& 31).toUInt32).toInt32) &&& (3 : Int32)) - (1 : Int32))), .val (.int cnt), .val (.ref of), .val (.int ra), .val (.long lo2), .second, .val (.long hi), .second, .unset] [(.long md)])
                            refine Go.st (T' := T12) (g' := (mkF m 267 #[.val (.int p1), .val (.int p2), .val (.int p3), .val (.int p4), .val (.int p5), .val (.int s1), .val (.int s2), .val (.int s3), .val (.int effL), .val (.int effMn), .val (.int effMx), .val (.int (p5 &&& (3 : Int32))), .val (.int ((((p5.toUInt32 >>> ((2 : Int32) &&& 31).toUInt32).toInt32) &&& (3 : Int32)) - (1 : Int32))), .val (.int cnt), .val (.ref of), .val (.int ra), .val (.long lo2), .second, .val (.long md), .second, .unset] [])) (fun t_ k_ => XS.lstore X12.here hx rfl (hb hby at_265) rfl (l' := #[.val (.int p1), .val (.int p2), .val (.int p3), .val (.int p4), .val (.int p5), .val (.int s1), .val (.int s2), .val (.int s3), .val (.int effL), .val (.int effMn), .val (.int effMx), .val (.int (p5 &&& (3 : Int32))), .val (.int ((((p5.toUInt32 >>> ((2 : Int32) &&& 31).toUInt32).toInt32) &&& (3 : Int32)) - (1 : Int32))), .val (.int cnt), .val (.ref of), .val (.int ra), .val (.long lo2), .second, .val (.long md), .second, .unset]) rfl k_) ?_
                            exact J267 md T12 h_J252 (X12.mono (by decide) (by decide)) sz_J252 (by rcases td with ⟨rfl, z⟩ | ⟨rfl, z⟩ <;> simp only [Int32.lt_iff_toInt_lt, Int64.lt_iff_toInt_lt, Jvm.Kit.i64_of_i32, ← Int64.toInt_inj, Int32.reduceToInt, Int64.reduceToInt] at * <;> (repeat' split) <;> omega)
                        by_cases hc239 : effMn < (0 : Int32)
                        · skip
                          refine Go.st (T' := T_J237) (g' := (mkF m 252 #[.val (.int p1), .val (.int p2), .val (.int p3), .val (.int p4), .val (.int p5), .val (.int s1), .val (.int s2), .val (.int s3), .val (.int effL), .val (.int effMn), .val (.int effMx), .val (.int (p5 &&& (3 : Int32))), .val (.int ((((p5.toUInt32 >>> ((2 : Int32) &&& 31).toUInt32).toInt32) &&& (3 : Int32)) - (1 : Int32))), .val (.int cnt), .val (.ref of), .val (.int ra), .val (.long lo), .second, .val (.long hi), .second, .unset] [])) (fun t_ k_ => XS.ifYes X_J237.here hx rfl (pc0 := 239) (pc' := 252) rfl (hb hby at_239) rfl ((if0 _ _).trans (tlt hc239).1) (by decide) (by decide) k_) ?_
                          exact J252 lo T_J237 h_J237 (X_J237.mono (by decide) (by decide)) sz_J237 (by simp only [Int32.lt_iff_toInt_lt, Int64.lt_iff_toInt_lt, Jvm.Kit.i64_of_i32, ← Int64.toInt_inj, Int32.reduceToInt, Int64.reduceToInt] at *; (repeat' split) <;> omega)
                        · skip
                          refine Go.st (T' := T_J237) (g' := (mkF m 242 #[.val (.int p1), .val (.int p2), .val (.int p3), .val (.int p4), .val (.int p5), .val (.int s1), .val (.int s2), .val (.int s3), .val (.int effL), .val (.int effMn), .val (.int effMx), .val (.int (p5 &&& (3 : Int32))), .val (.int ((((p5.toUInt32 >>> ((2 : Int32) &&& 31).toUInt32).toInt32) &&& (3 : Int32)) - (1 : Int32))), .val (.int cnt), .val (.ref of), .val (.int ra), .val (.long lo), .second, .val (.long hi), .second, .unset] [])) (fun t_ k_ => XS.ifNo X_J237.here hx rfl (hb hby at_239) rfl ((if0 _ _).trans (flt hc239).1) k_) ?_
                          refine Go.st (T' := T_J237) (g' := (mkF m 244 #[.val (.int p1), .val (.int p2), .val (.int p3), .val (.int p4), .val (.int p5), .val (.int s1), .val (.int s2), .val (.int s3), .val (.int effL), .val (.int effMn), .val (.int effMx), .val (.int (p5 &&& (3 : Int32))), .val (.int ((((p5.toUInt32 >>> ((2 : Int32) &&& 31).toUInt32).toInt32) &&& (3 : Int32)) - (1 : Int32))), .val (.int cnt), .val (.ref of), .val (.int ra), .val (.long lo), .second, .val (.long hi), .second, .unset] [(.long lo)])) (fun t_ k_ => XS.lload X_J237.here hx rfl (hb hby at_242) rfl k_) ?_
                          refine Go.st (T' := T_J237) (g' := (mkF m 246 #[.val (.int p1), .val (.int p2), .val (.int p3), .val (.int p4), .val (.int p5), .val (.int s1), .val (.int s2), .val (.int s3), .val (.int effL), .val (.int effMn), .val (.int effMx), .val (.int (p5 &&& (3 : Int32))), .val (.int ((((p5.toUInt32 >>> ((2 : Int32) &&& 31).toUInt32).toInt32) &&& (3 : Int32)) - (1 : Int32))), .val (.int cnt), .val (.ref of), .val (.int ra), .val (.long lo), .second, .val (.long hi), .second, .unset] [(.int effMn), (.long lo)])) (fun t_ k_ => XS.iload X_J237.here hx rfl (hb hby at_244) rfl k_) ?_
                          refine Go.st (T' := T_J237) (g' := (mkF m 247 #[.val (.int p1), .val (.int p2), .val (.int p3), .val (.int p4), .val (.int p5), .val (.int s1), .val (.int s2), .val (.int s3), .val (.int effL), .val (.int effMn), .val (.int effMx), .val (.int (p5 &&& (3 : Int32))), .val (.int ((((p5.toUInt32 >>> ((2 : Int32) &&& 31).toUInt32).toInt32) &&& (3 : Int32)) - (1 : Int32))), .val (.int cnt), .val (.ref of), .val (.int ra), .val (.long lo), .second, .val (.long hi), .second, .unset] [(.long (effMn.toInt64)), (.long lo)])) (fun t_ k_ => XS.i2l X_J237.here hx rfl (hb hby at_246) rfl k_) ?_
                          refine goStatic X_J237 hx hZ (y := (⟨"java/lang/Math", "max", "(JJ)J"⟩ : MethodName)) hown (hw _ (List.mem_of_getElem? (i := 53) rfl)) (hw _ (List.mem_of_getElem? (i := 54) rfl)) (hw _ (List.mem_of_getElem? (i := 55) rfl)) (hw _ (List.mem_of_getElem? (i := 56) rfl)) (by decide) (rm8 l Z a0 hw [] n0 h_J237 lo (effMn.toInt64) sz_J237) 0 (by decide) (by decide) (by rw [hml]; rfl) [(.long lo), (.long (effMn.toInt64))] [] (lenOf pd_6c7814f2 rfl) rfl rfl rfl (hb hby at_247) (by decide) (by decide) fun v13 T13 h13 X13 hq13 => ?_
                          obtain ⟨mc, rfl, eh13, tc⟩ := hq13
                          rw [eh13] at X13
                          show Go p e below _ T13 (mkF m 250 #[.val (.int p1), .val (.int p2), .val (.int p3), .val (.int p4), .val (.int p5), .val (.int s1), .val (.int s2), .val (.int s3), .val (.int effL), .val (.int effMn), .val (.int effMx), .val (.int (p5 &&& (3 : Int32))), .val (.int ((((p5.toUInt32 >>> ((2 : Int32) &&& 31).toUInt32).toInt32) &&& (3 : Int32)) - (1 : Int32))), .val (.int cnt), .val (.ref of), .val (.int ra), .val (.long lo), .second, .val (.long hi), .second, .unset] [(.long mc)])
                          refine Go.st (T' := T13) (g' := (mkF m 252 #[.val (.int p1), .val (.int p2), .val (.int p3), .val (.int p4), .val (.int p5), .val (.int s1), .val (.int s2), .val (.int s3), .val (.int effL), .val (.int effMn), .val (.int effMx), .val (.int (p5 &&& (3 : Int32))), .val (.int ((((p5.toUInt32 >>> ((2 : Int32) &&& 31).toUInt32).toInt32) &&& (3 : Int32)) - (1 : Int32))), .val (.int cnt), .val (.ref of), .val (.int ra), .val (.long mc), .second, .val (.long hi), .second, .unset] [])) (fun t_ k_ => XS.lstore X13.here hx rfl (hb hby at_250) rfl (l' := #[.val (.int p1), .val (.int p2), .val (.int p3), .val (.int p4), .val (.int p5), .val (.int s1), .val (.int s2), .val (.int s3), .val (.int effL), .val (.int effMn), .val (.int effMx), .val (.int (p5 &&& (3 : Int32))), .val (.int ((((p5.toUInt32 >>> ((2 : Int32) &&& 31).toUInt32).toInt32) &&& (3 : Int32)) - (1 : Int32))), .val (.int cnt), .val (.ref of), .val (.int ra), .val (.long mc), .second, .val (.long hi), .second, .unset]) rfl k_) ?_
                          exact J252 mc T13 h_J237 (X13.mono (by decide) (by decide)) sz_J237 (by rcases tc with ⟨rfl, z⟩ | ⟨rfl, z⟩ <;> simp only [Int32.lt_iff_toInt_lt, Int64.lt_iff_toInt_lt, Jvm.Kit.i64_of_i32, ← Int64.toInt_inj, Int32.reduceToInt, Int64.reduceToInt] at * <;> (repeat' split) <;> omega)
                      by_cases hc214 : effL < (0 : Int32)
                      · skip
                        refine Go.st (T' := T10) (g' := (mkF m 237 #[.val (.int p1), .val (.int p2), .val (.int p3), .val (.int p4), .val (.int p5), .val (.int s1), .val (.int s2), .val (.int s3), .val (.int effL), .val (.int effMn), .val (.int effMx), .val (.int (p5 &&& (3 : Int32))), .val (.int ((((p5.toUInt32 >>> ((2 : Int32) &&& 31).toUInt32).toInt32) &&& (3 : Int32)) - (1 : Int32))), .val (.int cnt), .val (.ref of), .val (.int ra), .val (.long (-2147483648 : Int64)), .second, .val (.long (2147483647 : Int64)), .second, .unset] [])) (fun t_ k_ => XS.ifYes X10.here hx rfl (pc0 := 214) (pc' := 237) rfl (hb hby at_214) rfl ((if0 _ _).trans (tlt hc214).1) (by decide) (by decide) k_) ?_
                        exact J237 (-2147483648 : Int64) (2147483647 : Int64) T10 h_J193 (X10.mono (by decide) (by decide)) sz_J193 (by simp only [Int32.lt_iff_toInt_lt, Int64.lt_iff_toInt_lt, Jvm.Kit.i64_of_i32, ← Int64.toInt_inj, Int32.reduceToInt, Int64.reduceToInt] at *; split <;> omega) (by simp only [Int32.lt_iff_toInt_lt, Int64.lt_iff_toInt_lt, Jvm.Kit.i64_of_i32, ← Int64.toInt_inj, Int32.reduceToInt, Int64.reduceToInt] at *; split <;> omega)
                      · skip
                        refine Go.st (T' := T10) (g' := (mkF m 217 #[.val (.int p1), .val (.int p2), .val (.int p3), .val (.int p4), .val (.int p5), .val (.int s1), .val (.int s2), .val (.int s3), .val (.int effL), .val (.int effMn), .val (.int effMx), .val (.int (p5 &&& (3 : Int32))), .val (.int ((((p5.toUInt32 >>> ((2 : Int32) &&& 31).toUInt32).toInt32) &&& (3 : Int32)) - (1 : Int32))), .val (.int cnt), .val (.ref of), .val (.int ra), .val (.long (-2147483648 : Int64)), .second, .val (.long (2147483647 : Int64)), .second, .unset] [])) (fun t_ k_ => XS.ifNo X10.here hx rfl (hb hby at_214) rfl ((if0 _ _).trans (flt hc214).1) k_) ?_
                        refine Go.st (T' := T10) (g' := (mkF m 219 #[.val (.int p1), .val (.int p2), .val (.int p3), .val (.int p4), .val (.int p5), .val (.int s1), .val (.int s2), .val (.int s3), .val (.int effL), .val (.int effMn), .val (.int effMx), .val (.int (p5 &&& (3 : Int32))), .val (.int ((((p5.toUInt32 >>> ((2 : Int32) &&& 31).toUInt32).toInt32) &&& (3 : Int32)) - (1 : Int32))), .val (.int cnt), .val (.ref of), .val (.int ra), .val (.long (-2147483648 : Int64)), .second, .val (.long (2147483647 : Int64)), .second, .unset] [(.long (-2147483648 : Int64))])) (fun t_ k_ => XS.lload X10.here hx rfl (hb hby at_217) rfl k_) ?_
                        refine Go.st (T' := T10) (g' := (mkF m 221 #[.val (.int p1), .val (.int p2), .val (.int p3), .val (.int p4), .val (.int p5), .val (.int s1), .val (.int s2), .val (.int s3), .val (.int effL), .val (.int effMn), .val (.int effMx), .val (.int (p5 &&& (3 : Int32))), .val (.int ((((p5.toUInt32 >>> ((2 : Int32) &&& 31).toUInt32).toInt32) &&& (3 : Int32)) - (1 : Int32))), .val (.int cnt), .val (.ref of), .val (.int ra), .val (.long (-2147483648 : Int64)), .second, .val (.long (2147483647 : Int64)), .second, .unset] [(.int effL), (.long (-2147483648 : Int64))])) (fun t_ k_ => XS.iload X10.here hx rfl (hb hby at_219) rfl k_) ?_
                        refine Go.st (T' := T10) (g' := (mkF m 222 #[.val (.int p1), .val (.int p2), .val (.int p3), .val (.int p4), .val (.int p5), .val (.int s1), .val (.int s2), .val (.int s3), .val (.int effL), .val (.int effMn), .val (.int effMx), .val (.int (p5 &&& (3 : Int32))), .val (.int ((((p5.toUInt32 >>> ((2 : Int32) &&& 31).toUInt32).toInt32) &&& (3 : Int32)) - (1 : Int32))), .val (.int cnt), .val (.ref of), .val (.int ra), .val (.long (-2147483648 : Int64)), .second, .val (.long (2147483647 : Int64)), .second, .unset] [(.long (effL.toInt64)), (.long (-2147483648 : Int64))])) (fun t_ k_ => XS.i2l X10.here hx rfl (hb hby at_221) rfl k_) ?_
                        refine goStatic X10 hx hZ (y := (⟨"java/lang/Math", "max", "(JJ)J"⟩ : MethodName)) hown (hw _ (List.mem_of_getElem? (i := 53) rfl)) (hw _ (List.mem_of_getElem? (i := 54) rfl)) (hw _ (List.mem_of_getElem? (i := 55) rfl)) (hw _ (List.mem_of_getElem? (i := 56) rfl)) (by decide) (rm8 l Z a0 hw [] n0 h_J193 (-2147483648 : Int64) (effL.toInt64) sz_J193) 0 (by decide) (by decide) (by rw [hml]; rfl) [(.long (-2147483648 : Int64)), (.long (effL.toInt64))] [] (lenOf pd_6c7814f2 rfl) rfl rfl rfl (hb hby at_222) (by decide) (by decide) fun v14 T14 h14 X14 hq14 => ?_
                        obtain ⟨ma, rfl, eh14, ta⟩ := hq14
                        rw [eh14] at X14
                        show Go p e below _ T14 (mkF m 225 #[.val (.int p1), .val (.int p2), .val (.int p3), .val (.int p4), .val (.int p5), .val (.int s1), .val (.int s2), .val (.int s3), .val (.int effL), .val (.int effMn), .val (.int effMx), .val (.int (p5 &&& (3 : Int32))), .val (.int ((((p5.toUInt32 >>> ((2 : Int32) &&& 31).toUInt32).toInt32) &&& (3 : Int32)) - (1 : Int32))), .val (.int cnt), .val (.ref of), .val (.int ra), .val (.long (-2147483648 : Int64)), .second, .val (.long (2147483647 : Int64)), .second, .unset] [(.long ma)])
                        refine Go.st (T' := T14) (g' := (mkF m 227 #[.val (.int p1), .val (.int p2), .val (.int p3), .val (.int p4), .val (.int p5), .val (.int s1), .val (.int s2), .val (.int s3), .val (.int effL), .val (.int effMn), .val (.int effMx), .val (.int (p5 &&& (3 : Int32))), .val (.int ((((p5.toUInt32 >>> ((2 : Int32) &&& 31).toUInt32).toInt32) &&& (3 : Int32)) - (1 : Int32))), .val (.int cnt), .val (.ref of), .val (.int ra), .val (.long ma), .second, .val (.long (2147483647 : Int64)), .second, .unset] [])) (fun t_ k_ => XS.lstore X14.here hx rfl (hb hby at_225) rfl (l' := #[.val (.int p1), .val (.int p2), .val (.int p3), .val (.int p4), .val (.int p5), .val (.int s1), .val (.int s2), .val (.int s3), .val (.int effL), .val (.int effMn), .val (.int effMx), .val (.int (p5 &&& (3 : Int32))), .val (.int ((((p5.toUInt32 >>> ((2 : Int32) &&& 31).toUInt32).toInt32) &&& (3 : Int32)) - (1 : Int32))), .val (.int cnt), .val (.ref of), .val (.int ra), .val (.long ma), .second, .val (.long (2147483647 : Int64)), .second, .unset]) rfl k_) ?_
                        refine Go.st (T' := T14) (g' := (mkF m 229 #[.val (.int p1), .val (.int p2), .val (.int p3), .val (.int p4), .val (.int p5), .val (.int s1), .val (.int s2), .val (.int s3), .val (.int effL), .val (.int effMn), .val (.int effMx), .val (.int (p5 &&& (3 : Int32))), .val (.int ((((p5.toUInt32 >>> ((2 : Int32) &&& 31).toUInt32).toInt32) &&& (3 : Int32)) - (1 : Int32))), .val (.int cnt), .val (.ref of), .val (.int ra), .val (.long ma), .second, .val (.long (2147483647 : Int64)), .second, .unset] [(.long (2147483647 : Int64))])) (fun t_ k_ => XS.lload X14.here hx rfl (hb hby at_227) rfl k_) ?_
                        refine Go.st (T' := T14) (g' := (mkF m 231 #[.val (.int p1), .val (.int p2), .val (.int p3), .val (.int p4), .val (.int p5), .val (.int s1), .val (.int s2), .val (.int s3), .val (.int effL), .val (.int effMn), .val (.int effMx), .val (.int (p5 &&& (3 : Int32))), .val (.int ((((p5.toUInt32 >>> ((2 : Int32) &&& 31).toUInt32).toInt32) &&& (3 : Int32)) - (1 : Int32))), .val (.int cnt), .val (.ref of), .val (.int ra), .val (.long ma), .second, .val (.long (2147483647 : Int64)), .second, .unset] [(.int effL), (.long (2147483647 : Int64))])) (fun t_ k_ => XS.iload X14.here hx rfl (hb hby at_229) rfl k_) ?_
                        refine Go.st (T' := T14) (g' := (mkF m 232 #[.val (.int p1), .val (.int p2), .val (.int p3), .val (.int p4), .val (.int p5), .val (.int s1), .val (.int s2), .val (.int s3), .val (.int effL), .val (.int effMn), .val (.int effMx), .val (.int (p5 &&& (3 : Int32))), .val (.int ((((p5.toUInt32 >>> ((2 : Int32) &&& 31).toUInt32).toInt32) &&& (3 : Int32)) - (1 : Int32))), .val (.int cnt), .val (.ref of), .val (.int ra), .val (.long ma), .second, .val (.long (2147483647 : Int64)), .second, .unset] [(.long (effL.toInt64)), (.long (2147483647 : Int64))])) (fun t_ k_ => XS.i2l X14.here hx rfl (hb hby at_231) rfl k_) ?_
                        refine goStatic X14 hx hZ (y := (⟨"java/lang/Math", "min", "(JJ)J"⟩ : MethodName)) hown (hw _ (List.mem_of_getElem? (i := 67) rfl)) (hw _ (List.mem_of_getElem? (i := 68) rfl)) (hw _ (List.mem_of_getElem? (i := 55) rfl)) (hw _ (List.mem_of_getElem? (i := 69) rfl)) (by decide) (rm11 l Z a0 hw [] n0 h_J193 (2147483647 : Int64) (effL.toInt64) sz_J193) 0 (by decide) (by decide) (by rw [hml]; rfl) [(.long (2147483647 : Int64)), (.long (effL.toInt64))] [] (lenOf pd_6c7814f2 rfl) rfl rfl rfl (hb hby at_232) (by decide) (by decide) fun v15 T15 h15 X15 hq15 => ?_
                        obtain ⟨mb, rfl, eh15, tb⟩ := hq15
                        rw [eh15] at X15
                        show Go p e below _ T15 (mkF m 235 #[.val (.int p1), .val (.int p2), .val (.int p3), .val (.int p4), .val (.int p5), .val (.int s1), .val (.int s2), .val (.int s3), .val (.int effL), .val (.int effMn), .val (.int effMx), .val (.int (p5 &&& (3 : Int32))), .val (.int ((((p5.toUInt32 >>> ((2 : Int32) &&& 31).toUInt32).toInt32) &&& (3 : Int32)) - (1 : Int32))), .val (.int cnt), .val (.ref of), .val (.int ra), .val (.long ma), .second, .val (.long (2147483647 : Int64)), .second, .unset] [(.long mb)])
                        refine Go.st (T' := T15) (g' := (mkF m 237 #[.val (.int p1), .val (.int p2), .val (.int p3), .val (.int p4), .val (.int p5), .val (.int s1), .val (.int s2), .val (.int s3), .val (.int effL), .val (.int effMn), .val (.int effMx), .val (.int (p5 &&& (3 : Int32))), .val (.int ((((p5.toUInt32 >>> ((2 : Int32) &&& 31).toUInt32).toInt32) &&& (3 : Int32)) - (1 : Int32))), .val (.int cnt), .val (.ref of), .val (.int ra), .val (.long ma), .second, .val (.long mb), .second, .unset] [])) (fun t_ k_ => XS.lstore X15.here hx rfl (hb hby at_235) rfl (l' := #[.val (.int p1), .val (.int p2), .val (.int p3), .val (.int p4), .val (.int p5), .val (.int s1), .val (.int s2), .val (.int s3), .val (.int effL), .val (.int effMn), .val (.int effMx), .val (.int (p5 &&& (3 : Int32))), .val (.int ((((p5.toUInt32 >>> ((2 : Int32) &&& 31).toUInt32).toInt32) &&& (3 : Int32)) - (1 : Int32))), .val (.int cnt), .val (.ref of), .val (.int ra), .val (.long ma), .second, .val (.long mb), .second, .unset]) rfl k_) ?_
                        exact J237 ma mb T15 h_J193 (X15.mono (by decide) (by decide)) sz_J193 (by have b1 := effL.toInt_lt; have b2 := effL.le_toInt; rcases ta with ⟨rfl, z⟩ | ⟨rfl, z⟩ <;> simp only [Int32.lt_iff_toInt_lt, Int64.lt_iff_toInt_lt, Jvm.Kit.i64_of_i32, ← Int64.toInt_inj, Int32.reduceToInt, Int64.reduceToInt] at * <;> split <;> omega) (by have b1 := effL.toInt_lt; have b2 := effL.le_toInt; rcases tb with ⟨rfl, z⟩ | ⟨rfl, z⟩ <;> simp only [Int32.lt_iff_toInt_lt, Int64.lt_iff_toInt_lt, Jvm.Kit.i64_of_i32, ← Int64.toInt_inj, Int32.reduceToInt, Int64.reduceToInt] at * <;> split <;> omega)
                    by_cases hc184 : s3 = (0 : Int32)
                    · skip
                      refine Go.st (T' := T_J182) (g' := (mkF m 193 #[.val (.int p1), .val (.int p2), .val (.int p3), .val (.int p4), .val (.int p5), .val (.int s1), .val (.int s2), .val (.int s3), .val (.int effL), .val (.int effMn), .val (.int effMx), .val (.int (p5 &&& (3 : Int32))), .val (.int ((((p5.toUInt32 >>> ((2 : Int32) &&& 31).toUInt32).toInt32) &&& (3 : Int32)) - (1 : Int32))), .val (.int cnt), .val (.ref of), .unset, .unset, .unset, .unset, .unset, .unset] [])) (fun t_ k_ => XS.ifYes X_J182.here hx rfl (pc0 := 184) (pc' := 193) rfl (hb hby at_184) rfl ((if0 _ _).trans (teq hc184).1) (by decide) (by decide) k_) ?_
                      exact J193 z1 z2 (-1 : Int32) T_J182 h_J182 (X_J182.mono (by decide) (by decide)) sz_J182 g0_J182 g1_J182 g2_J182 g3_J182 g4_J182 (by first | assumption | omega | simp_all) (by first | assumption | omega | simp_all) (by rw [h_effMx]; simp [hc184])
                    · skip
                      refine Go.st (T' := T_J182) (g' := (mkF m 187 #[.val (.int p1), .val (.int p2), .val (.int p3), .val (.int p4), .val (.int p5), .val (.int s1), .val (.int s2), .val (.int s3), .val (.int effL), .val (.int effMn), .val (.int effMx), .val (.int (p5 &&& (3 : Int32))), .val (.int ((((p5.toUInt32 >>> ((2 : Int32) &&& 31).toUInt32).toInt32) &&& (3 : Int32)) - (1 : Int32))), .val (.int cnt), .val (.ref of), .unset, .unset, .unset, .unset, .unset, .unset] [])) (fun t_ k_ => XS.ifNo X_J182.here hx rfl (hb hby at_184) rfl ((if0 _ _).trans (feq hc184).1) k_) ?_
                      refine Go.st (T' := T_J182) (g' := (mkF m 189 #[.val (.int p1), .val (.int p2), .val (.int p3), .val (.int p4), .val (.int p5), .val (.int s1), .val (.int s2), .val (.int s3), .val (.int effL), .val (.int effMn), .val (.int effMx), .val (.int (p5 &&& (3 : Int32))), .val (.int ((((p5.toUInt32 >>> ((2 : Int32) &&& 31).toUInt32).toInt32) &&& (3 : Int32)) - (1 : Int32))), .val (.int cnt), .val (.ref of), .unset, .unset, .unset, .unset, .unset, .unset] [(.ref of)])) (fun t_ k_ => XS.aload X_J182.here hx rfl (hb hby at_187) rfl rfl k_) ?_
                      refine Go.st (T' := T_J182) (g' := (mkF m 190 #[.val (.int p1), .val (.int p2), .val (.int p3), .val (.int p4), .val (.int p5), .val (.int s1), .val (.int s2), .val (.int s3), .val (.int effL), .val (.int effMn), .val (.int effMx), .val (.int (p5 &&& (3 : Int32))), .val (.int ((((p5.toUInt32 >>> ((2 : Int32) &&& 31).toUInt32).toInt32) &&& (3 : Int32)) - (1 : Int32))), .val (.int cnt), .val (.ref of), .unset, .unset, .unset, .unset, .unset, .unset] [(.int p3), (.ref of)])) (fun t_ k_ => XS.iloadN X_J182.here hx rfl (hb hby at_189) rfl k_) ?_
                      refine goVirtS X_J182 hx hZ (y := (⟨"com/example/kenshinkit/kenshinkit/schema/Facets", "setMaxLength", "(I)V"⟩ : MethodName)) hown (hw _ (List.mem_of_getElem? (i := 62) rfl)) (hw _ (List.mem_of_getElem? (i := 63) rfl)) (hw _ (List.mem_of_getElem? (i := 65) rfl)) (hw _ (List.mem_of_getElem? (i := 64) rfl)) (hw _ (List.mem_of_getElem? (i := 2) rfl)) (hw _ (List.mem_of_getElem? (i := 66) rfl)) (by decide) g0_J182 (rm10 l Z a0 hw [] n0 h_J182 of p3 z1 z2 (-1 : Int32) sz_J182 g0_J182 g2_J182 g3_J182 g4_J182 g1_J182) 0 (by decide) (by decide) (by rw [hml]; rfl) [(.int p3)] [] (lenOf pd_fdc785a8 rfl) rfl rfl rfl (hb hby at_190) (by decide) (by decide) fun v16 T16 h16 X16 hq16 => ?_
                      obtain ⟨rfl, K16c, p16_0, p16_1, p16_2, p16_3⟩ := hq16
                      have f16_1 : Exa Z h16 of "com/example/kenshinkit/kenshinkit/schema/Facets" := g0_J182.keep K16c
                      have sz16 : n0 ≤ h16.size := Nat.le_trans sz_J182 K16c.1
                      show Go p e below _ T16 (mkF m 193 #[.val (.int p1), .val (.int p2), .val (.int p3), .val (.int p4), .val (.int p5), .val (.int s1), .val (.int s2), .val (.int s3), .val (.int effL), .val (.int effMn), .val (.int effMx), .val (.int (p5 &&& (3 : Int32))), .val (.int ((((p5.toUInt32 >>> ((2 : Int32) &&& 31).toUInt32).toInt32) &&& (3 : Int32)) - (1 : Int32))), .val (.int cnt), .val (.ref of), .unset, .unset, .unset, .unset, .unset, .unset] [])
                      exact J193 z1 z2 p3 T16 h16 (X16.mono (by decide) (by decide)) sz16 p16_0 g1_J182 p16_1 p16_2 p16_3 (by first | assumption | omega | simp_all) (by first | assumption | omega | simp_all) (by rw [h_effMx]; simp [hc184])
                  by_cases hc173 : s2 = (0 : Int32)
                  · skip
                    refine Go.st (T' := T_J171) (g' := (mkF m 182 #[.val (.int p1), .val (.int p2), .val (.int p3), .val (.int p4), .val (.int p5), .val (.int s1), .val (.int s2), .val (.int s3), .val (.int effL), .val (.int effMn), .val (.int effMx), .val (.int (p5 &&& (3 : Int32))), .val (.int ((((p5.toUInt32 >>> ((2 : Int32) &&& 31).toUInt32).toInt32) &&& (3 : Int32)) - (1 : Int32))), .val (.int cnt), .val (.ref of), .unset, .unset, .unset, .unset, .unset, .unset] [])) (fun t_ k_ => XS.ifYes X_J171.here hx rfl (pc0 := 173) (pc' := 182) rfl (hb hby at_173) rfl ((if0 _ _).trans (teq hc173).1) (by decide) (by decide) k_) ?_
                    exact J182 z1 (-1 : Int32) T_J171 h_J171 (X_J171.mono (by decide) (by decide)) sz_J171 g0_J171 g1_J171 g2_J171 g3_J171 g4_J171 (by first | assumption | omega | simp_all) (by rw [h_effMn]; simp [hc173])
                  · skip
                    refine Go.st (T' := T_J171) (g' := (mkF m 176 #[.val (.int p1), .val (.int p2), .val (.int p3), .val (.int p4), .val (.int p5), .val (.int s1), .val (.int s2), .val (.int s3), .val (.int effL), .val (.int effMn), .val (.int effMx), .val (.int (p5 &&& (3 : Int32))), .val (.int ((((p5.toUInt32 >>> ((2 : Int32) &&& 31).toUInt32).toInt32) &&& (3 : Int32)) - (1 : Int32))), .val (.int cnt), .val (.ref of), .unset, .unset, .unset, .unset, .unset, .unset] [])) (fun t_ k_ => XS.ifNo X_J171.here hx rfl (hb hby at_173) rfl ((if0 _ _).trans (feq hc173).1) k_) ?_
                    refine Go.st (T' := T_J171) (g' := (mkF m 178 #[.val (.int p1), .val (.int p2), .val (.int p3), .val (.int p4), .val (.int p5), .val (.int s1), .val (.int s2), .val (.int s3), .val (.int effL), .val (.int effMn), .val (.int effMx), .val (.int (p5 &&& (3 : Int32))), .val (.int ((((p5.toUInt32 >>> ((2 : Int32) &&& 31).toUInt32).toInt32) &&& (3 : Int32)) - (1 : Int32))), .val (.int cnt), .val (.ref of), .unset, .unset, .unset, .unset, .unset, .unset] [(.ref of)])) (fun t_ k_ => XS.aload X_J171.here hx rfl (hb hby at_176) rfl rfl k_) ?_
                    refine Go.st (T' := T_J171) (g' := (mkF m 179 #[.val (.int p1), .val (.int p2), .val (.int p3), .val (.int p4), .val (.int p5), .val (.int s1), .val (.int s2), .val (.int s3), .val (.int effL), .val (.int effMn), .val (.int effMx), .val (.int (p5 &&& (3 : Int32))), .val (.int ((((p5.toUInt32 >>> ((2 : Int32) &&& 31).toUInt32).toInt32) &&& (3 : Int32)) - (1 : Int32))), .val (.int cnt), .val (.ref of), .unset, .unset, .unset, .unset, .unset, .unset] [(.int p2), (.ref of)])) (fun t_ k_ => XS.iloadN X_J171.here hx rfl (hb hby at_178) rfl k_) ?_
                    refine goVirtS X_J171 hx hZ (y := (⟨"com/example/kenshinkit/kenshinkit/schema/Facets", "setMinLength", "(I)V"⟩ : MethodName)) hown (hw _ (List.mem_of_getElem? (i := 48) rfl)) (hw _ (List.mem_of_getElem? (i := 49) rfl)) (hw _ (List.mem_of_getElem? (i := 51) rfl)) (hw _ (List.mem_of_getElem? (i := 50) rfl)) (hw _ (List.mem_of_getElem? (i := 2) rfl)) (hw _ (List.mem_of_getElem? (i := 52) rfl)) (by decide) g0_J171 (rm7 l Z a0 hw [] n0 h_J171 of p2 z1 (-1 : Int32) (-1 : Int32) sz_J171 g0_J171 g2_J171 g3_J171 g4_J171 g1_J171) 0 (by decide) (by decide) (by rw [hml]; rfl) [(.int p2)] [] (lenOf pd_fdc785a8 rfl) rfl rfl rfl (hb hby at_179) (by decide) (by decide) fun v17 T17 h17 X17 hq17 => ?_
                    obtain ⟨rfl, K17c, p17_0, p17_1, p17_2, p17_3⟩ := hq17
                    have f17_1 : Exa Z h17 of "com/example/kenshinkit/kenshinkit/schema/Facets" := g0_J171.keep K17c
                    have sz17 : n0 ≤ h17.size := Nat.le_trans sz_J171 K17c.1
                    show Go p e below _ T17 (mkF m 182 #[.val (.int p1), .val (.int p2), .val (.int p3), .val (.int p4), .val (.int p5), .val (.int s1), .val (.int s2), .val (.int s3), .val (.int effL), .val (.int effMn), .val (.int effMx), .val (.int (p5 &&& (3 : Int32))), .val (.int ((((p5.toUInt32 >>> ((2 : Int32) &&& 31).toUInt32).toInt32) &&& (3 : Int32)) - (1 : Int32))), .val (.int cnt), .val (.ref of), .unset, .unset, .unset, .unset, .unset, .unset] [])
                    exact J182 z1 p2 T17 h17 (X17.mono (by decide) (by decide)) sz17 p17_0 g1_J171 p17_1 p17_2 p17_3 (by first | assumption | omega | simp_all) (by rw [h_effMn]; simp [hc173])
                by_cases hc162 : s1 = (0 : Int32)
                · skip
                  refine Go.st (T' := T9) (g' := (mkF m 171 #[.val (.int p1), .val (.int p2), .val (.int p3), .val (.int p4), .val (.int p5), .val (.int s1), .val (.int s2), .val (.int s3), .val (.int effL), .val (.int effMn), .val (.int effMx), .val (.int (p5 &&& (3 : Int32))), .val (.int ((((p5.toUInt32 >>> ((2 : Int32) &&& 31).toUInt32).toInt32) &&& (3 : Int32)) - (1 : Int32))), .val (.int cnt), .val (.ref of), .unset, .unset, .unset, .unset, .unset, .unset] [])) (fun t_ k_ => XS.ifYes X9.here hx rfl (pc0 := 162) (pc' := 171) rfl (hb hby at_162) rfl ((if0 _ _).trans (teq hc162).1) (by decide) (by decide) k_) ?_
                  exact J171 (-1 : Int32) T9 h9 (X9.mono (by decide) (by decide)) sz9 p9_0 ge8 p9_1 p9_2 p9_3 (by rw [h_effL]; simp [hc162])
                · skip
                  refine Go.st (T' := T9) (g' := (mkF m 165 #[.val (.int p1), .val (.int p2), .val (.int p3), .val (.int p4), .val (.int p5), .val (.int s1), .val (.int s2), .val (.int s3), .val (.int effL), .val (.int effMn), .val (.int effMx), .val (.int (p5 &&& (3 : Int32))), .val (.int ((((p5.toUInt32 >>> ((2 : Int32) &&& 31).toUInt32).toInt32) &&& (3 : Int32)) - (1 : Int32))), .val (.int cnt), .val (.ref of), .unset, .unset, .unset, .unset, .unset, .unset] [])) (fun t_ k_ => XS.ifNo X9.here hx rfl (hb hby at_162) rfl ((if0 _ _).trans (feq hc162).1) k_) ?_
                  refine Go.st (T' := T9) (g' := (mkF m 167 #[.val (.int p1), .val (.int p2), .val (.int p3), .val (.int p4), .val (.int p5), .val (.int s1), .val (.int s2), .val (.int s3), .val (.int effL), .val (.int effMn), .val (.int effMx), .val (.int (p5 &&& (3 : Int32))), .val (.int ((((p5.toUInt32 >>> ((2 : Int32) &&& 31).toUInt32).toInt32) &&& (3 : Int32)) - (1 : Int32))), .val (.int cnt), .val (.ref of), .unset, .unset, .unset, .unset, .unset, .unset] [(.ref of)])) (fun t_ k_ => XS.aload X9.here hx rfl (hb hby at_165) rfl rfl k_) ?_
                  refine Go.st (T' := T9) (g' := (mkF m 168 #[.val (.int p1), .val (.int p2), .val (.int p3), .val (.int p4), .val (.int p5), .val (.int s1), .val (.int s2), .val (.int s3), .val (.int effL), .val (.int effMn), .val (.int effMx), .val (.int (p5 &&& (3 : Int32))), .val (.int ((((p5.toUInt32 >>> ((2 : Int32) &&& 31).toUInt32).toInt32) &&& (3 : Int32)) - (1 : Int32))), .val (.int cnt), .val (.ref of), .unset, .unset, .unset, .unset, .unset, .unset] [(.int p1), (.ref of)])) (fun t_ k_ => XS.iloadN X9.here hx rfl (hb hby at_167) rfl k_) ?_
                  refine goVirtS X9 hx hZ (y := (⟨"com/example/kenshinkit/kenshinkit/schema/Facets", "setLength", "(I)V"⟩ : MethodName)) hown (hw _ (List.mem_of_getElem? (i := 57) rfl)) (hw _ (List.mem_of_getElem? (i := 58) rfl)) (hw _ (List.mem_of_getElem? (i := 60) rfl)) (hw _ (List.mem_of_getElem? (i := 59) rfl)) (hw _ (List.mem_of_getElem? (i := 2) rfl)) (hw _ (List.mem_of_getElem? (i := 61) rfl)) (by decide) p9_0 (rm9 l Z a0 hw [] n0 h9 of p1 (-1 : Int32) (-1 : Int32) (-1 : Int32) sz9 p9_0 p9_1 p9_2 p9_3 ge8) 0 (by decide) (by decide) (by rw [hml]; rfl) [(.int p1)] [] (lenOf pd_fdc785a8 rfl) rfl rfl rfl (hb hby at_168) (by decide) (by decide) fun v18 T18 h18 X18 hq18 => ?_
                  obtain ⟨rfl, K18c, p18_0, p18_1, p18_2, p18_3⟩ := hq18
                  have f18_0 : Sta Z h18 "java/util/ArrayList" "DEFAULTCAPACITY_EMPTY_ELEMENTDATA" "[Ljava/lang/Object;" (.ref ws0) := sta_keep f9_0 K18c (allS ⟨_, p9_0⟩ all0)
                  have f18_2 : Exa Z h18 of "com/example/kenshinkit/kenshinkit/schema/Facets" := p9_0.keep K18c
                  have sz18 : n0 ≤ h18.size := Nat.le_trans sz9 K18c.1
                  show Go p e below _ T18 (mkF m 171 #[.val (.int p1), .val (.int p2), .val (.int p3), .val (.int p4), .val (.int p5), .val (.int s1), .val (.int s2), .val (.int s3), .val (.int effL), .val (.int effMn), .val (.int effMx), .val (.int (p5 &&& (3 : Int32))), .val (.int ((((p5.toUInt32 >>> ((2 : Int32) &&& 31).toUInt32).toInt32) &&& (3 : Int32)) - (1 : Int32))), .val (.int cnt), .val (.ref of), .unset, .unset, .unset, .unset, .unset, .unset] [])
                  exact J171 p1 T18 h18 (X18.mono (by decide) (by decide)) sz18 p18_0 ge8 p18_1 p18_2 p18_3 (by rw [h_effL]; simp [hc162])
              by_cases hc103 : (p5 &&& (3 : Int32)) = (0 : Int32)
              · skip
                refine Go.st (T' := s₁) (g' := (mkF m 106 #[.val (.int p1), .val (.int p2), .val (.int p3), .val (.int p4), .val (.int p5), .val (.int s1), .val (.int s2), .val (.int s3), .val (.int effL), .val (.int effMn), .val (.int effMx), .val (.int (p5 &&& (3 : Int32))), .val (.int ((((p5.toUInt32 >>> ((2 : Int32) &&& 31).toUInt32).toInt32) &&& (3 : Int32)) - (1 : Int32))), .unset, .unset, .unset, .unset, .unset, .unset, .unset, .unset] [])) (fun t_ k_ => XS.ifNo X0.here hx rfl (hb hby at_103) rfl ((if0 _ _).trans (teq hc103).2) k_) ?_
                refine Go.st (T' := s₁) (g' := (mkF m 107 #[.val (.int p1), .val (.int p2), .val (.int p3), .val (.int p4), .val (.int p5), .val (.int s1), .val (.int s2), .val (.int s3), .val (.int effL), .val (.int effMn), .val (.int effMx), .val (.int (p5 &&& (3 : Int32))), .val (.int ((((p5.toUInt32 >>> ((2 : Int32) &&& 31).toUInt32).toInt32) &&& (3 : Int32)) - (1 : Int32))), .unset, .unset, .unset, .unset, .unset, .unset, .unset, .unset] [(.int p4)])) (fun t_ k_ => XS.iloadN X0.here hx rfl (hb hby at_106) rfl k_) ?_
                refine Go.st (T' := s₁) (g' := (mkF m 109 #[.val (.int p1), .val (.int p2), .val (.int p3), .val (.int p4), .val (.int p5), .val (.int s1), .val (.int s2), .val (.int s3), .val (.int effL), .val (.int effMn), .val (.int effMx), .val (.int (p5 &&& (3 : Int32))), .val (.int ((((p5.toUInt32 >>> ((2 : Int32) &&& 31).toUInt32).toInt32) &&& (3 : Int32)) - (1 : Int32))), .val (.int p4), .unset, .unset, .unset, .unset, .unset, .unset, .unset] [])) (fun t_ k_ => XS.istore X0.here hx rfl (hb hby at_107) rfl (l' := #[.val (.int p1), .val (.int p2), .val (.int p3), .val (.int p4), .val (.int p5), .val (.int s1), .val (.int s2), .val (.int s3), .val (.int effL), .val (.int effMn), .val (.int effMx), .val (.int (p5 &&& (3 : Int32))), .val (.int ((((p5.toUInt32 >>> ((2 : Int32) &&& 31).toUInt32).toInt32) &&& (3 : Int32)) - (1 : Int32))), .val (.int p4), .unset, .unset, .unset, .unset, .unset, .unset, .unset]) rfl k_) ?_
                refine Go.st (T' := s₁) (g' := (mkF m 151 #[.val (.int p1), .val (.int p2), .val (.int p3), .val (.int p4), .val (.int p5), .val (.int s1), .val (.int s2), .val (.int s3), .val (.int effL), .val (.int effMn), .val (.int effMx), .val (.int (p5 &&& (3 : Int32))), .val (.int ((((p5.toUInt32 >>> ((2 : Int32) &&& 31).toUInt32).toInt32) &&& (3 : Int32)) - (1 : Int32))), .val (.int p4), .unset, .unset, .unset, .unset, .unset, .unset, .unset] [])) (fun t_ k_ => XS.goto X0.here hx rfl (pc0 := 109) (pc' := 151) rfl (hb hby at_109) (by decide) (by decide) k_) ?_
                exact J151_7 p4 (by rw [if_pos hc103])
              · skip
                refine Go.st (T' := s₁) (g' := (mkF m 112 #[.val (.int p1), .val (.int p2), .val (.int p3), .val (.int p4), .val (.int p5), .val (.int s1), .val (.int s2), .val (.int s3), .val (.int effL), .val (.int effMn), .val (.int effMx), .val (.int (p5 &&& (3 : Int32))), .val (.int ((((p5.toUInt32 >>> ((2 : Int32) &&& 31).toUInt32).toInt32) &&& (3 : Int32)) - (1 : Int32))), .unset, .unset, .unset, .unset, .unset, .unset, .unset, .unset] [])) (fun t_ k_ => XS.ifYes X0.here hx rfl (pc0 := 103) (pc' := 112) rfl (hb hby at_103) rfl ((if0 _ _).trans (feq hc103).2) (by decide) (by decide) k_) ?_
                refine Go.st (T' := s₁) (g' := (mkF m 114 #[.val (.int p1), .val (.int p2), .val (.int p3), .val (.int p4), .val (.int p5), .val (.int s1), .val (.int s2), .val (.int s3), .val (.int effL), .val (.int effMn), .val (.int effMx), .val (.int (p5 &&& (3 : Int32))), .val (.int ((((p5.toUInt32 >>> ((2 : Int32) &&& 31).toUInt32).toInt32) &&& (3 : Int32)) - (1 : Int32))), .unset, .unset, .unset, .unset, .unset, .unset, .unset, .unset] [(.int (p5 &&& (3 : Int32)))])) (fun t_ k_ => XS.iload X0.here hx rfl (hb hby at_112) rfl k_) ?_
                refine Go.st (T' := s₁) (g' := (mkF m 115 #[.val (.int p1), .val (.int p2), .val (.int p3), .val (.int p4), .val (.int p5), .val (.int s1), .val (.int s2), .val (.int s3), .val (.int effL), .val (.int effMn), .val (.int effMx), .val (.int (p5 &&& (3 : Int32))), .val (.int ((((p5.toUInt32 >>> ((2 : Int32) &&& 31).toUInt32).toInt32) &&& (3 : Int32)) - (1 : Int32))), .unset, .unset, .unset, .unset, .unset, .unset, .unset, .unset] [(.int (1 : Int32)), (.int (p5 &&& (3 : Int32)))])) (fun t_ k_ => XS.iconst X0.here hx rfl (hb hby at_114) k_) ?_
                by_cases hc115 : (p5 &&& (3 : Int32)) = (1 : Int32)
                · skip
                  refine Go.st (T' := s₁) (g' := (mkF m 118 #[.val (.int p1), .val (.int p2), .val (.int p3), .val (.int p4), .val (.int p5), .val (.int s1), .val (.int s2), .val (.int s3), .val (.int effL), .val (.int effMn), .val (.int effMx), .val (.int (p5 &&& (3 : Int32))), .val (.int ((((p5.toUInt32 >>> ((2 : Int32) &&& 31).toUInt32).toInt32) &&& (3 : Int32)) - (1 : Int32))), .unset, .unset, .unset, .unset, .unset, .unset, .unset, .unset] [])) (fun t_ k_ => XS.icmpNo X0.here hx rfl (hb hby at_115) rfl (teq hc115).2 k_) ?_
                  refine Go.st (T' := s₁) (g' := (mkF m 120 #[.val (.int p1), .val (.int p2), .val (.int p3), .val (.int p4), .val (.int p5), .val (.int s1), .val (.int s2), .val (.int s3), .val (.int effL), .val (.int effMn), .val (.int effMx), .val (.int (p5 &&& (3 : Int32))), .val (.int ((((p5.toUInt32 >>> ((2 : Int32) &&& 31).toUInt32).toInt32) &&& (3 : Int32)) - (1 : Int32))), .unset, .unset, .unset, .unset, .unset, .unset, .unset, .unset] [(.int effL)])) (fun t_ k_ => XS.iload X0.here hx rfl (hb hby at_118) rfl k_) ?_
                  refine Go.st (T' := s₁) (g' := (mkF m 122 #[.val (.int p1), .val (.int p2), .val (.int p3), .val (.int p4), .val (.int p5), .val (.int s1), .val (.int s2), .val (.int s3), .val (.int effL), .val (.int effMn), .val (.int effMx), .val (.int (p5 &&& (3 : Int32))), .val (.int ((((p5.toUInt32 >>> ((2 : Int32) &&& 31).toUInt32).toInt32) &&& (3 : Int32)) - (1 : Int32))), .unset, .unset, .unset, .unset, .unset, .unset, .unset, .unset] [(.int ((((p5.toUInt32 >>> ((2 : Int32) &&& 31).toUInt32).toInt32) &&& (3 : Int32)) - (1 : Int32))), (.int effL)])) (fun t_ k_ => XS.iload X0.here hx rfl (hb hby at_120) rfl k_) ?_
                  refine Go.st (T' := s₁) (g' := (mkF m 123 #[.val (.int p1), .val (.int p2), .val (.int p3), .val (.int p4), .val (.int p5), .val (.int s1), .val (.int s2), .val (.int s3), .val (.int effL), .val (.int effMn), .val (.int effMx), .val (.int (p5 &&& (3 : Int32))), .val (.int ((((p5.toUInt32 >>> ((2 : Int32) &&& 31).toUInt32).toInt32) &&& (3 : Int32)) - (1 : Int32))), .unset, .unset, .unset, .unset, .unset, .unset, .unset, .unset] [(.int (effL + ((((p5.toUInt32 >>> ((2 : Int32) &&& 31).toUInt32).toInt32) &&& (3 : Int32)) - (1 : Int32))))])) (fun t_ k_ => XS.iadd X0.here hx rfl (hb hby at_122) rfl k_) ?_
                  refine Go.st (T' := s₁) (g' := (mkF m 125 #[.val (.int p1), .val (.int p2), .val (.int p3), .val (.int p4), .val (.int p5), .val (.int s1), .val (.int s2), .val (.int s3), .val (.int effL), .val (.int effMn), .val (.int effMx), .val (.int (p5 &&& (3 : Int32))), .val (.int ((((p5.toUInt32 >>> ((2 : Int32) &&& 31).toUInt32).toInt32) &&& (3 : Int32)) - (1 : Int32))), .val (.int (effL + ((((p5.toUInt32 >>> ((2 : Int32) &&& 31).toUInt32).toInt32) &&& (3 : Int32)) - (1 : Int32)))), .unset, .unset, .unset, .unset, .unset, .unset, .unset] [])) (fun t_ k_ => XS.istore X0.here hx rfl (hb hby at_123) rfl (l' := #[.val (.int p1), .val (.int p2), .val (.int p3), .val (.int p4), .val (.int p5), .val (.int s1), .val (.int s2), .val (.int s3), .val (.int effL), .val (.int effMn), .val (.int effMx), .val (.int (p5 &&& (3 : Int32))), .val (.int ((((p5.toUInt32 >>> ((2 : Int32) &&& 31).toUInt32).toInt32) &&& (3 : Int32)) - (1 : Int32))), .val (.int (effL + ((((p5.toUInt32 >>> ((2 : Int32) &&& 31).toUInt32).toInt32) &&& (3 : Int32)) - (1 : Int32)))), .unset, .unset, .unset, .unset, .unset, .unset, .unset]) rfl k_) ?_
                  refine Go.st (T' := s₁) (g' := (mkF m 151 #[.val (.int p1), .val (.int p2), .val (.int p3), .val (.int p4), .val (.int p5), .val (.int s1), .val (.int s2), .val (.int s3), .val (.int effL), .val (.int effMn), .val (.int effMx), .val (.int (p5 &&& (3 : Int32))), .val (.int ((((p5.toUInt32 >>> ((2 : Int32) &&& 31).toUInt32).toInt32) &&& (3 : Int32)) - (1 : Int32))), .val (.int (effL + ((((p5.toUInt32 >>> ((2 : Int32) &&& 31).toUInt32).toInt32) &&& (3 : Int32)) - (1 : Int32)))), .unset, .unset, .unset, .unset, .unset, .unset, .unset] [])) (fun t_ k_ => XS.goto X0.here hx rfl (pc0 := 125) (pc' := 151) rfl (hb hby at_125) (by decide) (by decide) k_) ?_
                  exact J151_7 (effL + ((((p5.toUInt32 >>> ((2 : Int32) &&& 31).toUInt32).toInt32) &&& (3 : Int32)) - (1 : Int32))) (by rw [if_neg hc103, if_pos hc115])
                · skip
                  refine Go.st (T' := s₁) (g' := (mkF m 128 #[.val (.int p1), .val (.int p2), .val (.int p3), .val (.int p4), .val (.int p5), .val (.int s1), .val (.int s2), .val (.int s3), .val (.int effL), .val (.int effMn), .val (.int effMx), .val (.int (p5 &&& (3 : Int32))), .val (.int ((((p5.toUInt32 >>> ((2 : Int32) &&& 31).toUInt32).toInt32) &&& (3 : Int32)) - (1 : Int32))), .unset, .unset, .unset, .unset, .unset, .unset, .unset, .unset] [])) (fun t_ k_ => XS.icmpYes X0.here hx rfl (pc0 := 115) (pc' := 128) rfl (hb hby at_115) rfl (feq hc115).2 (by decide) (by decide) k_) ?_
                  refine Go.st (T' := s₁) (g' := (mkF m 130 #[.val (.int p1), .val (.int p2), .val (.int p3), .val (.int p4), .val (.int p5), .val (.int s1), .val (.int s2), .val (.int s3), .val (.int effL), .val (.int effMn), .val (.int effMx), .val (.int (p5 &&& (3 : Int32))), .val (.int ((((p5.toUInt32 >>> ((2 : Int32) &&& 31).toUInt32).toInt32) &&& (3 : Int32)) - (1 : Int32))), .unset, .unset, .unset, .unset, .unset, .unset, .unset, .unset] [(.int (p5 &&& (3 : Int32)))])) (fun t_ k_ => XS.iload X0.here hx rfl (hb hby at_128) rfl k_) ?_
                  refine Go.st (T' := s₁) (g' := (mkF m 131 #[.val (.int p1), .val (.int p2), .val (.int p3), .val (.int p4), .val (.int p5), .val (.int s1), .val (.int s2), .val (.int s3), .val (.int effL), .val (.int effMn), .val (.int effMx), .val (.int (p5 &&& (3 : Int32))), .val (.int ((((p5.toUInt32 >>> ((2 : Int32) &&& 31).toUInt32).toInt32) &&& (3 : Int32)) - (1 : Int32))), .unset, .unset, .unset, .unset, .unset, .unset, .unset, .unset] [(.int (2 : Int32)), (.int (p5 &&& (3 : Int32)))])) (fun t_ k_ => XS.iconst X0.here hx rfl (hb hby at_130) k_) ?_
                  by_cases hc131 : (p5 &&& (3 : Int32)) = (2 : Int32)
                  · skip
                    refine Go.st (T' := s₁) (g' := (mkF m 134 #[.val (.int p1), .val (.int p2), .val (.int p3), .val (.int p4), .val (.int p5), .val (.int s1), .val (.int s2), .val (.int s3), .val (.int effL), .val (.int effMn), .val (.int effMx), .val (.int (p5 &&& (3 : Int32))), .val (.int ((((p5.toUInt32 >>> ((2 : Int32) &&& 31).toUInt32).toInt32) &&& (3 : Int32)) - (1 : Int32))), .unset, .unset, .unset, .unset, .unset, .unset, .unset, .unset] [])) (fun t_ k_ => XS.icmpNo X0.here hx rfl (hb hby at_131) rfl (teq hc131).2 k_) ?_
                    refine Go.st (T' := s₁) (g' := (mkF m 136 #[.val (.int p1), .val (.int p2), .val (.int p3), .val (.int p4), .val (.int p5), .val (.int s1), .val (.int s2), .val (.int s3), .val (.int effL), .val (.int effMn), .val (.int effMx), .val (.int (p5 &&& (3 : Int32))), .val (.int ((((p5.toUInt32 >>> ((2 : Int32) &&& 31).toUInt32).toInt32) &&& (3 : Int32)) - (1 : Int32))), .unset, .unset, .unset, .unset, .unset, .unset, .unset, .unset] [(.int effMn)])) (fun t_ k_ => XS.iload X0.here hx rfl (hb hby at_134) rfl k_) ?_
                    refine Go.st (T' := s₁) (g' := (mkF m 138 #[.val (.int p1), .val (.int p2), .val (.int p3), .val (.int p4), .val (.int p5), .val (.int s1), .val (.int s2), .val (.int s3), .val (.int effL), .val (.int effMn), .val (.int effMx), .val (.int (p5 &&& (3 : Int32))), .val (.int ((((p5.toUInt32 >>> ((2 : Int32) &&& 31).toUInt32).toInt32) &&& (3 : Int32)) - (1 : Int32))), .unset, .unset, .unset, .unset, .unset, .unset, .unset, .unset] [(.int ((((p5.toUInt32 >>> ((2 : Int32) &&& 31).toUInt32).toInt32) &&& (3 : Int32)) - (1 : Int32))), (.int effMn)])) (fun t_ k_ => XS.iload X0.here hx rfl (hb hby at_136) rfl k_) ?_
                    refine Go.st (T' := s₁) (g' := (mkF m 139 #[.val (.int p1), .val (.int p2), .val (.int p3), .val (.int p4), .val (.int p5), .val (.int s1), .val (.int s2), .val (.int s3), .val (.int effL), .val (.int effMn), .val (.int effMx), .val (.int (p5 &&& (3 : Int32))), .val (.int ((((p5.toUInt32 >>> ((2 : Int32) &&& 31).toUInt32).toInt32) &&& (3 : Int32)) - (1 : Int32))), .unset, .unset, .unset, .unset, .unset, .unset, .unset, .unset] [(.int (effMn + ((((p5.toUInt32 >>> ((2 : Int32) &&& 31).toUInt32).toInt32) &&& (3 : Int32)) - (1 : Int32))))])) (fun t_ k_ => XS.iadd X0.here hx rfl (hb hby at_138) rfl k_) ?_
                    refine Go.st (T' := s₁) (g' := (mkF m 141 #[.val (.int p1), .val (.int p2), .val (.int p3), .val (.int p4), .val (.int p5), .val (.int s1), .val (.int s2), .val (.int s3), .val (.int effL), .val (.int effMn), .val (.int effMx), .val (.int (p5 &&& (3 : Int32))), .val (.int ((((p5.toUInt32 >>> ((2 : Int32) &&& 31).toUInt32).toInt32) &&& (3 : Int32)) - (1 : Int32))), .val (.int (effMn + ((((p5.toUInt32 >>> ((2 : Int32) &&& 31).toUInt32).toInt32) &&& (3 : Int32)) - (1 : Int32)))), .unset, .unset, .unset, .unset, .unset, .unset, .unset] [])) (fun t_ k_ => XS.istore X0.here hx rfl (hb hby at_139) rfl (l' := #[.val (.int p1), .val (.int p2), .val (.int p3), .val (.int p4), .val (.int p5), .val (.int s1), .val (.int s2), .val (.int s3), .val (.int effL), .val (.int effMn), .val (.int effMx), .val (.int (p5 &&& (3 : Int32))), .val (.int ((((p5.toUInt32 >>> ((2 : Int32) &&& 31).toUInt32).toInt32) &&& (3 : Int32)) - (1 : Int32))), .val (.int (effMn + ((((p5.toUInt32 >>> ((2 : Int32) &&& 31).toUInt32).toInt32) &&& (3 : Int32)) - (1 : Int32)))), .unset, .unset, .unset, .unset, .unset, .unset, .unset]) rfl k_) ?_
                    refine Go.st (T' := s₁) (g' := (mkF m 151 #[.val (.int p1), .val (.int p2), .val (.int p3), .val (.int p4), .val (.int p5), .val (.int s1), .val (.int s2), .val (.int s3), .val (.int effL), .val (.int effMn), .val (.int effMx), .val (.int (p5 &&& (3 : Int32))), .val (.int ((((p5.toUInt32 >>> ((2 : Int32) &&& 31).toUInt32).toInt32) &&& (3 : Int32)) - (1 : Int32))), .val (.int (effMn + ((((p5.toUInt32 >>> ((2 : Int32) &&& 31).toUInt32).toInt32) &&& (3 : Int32)) - (1 : Int32)))), .unset, .unset, .unset, .unset, .unset, .unset, .unset] [])) (fun t_ k_ => XS.goto X0.here hx rfl (pc0 := 141) (pc' := 151) rfl (hb hby at_141) (by decide) (by decide) k_) ?_
                    exact J151_7 (effMn + ((((p5.toUInt32 >>> ((2 : Int32) &&& 31).toUInt32).toInt32) &&& (3 : Int32)) - (1 : Int32))) (by rw [if_neg hc103, if_neg hc115, if_pos hc131])
                  · skip
                    refine Go.st (T' := s₁) (g' := (mkF m 144 #[.val (.int p1), .val (.int p2), .val (.int p3), .val (.int p4), .val (.int p5), .val (.int s1), .val (.int s2), .val (.int s3), .val (.int effL), .val (.int effMn), .val (.int effMx), .val (.int (p5 &&& (3 : Int32))), .val (.int ((((p5.toUInt32 >>> ((2 : Int32) &&& 31).toUInt32).toInt32) &&& (3 : Int32)) - (1 : Int32))), .unset, .unset, .unset, .unset, .unset, .unset, .unset, .unset] [])) (fun t_ k_ => XS.icmpYes X0.here hx rfl (pc0 := 131) (pc' := 144) rfl (hb hby at_131) rfl (feq hc131).2 (by decide) (by decide) k_) ?_
                    refine Go.st (T' := s₁) (g' := (mkF m 146 #[.val (.int p1), .val (.int p2), .val (.int p3), .val (.int p4), .val (.int p5), .val (.int s1), .val (.int s2), .val (.int s3), .val (.int effL), .val (.int effMn), .val (.int effMx), .val (.int (p5 &&& (3 : Int32))), .val (.int ((((p5.toUInt32 >>> ((2 : Int32) &&& 31).toUInt32).toInt32) &&& (3 : Int32)) - (1 : Int32))), .unset, .unset, .unset, .unset, .unset, .unset, .unset, .unset] [(.int effMx)])) (fun t_ k_ => XS.iload X0.here hx rfl (hb hby at_144) rfl k_) ?_
                    refine Go.st (T' := s₁) (g' := (mkF m 148 #[.val (.int p1), .val (.int p2), .val (.int p3), .val (.int p4), .val (.int p5), .val (.int s1), .val (.int s2), .val (.int s3), .val (.int effL), .val (.int effMn), .val (.int effMx), .val (.int (p5 &&& (3 : Int32))), .val (.int ((((p5.toUInt32 >>> ((2 : Int32) &&& 31).toUInt32).toInt32) &&& (3 : Int32)) - (1 : Int32))), .unset, .unset, .unset, .unset, .unset, .unset, .unset, .unset] [(.int ((((p5.toUInt32 >>> ((2 : Int32) &&& 31).toUInt32).toInt32) &&& (3 : Int32)) - (1 : Int32))), (.int effMx)])) (fun t_ k_ => XS.iload X0.here hx rfl (hb hby at_146) rfl k_) ?_
                    refine Go.st (T' := s₁) (g' := (mkF m 149 #[.val (.int p1), .val (.int p2), .val (.int p3), .val (.int p4), .val (.int p5), .val (.int s1), .val (.int s2), .val (.int s3), .val (.int effL), .val (.int effMn), .val (.int effMx), .val (.int (p5 &&& (3 : Int32))), .val (.int ((((p5.toUInt32 >>> ((2 : Int32) &&& 31).toUInt32).toInt32) &&& (3 : Int32)) - (1 : Int32))), .unset, .unset, .unset, .unset, .unset, .unset, .unset, .unset] [(.int (effMx + ((((p5.toUInt32 >>> ((2 : Int32) &&& 31).toUInt32).toInt32) &&& (3 : Int32)) - (1 : Int32))))])) (fun t_ k_ => XS.iadd X0.here hx rfl (hb hby at_148) rfl k_) ?_
                    refine Go.st (T' := s₁) (g' := (mkF m 151 #[.val (.int p1), .val (.int p2), .val (.int p3), .val (.int p4), .val (.int p5), .val (.int s1), .val (.int s2), .val (.int s3), .val (.int effL), .val (.int effMn), .val (.int effMx), .val (.int (p5 &&& (3 : Int32))), .val (.int ((((p5.toUInt32 >>> ((2 : Int32) &&& 31).toUInt32).toInt32) &&& (3 : Int32)) - (1 : Int32))), .val (.int (effMx + ((((p5.toUInt32 >>> ((2 : Int32) &&& 31).toUInt32).toInt32) &&& (3 : Int32)) - (1 : Int32)))), .unset, .unset, .unset, .unset, .unset, .unset, .unset] [])) (fun t_ k_ => XS.istore X0.here hx rfl (hb hby at_149) rfl (l' := #[.val (.int p1), .val (.int p2), .val (.int p3), .val (.int p4), .val (.int p5), .val (.int s1), .val (.int s2), .val (.int s3), .val (.int effL), .val (.int effMn), .val (.int effMx), .val (.int (p5 &&& (3 : Int32))), .val (.int ((((p5.toUInt32 >>> ((2 : Int32) &&& 31).toUInt32).toInt32) &&& (3 : Int32)) - (1 : Int32))), .val (.int (effMx + ((((p5.toUInt32 >>> ((2 : Int32) &&& 31).toUInt32).toInt32) &&& (3 : Int32)) - (1 : Int32)))), .unset, .unset, .unset, .unset, .unset, .unset, .unset]) rfl k_) ?_
                    exact J151_7 (effMx + ((((p5.toUInt32 >>> ((2 : Int32) &&& 31).toUInt32).toInt32) &&& (3 : Int32)) - (1 : Int32))) (by rw [if_neg hc103, if_neg hc115, if_neg hc131])
            by_cases hc75 : s3 = (0 : Int32)
            · skip
              refine Go.st (T' := s₁) (g' := (mkF m 82 #[.val (.int p1), .val (.int p2), .val (.int p3), .val (.int p4), .val (.int p5), .val (.int s1), .val (.int s2), .val (.int s3), .val (.int effL), .val (.int effMn), .unset, .unset, .unset, .unset, .unset, .unset, .unset, .unset, .unset, .unset, .unset] [])) (fun t_ k_ => XS.ifYes X0.here hx rfl (pc0 := 75) (pc' := 82) rfl (hb hby at_75) rfl ((if0 _ _).trans (teq hc75).1) (by decide) (by decide) k_) ?_
              refine Go.st (T' := s₁) (g' := (mkF m 83 #[.val (.int p1), .val (.int p2), .val (.int p3), .val (.int p4), .val (.int p5), .val (.int s1), .val (.int s2), .val (.int s3), .val (.int effL), .val (.int effMn), .unset, .unset, .unset, .unset, .unset, .unset, .unset, .unset, .unset, .unset, .unset] [(.int (-1 : Int32))])) (fun t_ k_ => XS.iconst X0.here hx rfl (hb hby at_82) k_) ?_
              exact J83_6 (-1 : Int32) (by rw [if_pos hc75])
            · skip
              refine Go.st (T' := s₁) (g' := (mkF m 78 #[.val (.int p1), .val (.int p2), .val (.int p3), .val (.int p4), .val (.int p5), .val (.int s1), .val (.int s2), .val (.int s3), .val (.int effL), .val (.int effMn), .unset, .unset, .unset, .unset, .unset, .unset, .unset, .unset, .unset, .unset, .unset] [])) (fun t_ k_ => XS.ifNo X0.here hx rfl (hb hby at_75) rfl ((if0 _ _).trans (feq hc75).1) k_) ?_
              refine Go.st (T' := s₁) (g' := (mkF m 79 #[.val (.int p1), .val (.int p2), .val (.int p3), .val (.int p4), .val (.int p5), .val (.int s1), .val (.int s2), .val (.int s3), .val (.int effL), .val (.int effMn), .unset, .unset, .unset, .unset, .unset, .unset, .unset, .unset, .unset, .unset, .unset] [(.int p3)])) (fun t_ k_ => XS.iloadN X0.here hx rfl (hb hby at_78) rfl k_) ?_
              refine Go.st (T' := s₁) (g' := (mkF m 83 #[.val (.int p1), .val (.int p2), .val (.int p3), .val (.int p4), .val (.int p5), .val (.int s1), .val (.int s2), .val (.int s3), .val (.int effL), .val (.int effMn), .unset, .unset, .unset, .unset, .unset, .unset, .unset, .unset, .unset, .unset, .unset] [(.int p3)])) (fun t_ k_ => XS.goto X0.here hx rfl (pc0 := 79) (pc' := 83) rfl (hb hby at_79) (by decide) (by decide) k_) ?_
              exact J83_6 p3 (by rw [if_neg hc75])
          by_cases hc63 : s2 = (0 : Int32)
          · skip
            refine Go.st (T' := s₁) (g' := (mkF m 70 #[.val (.int p1), .val (.int p2), .val (.int p3), .val (.int p4), .val (.int p5), .val (.int s1), .val (.int s2), .val (.int s3), .val (.int effL), .unset, .unset, .unset, .unset, .unset, .unset, .unset, .unset, .unset, .unset, .unset, .unset] [])) (fun t_ k_ => XS.ifYes X0.here hx rfl (pc0 := 63) (pc' := 70) rfl (hb hby at_63) rfl ((if0 _ _).trans (teq hc63).1) (by decide) (by decide) k_) ?_
            refine Go.st (T' := s₁) (g' := (mkF m 71 #[.val (.int p1), .val (.int p2), .val (.int p3), .val (.int p4), .val (.int p5), .val (.int s1), .val (.int s2), .val (.int s3), .val (.int effL), .unset, .unset, .unset, .unset, .unset, .unset, .unset, .unset, .unset, .unset, .unset, .unset] [(.int (-1 : Int32))])) (fun t_ k_ => XS.iconst X0.here hx rfl (hb hby at_70) k_) ?_
            exact J71_5 (-1 : Int32) (by rw [if_pos hc63])
          · skip
            refine Go.st (T' := s₁) (g' := (mkF m 66 #[.val (.int p1), .val (.int p2), .val (.int p3), .val (.int p4), .val (.int p5), .val (.int s1), .val (.int s2), .val (.int s3), .val (.int effL), .unset, .unset, .unset, .unset, .unset, .unset, .unset, .unset, .unset, .unset, .unset, .unset] [])) (fun t_ k_ => XS.ifNo X0.here hx rfl (hb hby at_63) rfl ((if0 _ _).trans (feq hc63).1) k_) ?_
            refine Go.st (T' := s₁) (g' := (mkF m 67 #[.val (.int p1), .val (.int p2), .val (.int p3), .val (.int p4), .val (.int p5), .val (.int s1), .val (.int s2), .val (.int s3), .val (.int effL), .unset, .unset, .unset, .unset, .unset, .unset, .unset, .unset, .unset, .unset, .unset, .unset] [(.int p2)])) (fun t_ k_ => XS.iloadN X0.here hx rfl (hb hby at_66) rfl k_) ?_
            refine Go.st (T' := s₁) (g' := (mkF m 71 #[.val (.int p1), .val (.int p2), .val (.int p3), .val (.int p4), .val (.int p5), .val (.int s1), .val (.int s2), .val (.int s3), .val (.int effL), .unset, .unset, .unset, .unset, .unset, .unset, .unset, .unset, .unset, .unset, .unset, .unset] [(.int p2)])) (fun t_ k_ => XS.goto X0.here hx rfl (pc0 := 67) (pc' := 71) rfl (hb hby at_67) (by decide) (by decide) k_) ?_
            exact J71_5 p2 (by rw [if_neg hc63])
        by_cases hc51 : s1 = (0 : Int32)
        · skip
          refine Go.st (T' := s₁) (g' := (mkF m 58 #[.val (.int p1), .val (.int p2), .val (.int p3), .val (.int p4), .val (.int p5), .val (.int s1), .val (.int s2), .val (.int s3), .unset, .unset, .unset, .unset, .unset, .unset, .unset, .unset, .unset, .unset, .unset, .unset, .unset] [])) (fun t_ k_ => XS.ifYes X0.here hx rfl (pc0 := 51) (pc' := 58) rfl (hb hby at_51) rfl ((if0 _ _).trans (teq hc51).1) (by decide) (by decide) k_) ?_
          refine Go.st (T' := s₁) (g' := (mkF m 59 #[.val (.int p1), .val (.int p2), .val (.int p3), .val (.int p4), .val (.int p5), .val (.int s1), .val (.int s2), .val (.int s3), .unset, .unset, .unset, .unset, .unset, .unset, .unset, .unset, .unset, .unset, .unset, .unset, .unset] [(.int (-1 : Int32))])) (fun t_ k_ => XS.iconst X0.here hx rfl (hb hby at_58) k_) ?_
          exact J59_4 (-1 : Int32) (by rw [if_pos hc51])
        · skip
          refine Go.st (T' := s₁) (g' := (mkF m 54 #[.val (.int p1), .val (.int p2), .val (.int p3), .val (.int p4), .val (.int p5), .val (.int s1), .val (.int s2), .val (.int s3), .unset, .unset, .unset, .unset, .unset, .unset, .unset, .unset, .unset, .unset, .unset, .unset, .unset] [])) (fun t_ k_ => XS.ifNo X0.here hx rfl (hb hby at_51) rfl ((if0 _ _).trans (feq hc51).1) k_) ?_
          refine Go.st (T' := s₁) (g' := (mkF m 55 #[.val (.int p1), .val (.int p2), .val (.int p3), .val (.int p4), .val (.int p5), .val (.int s1), .val (.int s2), .val (.int s3), .unset, .unset, .unset, .unset, .unset, .unset, .unset, .unset, .unset, .unset, .unset, .unset, .unset] [(.int p1)])) (fun t_ k_ => XS.iloadN X0.here hx rfl (hb hby at_54) rfl k_) ?_
          refine Go.st (T' := s₁) (g' := (mkF m 59 #[.val (.int p1), .val (.int p2), .val (.int p3), .val (.int p4), .val (.int p5), .val (.int s1), .val (.int s2), .val (.int s3), .unset, .unset, .unset, .unset, .unset, .unset, .unset, .unset, .unset, .unset, .unset, .unset, .unset] [(.int p1)])) (fun t_ k_ => XS.goto X0.here hx rfl (pc0 := 55) (pc' := 59) rfl (hb hby at_55) (by decide) (by decide) k_) ?_
          exact J59_4 p1 (by rw [if_neg hc51])
      by_cases hc39 : (((p5.toUInt32 >>> ((6 : Int32) &&& 31).toUInt32).toInt32) &&& (1 : Int32)) = (0 : Int32)
      · skip
        refine Go.st (T' := s₁) (g' := (mkF m 46 #[.val (.int p1), .val (.int p2), .val (.int p3), .val (.int p4), .val (.int p5), .val (.int s1), .val (.int s2), .unset, .unset, .unset, .unset, .unset, .unset, .unset, .unset, .unset, .unset, .unset, .unset, .unset, .unset] [])) (fun t_ k_ => XS.ifYes X0.here hx rfl (pc0 := 39) (pc' := 46) rfl (hb hby at_39) rfl ((if0 _ _).trans (teq hc39).1) (by decide) (by decide) k_) ?_
        refine Go.st (T' := s₁) (g' := (mkF m 47 #[.val (.int p1), .val (.int p2), .val (.int p3), .val (.int p4), .val (.int p5), .val (.int s1), .val (.int s2), .unset, .unset, .unset, .unset, .unset, .unset, .unset, .unset, .unset, .unset, .unset, .unset, .unset, .unset] [(.int (0 : Int32))])) (fun t_ k_ => XS.iconst X0.here hx rfl (hb hby at_46) k_) ?_
        exact J47_3 (0 : Int32) (by rw [if_pos hc39])
      · skip
        refine Go.st (T' := s₁) (g' := (mkF m 42 #[.val (.int p1), .val (.int p2), .val (.int p3), .val (.int p4), .val (.int p5), .val (.int s1), .val (.int s2), .unset, .unset, .unset, .unset, .unset, .unset, .unset, .unset, .unset, .unset, .unset, .unset, .unset, .unset] [])) (fun t_ k_ => XS.ifNo X0.here hx rfl (hb hby at_39) rfl ((if0 _ _).trans (feq hc39).1) k_) ?_
        refine Go.st (T' := s₁) (g' := (mkF m 43 #[.val (.int p1), .val (.int p2), .val (.int p3), .val (.int p4), .val (.int p5), .val (.int s1), .val (.int s2), .unset, .unset, .unset, .unset, .unset, .unset, .unset, .unset, .unset, .unset, .unset, .unset, .unset, .unset] [(.int (1 : Int32))])) (fun t_ k_ => XS.iconst X0.here hx rfl (hb hby at_42) k_) ?_
        refine Go.st (T' := s₁) (g' := (mkF m 47 #[.val (.int p1), .val (.int p2), .val (.int p3), .val (.int p4), .val (.int p5), .val (.int s1), .val (.int s2), .unset, .unset, .unset, .unset, .unset, .unset, .unset, .unset, .unset, .unset, .unset, .unset, .unset, .unset] [(.int (1 : Int32))])) (fun t_ k_ => XS.goto X0.here hx rfl (pc0 := 43) (pc' := 47) rfl (hb hby at_43) (by decide) (by decide) k_) ?_
        exact J47_3 (1 : Int32) (by rw [if_neg hc39])
    by_cases hc22 : (((p5.toUInt32 >>> ((5 : Int32) &&& 31).toUInt32).toInt32) &&& (1 : Int32)) = (0 : Int32)
    · skip
      refine Go.st (T' := s₁) (g' := (mkF m 29 #[.val (.int p1), .val (.int p2), .val (.int p3), .val (.int p4), .val (.int p5), .val (.int s1), .unset, .unset, .unset, .unset, .unset, .unset, .unset, .unset, .unset, .unset, .unset, .unset, .unset, .unset, .unset] [])) (fun t_ k_ => XS.ifYes X0.here hx rfl (pc0 := 22) (pc' := 29) rfl (hb hby at_22) rfl ((if0 _ _).trans (teq hc22).1) (by decide) (by decide) k_) ?_
      refine Go.st (T' := s₁) (g' := (mkF m 30 #[.val (.int p1), .val (.int p2), .val (.int p3), .val (.int p4), .val (.int p5), .val (.int s1), .unset, .unset, .unset, .unset, .unset, .unset, .unset, .unset, .unset, .unset, .unset, .unset, .unset, .unset, .unset] [(.int (0 : Int32))])) (fun t_ k_ => XS.iconst X0.here hx rfl (hb hby at_29) k_) ?_
      exact J30_2 (0 : Int32) (by rw [if_pos hc22])
    · skip
      refine Go.st (T' := s₁) (g' := (mkF m 25 #[.val (.int p1), .val (.int p2), .val (.int p3), .val (.int p4), .val (.int p5), .val (.int s1), .unset, .unset, .unset, .unset, .unset, .unset, .unset, .unset, .unset, .unset, .unset, .unset, .unset, .unset, .unset] [])) (fun t_ k_ => XS.ifNo X0.here hx rfl (hb hby at_22) rfl ((if0 _ _).trans (feq hc22).1) k_) ?_
      refine Go.st (T' := s₁) (g' := (mkF m 26 #[.val (.int p1), .val (.int p2), .val (.int p3), .val (.int p4), .val (.int p5), .val (.int s1), .unset, .unset, .unset, .unset, .unset, .unset, .unset, .unset, .unset, .unset, .unset, .unset, .unset, .unset, .unset] [(.int (1 : Int32))])) (fun t_ k_ => XS.iconst X0.here hx rfl (hb hby at_25) k_) ?_
      refine Go.st (T' := s₁) (g' := (mkF m 30 #[.val (.int p1), .val (.int p2), .val (.int p3), .val (.int p4), .val (.int p5), .val (.int s1), .unset, .unset, .unset, .unset, .unset, .unset, .unset, .unset, .unset, .unset, .unset, .unset, .unset, .unset, .unset] [(.int (1 : Int32))])) (fun t_ k_ => XS.goto X0.here hx rfl (pc0 := 26) (pc' := 30) rfl (hb hby at_26) (by decide) (by decide) k_) ?_
      exact J30_2 (1 : Int32) (by rw [if_neg hc22])
  by_cases hc6 : (((p5.toUInt32 >>> ((4 : Int32) &&& 31).toUInt32).toInt32) &&& (1 : Int32)) = (0 : Int32)
  · skip
    refine Go.st (T' := s₁) (g' := (mkF m 13 #[.val (.int p1), .val (.int p2), .val (.int p3), .val (.int p4), .val (.int p5), .unset, .unset, .unset, .unset, .unset, .unset, .unset, .unset, .unset, .unset, .unset, .unset, .unset, .unset, .unset, .unset] [])) (fun t_ k_ => XS.ifYes X0.here hx rfl (pc0 := 6) (pc' := 13) rfl (hb hby at_6) rfl ((if0 _ _).trans (teq hc6).1) (by decide) (by decide) k_) ?_
    refine Go.st (T' := s₁) (g' := (mkF m 14 #[.val (.int p1), .val (.int p2), .val (.int p3), .val (.int p4), .val (.int p5), .unset, .unset, .unset, .unset, .unset, .unset, .unset, .unset, .unset, .unset, .unset, .unset, .unset, .unset, .unset, .unset] [(.int (0 : Int32))])) (fun t_ k_ => XS.iconst X0.here hx rfl (hb hby at_13) k_) ?_
    exact J14_1 (0 : Int32) (by rw [if_pos hc6])
  · skip
    refine Go.st (T' := s₁) (g' := (mkF m 9 #[.val (.int p1), .val (.int p2), .val (.int p3), .val (.int p4), .val (.int p5), .unset, .unset, .unset, .unset, .unset, .unset, .unset, .unset, .unset, .unset, .unset, .unset, .unset, .unset, .unset, .unset] [])) (fun t_ k_ => XS.ifNo X0.here hx rfl (hb hby at_6) rfl ((if0 _ _).trans (feq hc6).1) k_) ?_
    refine Go.st (T' := s₁) (g' := (mkF m 10 #[.val (.int p1), .val (.int p2), .val (.int p3), .val (.int p4), .val (.int p5), .unset, .unset, .unset, .unset, .unset, .unset, .unset, .unset, .unset, .unset, .unset, .unset, .unset, .unset, .unset, .unset] [(.int (1 : Int32))])) (fun t_ k_ => XS.iconst X0.here hx rfl (hb hby at_9) k_) ?_
    refine Go.st (T' := s₁) (g' := (mkF m 14 #[.val (.int p1), .val (.int p2), .val (.int p3), .val (.int p4), .val (.int p5), .unset, .unset, .unset, .unset, .unset, .unset, .unset, .unset, .unset, .unset, .unset, .unset, .unset, .unset, .unset, .unset] [(.int (1 : Int32))])) (fun t_ k_ => XS.goto X0.here hx rfl (pc0 := 10) (pc' := 14) rfl (hb hby at_10) (by decide) (by decide) k_) ?_
    exact J14_1 (1 : Int32) (by rw [if_neg hc6])
set_option maxRecDepth 65536 in
set_option maxHeartbeats 40000000 in
theorem comes_1 {Post : Tables → Env → Array Value → State → Outcome → State → Prop} (hpost : ∀ tb e args s v u, (limb_1_1.after args s (.returned v) u = true ∧ limb_1_2.after args s (.returned v) u = true ∧ True) → FrameEnd s (.returned v) u (Jvm.fieldLocs frame_1_writes args s ++ Jvm.arrayLocs frame_1_arrays args s ++ Jvm.staticLocs frame_1_statics s) 16 128 → Post tb e args s (.returned v) u) :
    ArmFor flags0 classFile x code maxLocals ret World_1 tables_1 room_1 Calls_1 rest_1 Pre_1 Post := by
  intro l hfl _ _ p e ha hc hk s m args below hf hA hF happ hP
  obtain ⟨hcalls, hrest, hpre⟩ := hP
  obtain ⟨-, -, -, hnamed, -, -, -, hat⟩ := (Spec.applies_iff hf).mp happ
  obtain ⟨hg, hn⟩ := and_e (Cond.before_iff.mp (show (Jvm.Cond.and given_1 narrow_1).before args s = true from hpre))
  obtain ⟨hcnt, hg⟩ := and_e hg
  obtain ⟨ha0, hg⟩ := and_e hg
  obtain ⟨ha1, hg⟩ := and_e hg
  obtain ⟨ha2, hg⟩ := and_e hg
  obtain ⟨ha3, hg⟩ := and_e hg
  have ha4 := hg
  obtain ⟨w0, w1, w2, w3, w4, rfl⟩ : ∃ w0 w1 w2 w3 w4 : Value, args = #[w0, w1, w2, w3, w4] := by
    have hs : args.size = 5 := by simpa [Cond.value, given_1] using hcnt
    obtain ⟨L⟩ := args
    match L, hs with
    | [w0, w1, w2, w3, w4], _ => exact ⟨w0, w1, w2, w3, w4, rfl⟩
  have hw := fun d (hd : d ∈ tables_1) => atoms_spec (ws := Jvm.Cond.code x code maxLocals ret :: tables_1) hat d (List.mem_cons_of_mem _ hd)
  have hfit : Fit s := fun {y c} hc i hi => by
    obtain ⟨ha, rfl⟩ := Array.getElem?_eq_some_iff.mp hc
    have q := List.all_eq_true.mp ((Array.all_eq_true_iff_forall_mem.mp hF) _ (Array.getElem_mem ha)) i (List.mem_range.mpr hi)
    simpa [Array.getElem?_eq_getElem hi] using q
  obtain ⟨hsets, hown0⟩ := atoms_of _ (rest_1_c_eq ▸ (show rest_1_c.before _ s = true from hrest))
  have hr0 := Cond.before_iff.mp hown0
  obtain ⟨i0, ei0⟩ := is_v ha0
  obtain rfl : w0 = (.int i0) := Option.some.inj ei0
  obtain ⟨i1, ei1⟩ := is_v ha1
  obtain rfl : w1 = (.int i1) := Option.some.inj ei1
  obtain ⟨i2, ei2⟩ := is_v ha2
  obtain rfl : w2 = (.int i2) := Option.some.inj ei2
  obtain ⟨i3, ei3⟩ := is_v ha3
  obtain rfl : w3 = (.int i3) := Option.some.inj ei3
  obtain ⟨i4, ei4⟩ := is_v ha4
  obtain rfl : w4 = (.int i4) := Option.some.inj ei4
  obtain ⟨ws0, ews⟩ := arr_v (Cond.before_iff.mp (hsets _ (List.mem_of_getElem? (i := 6) rfl)))
  have hS : Sta s s.heap "java/util/ArrayList" "DEFAULTCAPACITY_EMPTY_ELEMENTDATA" "[Ljava/lang/Object;" (.ref ws0) := Sta.start ews (Or.inr ⟨hw _ (List.mem_of_getElem? (i := 11) rfl), hsets _ (List.mem_of_getElem? (i := 2) rfl)⟩)
  obtain ⟨n, o, h1, h2, h3, v, L, rfl, ⟨N, hv⟩, hq⟩ := rm0 l s _ hw tables_1 s.heap.size s.heap i0 i1 i2 i3 i4 ws0 (Nat.le_refl _) hS p e ha hc hk s m _ below hf ((Spec.applies_iff_loose hf).mp happ).1 ⟨rfl, State.Warmed39.refl s, rfl⟩ trivial
  obtain rfl : v = some (.int 1) := hv
  refine ⟨n, _, h1, h2, h3, hpost _ _ _ _ _ _ ⟨Cond.after_iff.mpr rfl, Cond.after_iff.mpr (eq_i res_at (Term.int_eval (1)) rfl), trivial⟩ ⟨hq.1, hq.2.1, (hq.2.2.sift fun y hy => Or.inr (N y hy)).mono (by decide) (by decide)⟩⟩
theorem main_1_1 : Claimed_1_1 := comes_1 fun _ _ _ _ _ _ h hF => ⟨h.1, hF⟩
theorem main_1_2 : Claimed_1_2 := comes_1 fun _ _ _ _ _ _ h hF => ⟨h.2.1, hF⟩
end Jvm.Pilot.@@N@@
namespace Jvm.Pilot.@@N@@
open Jvm Jvm.ClassFile Sem Op Lib Jvm.Free Jvm.Stand Jvm.Pilot.@@N@@.Jvm.D
/-! MADE BY PROGRAM (witnessworld.py) out of the Statement's table words and the real class files: 19 classes; the members and pool entries that the words name. The judged class is class 1, her method 1. -/
namespace start1
open Jvm.ClassFile
def u (s : String) : CpInfo := .utf8 (stringToUtf16 s)
/-- a pool by its gaps: so many unusable entries, then the entry; so many at the end -/
def gap : Nat → List CpInfo → List CpInfo
  | 0, r => r
  | n + 1, r => .unusable :: gap n r
def poolList (es : List (Nat × CpInfo)) (last : Nat) : List CpInfo := es.foldr (fun e r => gap e.1 (e.2 :: r)) (gap last [])
def pool (es : List (Nat × CpInfo)) (last : Nat) : Array CpInfo := ⟨poolList es last⟩
def fileOf (pool : Array CpInfo) (this : Nat) (attrs : Array Attribute := #[]) (ms : Array MethodInfo := #[]) (fl : Nat := 33) (sup : Nat := 0) (ifs : Array Nat := #[]) (fds : Array FieldInfo := #[]) : ClassFile where
  minorVersion := 0
  majorVersion := 65
  constantPool := pool
  accessFlags := fl
  thisClass := this
  superClass := sup
  interfaces := ifs
  fields := fds
  methods := ms
  attributes := attrs
def plain (name : String) (sup : Option ClassId) : Class where
  name := name
  kind := .ordinary
  loader := none
  accessFlags := 33
  super := sup
  interfaces := #[]
  cf := none
  fields := #[]
  methods := #[]
  instanceTypes := #[]
  staticTypes := #[]
  resolved := #[]
  callSites := []
  init := .initialized
  statics := none
  mirror := none

def pool0 : Array CpInfo := pool [(5, u "<init>"), (0, u "()V"), (1, .class_ 10), (1, u "java/lang/Object")] 113

def k0c0 : Code := { maxStack := 0, maxLocals := 1, code := object_method_1_code, exceptionTable := #[], attributes := #[] }
def k0m0 : Method := { name := "<init>", desc := "()V", sig := { parameters := [], returnType := none }, accessFlags := 1, code := some k0c0 }
/-- java/lang/Object -/
def k0 : Class := { plain "java/lang/Object" none with
  accessFlags := 33
  interfaces := #[]
  cf := some (fileOf pool0 8 #[] #[{ accessFlags := 1, nameIndex := 5, descriptorIndex := 6, attributes := #[] }] 33 0 #[] #[])
  fields := #[]
  methods := #[k0m0]
  instanceTypes := #[]
  staticTypes := #[]
  resolved := Array.replicate 124 none
  statics := none }

def pool1 : Array CpInfo := pool [(2, .class_ 4), (0, .nameAndType 5 6), (0, u "java/lang/Object"), (0, u "<init>"), (0, u "()V"), (0, .class_ 8), (0, u "com/example/kenshinkit/kenshinkit/schema/Facets"), (0, .methodref 7 3), (0, .methodref 7 11), (0, .nameAndType 12 13), (0, u "setLength"), (0, u "(I)V"), (0, .methodref 7 15), (0, .nameAndType 16 13), (0, u "setMinLength"), (0, .methodref 7 18), (0, .nameAndType 19 13), (0, u "setMaxLength"), (0, .methodref 7 21), (0, .nameAndType 22 23), (0, u "acceptsLength"), (0, u "(I)Z"), (2, .long 18446744071562067968), (1, .long 2147483647), (1, .methodref 31 32), (0, .class_ 33), (0, .nameAndType 34 35), (0, u "java/lang/Math"), (0, u "max"), (0, u "(JJ)J"), (0, .methodref 31 37), (0, .nameAndType 38 35), (0, u "min"), (0, .class_ 40), (0, u "com/example/kenshinkit/kenshinkit/schema/FacetsAcceptsLengthPinLaw"), (2, u "law"), (0, u "(IIIII)Z")] 3

def k1m0 : Method := { name := "<init>", desc := "()V", sig := { parameters := [], returnType := none }, accessFlags := 1, code := none }
def k1c1 : Code := { maxStack := 4, maxLocals := 21, code := code, exceptionTable := #[], attributes := #[] }
def k1m1 : Method := { name := "law", desc := "(IIIII)Z", sig := { parameters := [.int, .int, .int, .int, .int], returnType := some .boolean }, accessFlags := 9, code := some k1c1 }
/-- com/example/kenshinkit/kenshinkit/schema/FacetsAcceptsLengthPinLaw -/
def k1 : Class := { plain "com/example/kenshinkit/kenshinkit/schema/FacetsAcceptsLengthPinLaw" (some 0) with
  accessFlags := 49
  interfaces := #[]
  cf := some (fileOf pool1 39 #[] #[{ accessFlags := 1, nameIndex := 5, descriptorIndex := 6, attributes := #[] }, { accessFlags := 9, nameIndex := 43, descriptorIndex := 44, attributes := #[] }] 49 2 #[] #[])
  fields := #[]
  methods := #[k1m0, k1m1]
  instanceTypes := #[]
  staticTypes := #[]
  resolved := Array.replicate 48 none
  statics := none }

def pool2 : Array CpInfo := pool [(1, .methodref 2 3), (0, .class_ 4), (0, .nameAndType 5 6), (0, u "java/lang/Object"), (0, u "<init>"), (0, u "()V"), (0, .class_ 8), (0, u "java/util/ArrayList"), (0, .methodref 7 3), (0, .fieldref 11 12), (0, .class_ 13), (0, .nameAndType 14 15), (0, u "com/example/kenshinkit/kenshinkit/schema/Facets"), (0, u "patterns"), (0, u "Ljava/util/List;"), (0, .fieldref 11 17), (0, .nameAndType 18 19), (0, u "length"), (0, u "I"), (0, .fieldref 11 21), (0, .nameAndType 22 19), (0, u "minLength"), (0, .fieldref 11 24), (0, .nameAndType 25 19), (0, u "maxLength"), (8, u "enumeration"), (0, u "Ljava/util/Set;"), (8, u "minInclusive"), (0, u "Ljava/math/BigDecimal;"), (2, u "maxInclusive"), (42, u "acceptsLength"), (0, u "(I)Z"), (20, u "setLength"), (0, u "(I)V"), (0, u "setMinLength"), (0, u "setMaxLength")] 11

def k2c0 : Code := { maxStack := 3, maxLocals := 1, code := prog_125_method_1_code, exceptionTable := #[], attributes := #[] }
def k2m0 : Method := { name := "<init>", desc := "()V", sig := { parameters := [], returnType := none }, accessFlags := 0, code := some k2c0 }
def k2c1 : Code := { maxStack := 2, maxLocals := 2, code := prog_125_method_4_code, exceptionTable := #[], attributes := #[] }
def k2m1 : Method := { name := "setLength", desc := "(I)V", sig := { parameters := [.int], returnType := none }, accessFlags := 0, code := some k2c1 }
def k2c2 : Code := { maxStack := 2, maxLocals := 2, code := prog_125_method_5_code, exceptionTable := #[], attributes := #[] }
def k2m2 : Method := { name := "setMinLength", desc := "(I)V", sig := { parameters := [.int], returnType := none }, accessFlags := 0, code := some k2c2 }
def k2c3 : Code := { maxStack := 2, maxLocals := 2, code := prog_125_method_6_code, exceptionTable := #[], attributes := #[] }
def k2m3 : Method := { name := "setMaxLength", desc := "(I)V", sig := { parameters := [.int], returnType := none }, accessFlags := 0, code := some k2c3 }
def k2c4 : Code := { maxStack := 2, maxLocals := 2, code := prog_125_method_10_code, exceptionTable := #[], attributes := #[] }
def k2m4 : Method := { name := "acceptsLength", desc := "(I)Z", sig := { parameters := [.int], returnType := some .boolean }, accessFlags := 0, code := some k2c4 }
/-- com/example/kenshinkit/kenshinkit/schema/Facets -/
def k2 : Class := { plain "com/example/kenshinkit/kenshinkit/schema/Facets" (some 0) with
  accessFlags := 48
  interfaces := #[]
  cf := some (fileOf pool2 11 #[] #[{ accessFlags := 0, nameIndex := 5, descriptorIndex := 6, attributes := #[] }, { accessFlags := 0, nameIndex := 113, descriptorIndex := 114, attributes := #[] }, { accessFlags := 0, nameIndex := 115, descriptorIndex := 114, attributes := #[] }, { accessFlags := 0, nameIndex := 116, descriptorIndex := 114, attributes := #[] }, { accessFlags := 0, nameIndex := 91, descriptorIndex := 92, attributes := #[] }] 48 2 #[] #[{ accessFlags := 18, nameIndex := 14, descriptorIndex := 15, attributes := #[] }, { accessFlags := 2, nameIndex := 34, descriptorIndex := 35, attributes := #[] }, { accessFlags := 2, nameIndex := 18, descriptorIndex := 19, attributes := #[] }, { accessFlags := 2, nameIndex := 22, descriptorIndex := 19, attributes := #[] }, { accessFlags := 2, nameIndex := 25, descriptorIndex := 19, attributes := #[] }, { accessFlags := 2, nameIndex := 44, descriptorIndex := 45, attributes := #[] }, { accessFlags := 2, nameIndex := 48, descriptorIndex := 45, attributes := #[] }])
  fields := #[{ name := "patterns", type := (.object "java/util/List"), accessFlags := 18, slot := 0, constantValue := 0 }, { name := "enumeration", type := (.object "java/util/Set"), accessFlags := 2, slot := 1, constantValue := 0 }, { name := "length", type := .int, accessFlags := 2, slot := 2, constantValue := 0 }, { name := "minLength", type := .int, accessFlags := 2, slot := 3, constantValue := 0 }, { name := "maxLength", type := .int, accessFlags := 2, slot := 4, constantValue := 0 }, { name := "minInclusive", type := (.object "java/math/BigDecimal"), accessFlags := 2, slot := 5, constantValue := 0 }, { name := "maxInclusive", type := (.object "java/math/BigDecimal"), accessFlags := 2, slot := 6, constantValue := 0 }]
  methods := #[k2m0, k2m1, k2m2, k2m3, k2m4]
  instanceTypes := #[(.object "java/util/List"), (.object "java/util/Set"), .int, .int, .int, (.object "java/math/BigDecimal"), (.object "java/math/BigDecimal")]
  staticTypes := #[]
  resolved := Array.replicate 128 none
  statics := none }

def pool3 : Array CpInfo := pool [(8, .class_ 10), (1, u "java/lang/Iterable"), (24, .class_ 36), (0, u "java/lang/Object")] 25

/-- java/lang/Iterable -/
def k3 : Class := { plain "java/lang/Iterable" (some 0) with
  accessFlags := 1537
  interfaces := #[]
  cf := some (fileOf pool3 8 #[] #[] 1537 35 #[] #[])
  fields := #[]
  methods := #[]
  instanceTypes := #[]
  staticTypes := #[]
  resolved := Array.replicate 62 none
  statics := none }

def pool4 : Array CpInfo := pool [(10, .class_ 12), (1, u "java/util/Collection"), (47, .class_ 61), (0, u "java/lang/Object"), (0, .class_ 63), (0, u "java/lang/Iterable")] 51

/-- java/util/Collection -/
def k4 : Class := { plain "java/util/Collection" (some 0) with
  accessFlags := 1537
  interfaces := #[3]
  cf := some (fileOf pool4 10 #[] #[] 1537 60 #[62] #[])
  fields := #[]
  methods := #[]
  instanceTypes := #[]
  staticTypes := #[]
  resolved := Array.replicate 115 none
  statics := none }

def pool5 : Array CpInfo := pool [(1, .methodref 2 3), (0, .class_ 4), (0, .nameAndType 5 6), (0, u "java/lang/Object"), (0, u "<init>"), (0, u "()V"), (1, .class_ 10), (1, u "java/util/AbstractCollection"), (66, .class_ 78), (0, u "java/util/Collection")] 81

def k5c0 : Code := { maxStack := 1, maxLocals := 1, code := jdk_22_method_1_code, exceptionTable := #[], attributes := #[] }
def k5m0 : Method := { name := "<init>", desc := "()V", sig := { parameters := [], returnType := none }, accessFlags := 4, code := some k5c0 }
/-- java/util/AbstractCollection -/
def k5 : Class := { plain "java/util/AbstractCollection" (some 0) with
  accessFlags := 1057
  interfaces := #[4]
  cf := some (fileOf pool5 8 #[] #[{ accessFlags := 4, nameIndex := 5, descriptorIndex := 6, attributes := #[] }] 1057 2 #[77] #[])
  fields := #[]
  methods := #[k5m0]
  instanceTypes := #[]
  staticTypes := #[]
  resolved := Array.replicate 160 none
  statics := none }

def pool6 : Array CpInfo := pool [(8, .class_ 10), (1, u "java/util/SequencedCollection"), (15, .class_ 27), (0, u "java/lang/Object"), (0, .class_ 29), (0, u "java/util/Collection")] 27

/-- java/util/SequencedCollection -/
def k6 : Class := { plain "java/util/SequencedCollection" (some 0) with
  accessFlags := 1537
  interfaces := #[4]
  cf := some (fileOf pool6 8 #[] #[] 1537 26 #[28] #[])
  fields := #[]
  methods := #[]
  instanceTypes := #[]
  staticTypes := #[]
  resolved := Array.replicate 57 none
  statics := none }

def pool7 : Array CpInfo := pool [(8, .class_ 10), (1, u "java/util/List"), (92, .class_ 104), (0, u "java/lang/Object"), (15, .class_ 121), (0, u "java/util/SequencedCollection")] 129

/-- java/util/List -/
def k7 : Class := { plain "java/util/List" (some 0) with
  accessFlags := 1537
  interfaces := #[6]
  cf := some (fileOf pool7 8 #[] #[] 1537 103 #[120] #[])
  fields := #[]
  methods := #[]
  instanceTypes := #[]
  staticTypes := #[]
  resolved := Array.replicate 251 none
  statics := none }

def pool8 : Array CpInfo := pool [(1, .methodref 2 3), (0, .class_ 4), (0, .nameAndType 5 6), (0, u "java/util/AbstractCollection"), (0, u "<init>"), (0, u "()V"), (0, .fieldref 8 9), (0, .class_ 10), (0, .nameAndType 11 12), (0, u "java/util/AbstractList"), (0, u "modCount"), (0, u "I"), (64, .class_ 78), (0, u "java/util/AbstractList$Itr"), (3, .class_ 83), (0, u "java/util/AbstractList$ListItr"), (9, .class_ 94), (0, u "java/util/AbstractList$RandomAccessSubList"), (3, .class_ 99), (0, u "java/util/AbstractList$SubList"), (33, .class_ 134), (0, u "java/util/List"), (73, .class_ 209), (0, u "java/util/AbstractList$SubList$1"), (0, .class_ 211), (0, u "java/util/AbstractList$RandomAccessSpliterator")] 6

def k8c0 : Code := { maxStack := 2, maxLocals := 1, code := jdk_39_method_1_code, exceptionTable := #[], attributes := #[] }
def k8m0 : Method := { name := "<init>", desc := "()V", sig := { parameters := [], returnType := none }, accessFlags := 4, code := some k8c0 }
/-- java/util/AbstractList -/
def k8 : Class := { plain "java/util/AbstractList" (some 5) with
  accessFlags := 1057
  interfaces := #[7]
  cf := some (fileOf pool8 8 #[.nestMembers #[93, 98, 208, 210, 82, 77]] #[{ accessFlags := 4, nameIndex := 5, descriptorIndex := 6, attributes := #[] }] 1057 2 #[133] #[{ accessFlags := 132, nameIndex := 11, descriptorIndex := 12, attributes := #[] }])
  fields := #[{ name := "modCount", type := .int, accessFlags := 132, slot := 0, constantValue := 0 }]
  methods := #[k8m0]
  instanceTypes := #[.int]
  staticTypes := #[]
  resolved := Array.replicate 218 none
  statics := none }

def pool9 : Array CpInfo := pool [(1, .class_ 2), (0, u "java/util/RandomAccess"), (0, .class_ 4), (0, u "java/lang/Object")] 2

/-- java/util/RandomAccess -/
def k9 : Class := { plain "java/util/RandomAccess" (some 0) with
  accessFlags := 1537
  interfaces := #[]
  cf := some (fileOf pool9 1 #[] #[] 1537 3 #[] #[])
  fields := #[]
  methods := #[]
  instanceTypes := #[]
  staticTypes := #[]
  resolved := Array.replicate 7 none
  statics := none }

def pool10 : Array CpInfo := pool [(1, .class_ 2), (0, u "java/lang/Cloneable"), (0, .class_ 4), (0, u "java/lang/Object")] 2

/-- java/lang/Cloneable -/
def k10 : Class := { plain "java/lang/Cloneable" (some 0) with
  accessFlags := 1537
  interfaces := #[]
  cf := some (fileOf pool10 1 #[] #[] 1537 3 #[] #[])
  fields := #[]
  methods := #[]
  instanceTypes := #[]
  staticTypes := #[]
  resolved := Array.replicate 7 none
  statics := none }

def pool11 : Array CpInfo := pool [(1, .class_ 2), (0, u "java/io/Serializable"), (0, .class_ 4), (0, u "java/lang/Object")] 2

/-- java/io/Serializable -/
def k11 : Class := { plain "java/io/Serializable" (some 0) with
  accessFlags := 1537
  interfaces := #[]
  cf := some (fileOf pool11 1 #[] #[] 1537 3 #[] #[])
  fields := #[]
  methods := #[]
  instanceTypes := #[]
  staticTypes := #[]
  resolved := Array.replicate 7 none
  statics := none }

def pool12 : Array CpInfo := pool [(1, .methodref 2 3), (0, .class_ 4), (0, .nameAndType 5 6), (0, u "java/util/AbstractList"), (0, u "<init>"), (0, u "()V"), (2, .fieldref 10 11), (0, .class_ 12), (0, .nameAndType 13 14), (0, u "java/util/ArrayList"), (0, u "elementData"), (0, u "[Ljava/lang/Object;"), (2, u "EMPTY_ELEMENTDATA"), (21, .fieldref 10 40), (0, .nameAndType 41 14), (0, u "DEFAULTCAPACITY_EMPTY_ELEMENTDATA"), (8, u "size"), (0, u "I"), (96, .class_ 149), (0, u "java/util/List"), (112, .class_ 263), (0, u "java/util/ArrayList$ListItr"), (3, .class_ 268), (0, u "java/util/ArrayList$Itr"), (7, .class_ 277), (0, u "java/util/ArrayList$SubList"), (12, .class_ 291), (0, u "java/util/ArrayList$ArrayListSpliterator"), (37, .class_ 330), (0, u "java/util/RandomAccess"), (0, .class_ 332), (0, u "java/lang/Cloneable"), (0, .class_ 334), (0, u "java/io/Serializable"), (0, u "serialVersionUID"), (0, u "J"), (3, u "DEFAULT_CAPACITY"), (159, .class_ 501), (0, u "java/util/ArrayList$SubList$2"), (0, .class_ 503), (0, u "java/util/ArrayList$SubList$1")] 5

def k12c0 : Code := { maxStack := 2, maxLocals := 1, code := jdk_38_method_2_code, exceptionTable := #[], attributes := #[] }
def k12m0 : Method := { name := "<init>", desc := "()V", sig := { parameters := [], returnType := none }, accessFlags := 1, code := some k12c0 }
/-- java/util/ArrayList -/
def k12 : Class := { plain "java/util/ArrayList" (some 8) with
  accessFlags := 33
  interfaces := #[7, 9, 10, 11]
  cf := some (fileOf pool12 10 #[.nestMembers #[290, 276, 500, 502, 262, 267]] #[{ accessFlags := 1, nameIndex := 5, descriptorIndex := 6, attributes := #[] }] 33 2 #[148, 329, 331, 333] #[{ accessFlags := 26, nameIndex := 335, descriptorIndex := 336, attributes := #[] }, { accessFlags := 26, nameIndex := 340, descriptorIndex := 51, attributes := #[] }, { accessFlags := 26, nameIndex := 17, descriptorIndex := 14, attributes := #[] }, { accessFlags := 26, nameIndex := 41, descriptorIndex := 14, attributes := #[] }, { accessFlags := 128, nameIndex := 13, descriptorIndex := 14, attributes := #[] }, { accessFlags := 2, nameIndex := 50, descriptorIndex := 51, attributes := #[] }])
  fields := #[{ name := "serialVersionUID", type := .long, accessFlags := 26, slot := 0, constantValue := 0 }, { name := "DEFAULT_CAPACITY", type := .int, accessFlags := 26, slot := 1, constantValue := 0 }, { name := "EMPTY_ELEMENTDATA", type := (.array (.object "java/lang/Object")), accessFlags := 26, slot := 2, constantValue := 0 }, { name := "DEFAULTCAPACITY_EMPTY_ELEMENTDATA", type := (.array (.object "java/lang/Object")), accessFlags := 26, slot := 3, constantValue := 0 }, { name := "elementData", type := (.array (.object "java/lang/Object")), accessFlags := 128, slot := 1, constantValue := 0 }, { name := "size", type := .int, accessFlags := 2, slot := 2, constantValue := 0 }]
  methods := #[k12m0]
  instanceTypes := #[.int, (.array (.object "java/lang/Object")), .int]
  staticTypes := #[.long, .int, (.array (.object "java/lang/Object")), (.array (.object "java/lang/Object"))]
  resolved := Array.replicate 509 none
  statics := some 0 }

def pool13 : Array CpInfo := pool [(1, .class_ 2), (0, u "java/lang/Math"), (1, .class_ 6), (1, u "java/lang/Object"), (0, u "<init>"), (0, u "()V"), (89, .class_ 100), (1, u "java/lang/Math$RandomNumberGeneratorHolder"), (20, u "(JJ)J"), (50, u "negativeZeroFloatBits"), (0, u "J"), (2, u "negativeZeroDoubleBits"), (21, u "max"), (2, u "min"), (43, u "$assertionsDisabled"), (0, u "Z"), (91, u "twoToTheDoubleScaleDown"), (0, u "D"), (4, u "twoToTheDoubleScaleUp"), (9, u "E"), (3, u "PI"), (2, u "TAU"), (2, u "DEGREES_TO_RADIANS"), (0, u "RADIANS_TO_DEGREES")] 94

def k13m0 : Method := { name := "<init>", desc := "()V", sig := { parameters := [], returnType := none }, accessFlags := 2, code := none }
def k13c1 : Code := { maxStack := 4, maxLocals := 4, code := jdk_29_method_66_code, exceptionTable := #[], attributes := #[] }
def k13m1 : Method := { name := "max", desc := "(JJ)J", sig := { parameters := [.long, .long], returnType := some .long }, accessFlags := 9, code := some k13c1 }
def k13c2 : Code := { maxStack := 4, maxLocals := 4, code := jdk_29_method_70_code, exceptionTable := #[], attributes := #[] }
def k13m2 : Method := { name := "min", desc := "(JJ)J", sig := { parameters := [.long, .long], returnType := some .long }, accessFlags := 9, code := some k13c2 }
/-- java/lang/Math -/
def k13 : Class := { plain "java/lang/Math" (some 0) with
  accessFlags := 49
  interfaces := #[]
  cf := some (fileOf pool13 1 #[.nestMembers #[98]] #[{ accessFlags := 2, nameIndex := 7, descriptorIndex := 8, attributes := #[] }, { accessFlags := 9, nameIndex := 198, descriptorIndex := 121, attributes := #[] }, { accessFlags := 9, nameIndex := 201, descriptorIndex := 121, attributes := #[] }] 49 4 #[] #[{ accessFlags := 25, nameIndex := 354, descriptorIndex := 339, attributes := #[] }, { accessFlags := 25, nameIndex := 358, descriptorIndex := 339, attributes := #[] }, { accessFlags := 25, nameIndex := 361, descriptorIndex := 339, attributes := #[] }, { accessFlags := 26, nameIndex := 364, descriptorIndex := 339, attributes := #[] }, { accessFlags := 26, nameIndex := 365, descriptorIndex := 339, attributes := #[] }, { accessFlags := 26, nameIndex := 172, descriptorIndex := 173, attributes := #[] }, { accessFlags := 26, nameIndex := 176, descriptorIndex := 173, attributes := #[] }, { accessFlags := 8, nameIndex := 344, descriptorIndex := 339, attributes := #[] }, { accessFlags := 8, nameIndex := 338, descriptorIndex := 339, attributes := #[] }, { accessFlags := 4120, nameIndex := 245, descriptorIndex := 246, attributes := #[] }])
  fields := #[{ name := "E", type := .double, accessFlags := 25, slot := 0, constantValue := 0 }, { name := "PI", type := .double, accessFlags := 25, slot := 1, constantValue := 0 }, { name := "TAU", type := .double, accessFlags := 25, slot := 2, constantValue := 0 }, { name := "DEGREES_TO_RADIANS", type := .double, accessFlags := 26, slot := 3, constantValue := 0 }, { name := "RADIANS_TO_DEGREES", type := .double, accessFlags := 26, slot := 4, constantValue := 0 }, { name := "negativeZeroFloatBits", type := .long, accessFlags := 26, slot := 5, constantValue := 0 }, { name := "negativeZeroDoubleBits", type := .long, accessFlags := 26, slot := 6, constantValue := 0 }, { name := "twoToTheDoubleScaleUp", type := .double, accessFlags := 8, slot := 7, constantValue := 0 }, { name := "twoToTheDoubleScaleDown", type := .double, accessFlags := 8, slot := 8, constantValue := 0 }, { name := "$assertionsDisabled", type := .boolean, accessFlags := 4120, slot := 9, constantValue := 0 }]
  methods := #[k13m0, k13m1, k13m2]
  instanceTypes := #[]
  staticTypes := #[.double, .double, .double, .double, .double, .long, .long, .double, .double, .boolean]
  resolved := Array.replicate 460 none
  statics := none }

/-- the primitive byte -/
def k14 : Class := { plain "byte" none with kind := .primitive 'B', accessFlags := 0x411 }
/-- [B -/
def k15 : Class := { plain "[B" (some 0) with kind := .array 14 .byte, interfaces := #[10, 11], accessFlags := 1041 }

/-- the primitive int -/
def k16 : Class := { plain "int" none with kind := .primitive 'I', accessFlags := 0x411 }
/-- [I -/
def k17 : Class := { plain "[I" (some 0) with kind := .array 16 .int, interfaces := #[10, 11], accessFlags := 1041 }

/-- [Ljava/lang/Object; -/
def k18 : Class := { plain "[Ljava/lang/Object;" (some 0) with kind := .array 0 (.object "java/lang/Object"), interfaces := #[10, 11], accessFlags := 1041 }

def heap : Heap := #[{ cls := 12, slots := #[.long 0, .int 0, .ref 1, .ref 2], vm := .statics 12 },
  { cls := 18, slots := #[], vm := .none },
  { cls := 18, slots := #[], vm := .none }]
def classes : Array Class := #[k0, k1, k2, k3, k4, k5, k6, k7, k8, k9, k10, k11, k12, k13, k14, k15, k16, k17, k18]
def interned : List (Array UInt16 × Addr) := []
def slotsUsed : Nat := 4
def theMethod : MethodId := ⟨1, 1⟩
def args0 : Array Value := #[.int 5, .int 1, .int 1, .int 1, .int 1]
def aboutOver (below : List Frame) : State where
  vm := { classes := classes, interned := interned.toArray }
  heap := heap
  slotsUsed := slotsUsed
  threads := #[{ frames := .invoking theMethod args0 :: below }]
def below0 : List Frame := [.native { method := ⟨0, 0⟩, args := #[] }]
def about1 : State := aboutOver below0
def p0 : Program := .bare "" "" ""
def e0 : Env := launch0.env 0 0 0
theorem w_frames : about1.frames = Frame.invoking theMethod args0 :: below0 := rfl
set_option maxRecDepth 65536 in
theorem w_args : argsFit about1.vm theMethod args0 = true := by decide +kernel
set_option maxRecDepth 65536 in
theorem w_heap : heapFits about1 = true := by decide +kernel
set_option maxRecDepth 65536 in
theorem w_runnable : about1.curStatus? = some .runnable := by decide +kernel
set_option maxRecDepth 65536 in
theorem w_alone : about1.alone = true := by decide +kernel
set_option maxRecDepth 65536 in
theorem w_named : about1.methodNamed? x = some theMethod := by decide +kernel
set_option maxRecDepth 65536 in
theorem w_hears : about1.hears theMethod below0 = true := by decide +kernel
set_option maxRecDepth 65536 in
theorem w_ripe : about1.ripe theMethod args0 below0 = true := by decide +kernel
theorem w_running : about1.status = .running := rfl
set_option maxRecDepth 65536 in
theorem w_room : about1.hasRoom e0.platform room_1 = true :=
  launch0.hasRoom_least _ room_1 (by decide +kernel) (by decide +kernel) (by decide +kernel) (by decide +kernel) (by decide +kernel) (by decide +kernel)
theorem allAtoms_all (ts : List Jvm.Cond) (a : Array Jvm.Value) (st : Jvm.State) : (allAtoms ts).before a st = ts.all (fun c => c.before a st) := by
  induction ts with
  | nil => rfl
  | cons c t ih =>
    show (Jvm.Cond.and c (allAtoms t)).before a st = _
    rw [Jvm.Cond.before_and, ih, List.all_cons]
def words1 : List Jvm.Cond := Jvm.Cond.code x code maxLocals ret :: tables_1
/-- a 'code' word, met by the world's own term for the bytes: nothing is compared byte by byte -/
theorem code_word {y : MethodName} {bytes : ByteArray} {mx : Nat} {rt : Option FieldType} {a : Array Value} {s : State} {m : MethodId} {meth : Method} {c : Code} (h1 : s.methodNamed? y = some m) (h2 : s.vm.method? m = some meth) (h3 : meth.code = some c) (h4 : c.code = bytes)
    (h5 : (c.maxLocals == mx && c.exceptionTable.isEmpty && decide (c.maxStack ≤ mostOperands) && decide (meth.sig.returnType = rt) && !meth.locks && decide (parseMethodDescriptor y.desc = some meth.sig)) = true) : (Jvm.Cond.code y bytes mx rt).before a s = true := by
  simp only [Bool.and_eq_true, beq_iff_eq, Bool.not_eq_true', decide_eq_true_eq] at h5
  obtain ⟨⟨⟨⟨⟨g1, g2⟩, g3⟩, g4⟩, g5⟩, g6⟩ := h5
  simp [Cond.before, Cond.holds, Cond.value, h1, h2, h3, h4, g1, g2, g3, g4, g5, g6]
def isCode : Jvm.Cond → Bool
  | .code _ _ _ _ => true
  | _ => false
theorem all_split {L : List Jvm.Cond} {P : Jvm.Cond → Bool} (h1 : L.all (fun c => isCode c || P c) = true) (h2 : ∀ c ∈ L.filter isCode, P c = true) : L.all P = true := by
  refine List.all_eq_true.mpr fun c hc => ?_
  have h := List.all_eq_true.mp h1 c hc
  rcases Bool.eq_false_or_eq_true (isCode c) with hi | hi
  · exact h2 c (List.mem_filter.mpr ⟨hc, hi⟩)
  · simpa [hi] using h
set_option maxRecDepth 65536 in
theorem w_c0 : (Jvm.Cond.code x code maxLocals ret).before args0 about1 = true := code_word (m := ⟨1, 1⟩) (meth := k1m1) (c := k1c1) (by decide +kernel) rfl rfl rfl (by decide +kernel)
set_option maxRecDepth 65536 in
theorem w_c1 : (Jvm.Cond.code ({ cls := "com/example/kenshinkit/kenshinkit/schema/Facets", name := "<init>", desc := "()V" } : Jvm.MethodName) prog_125_method_1_code (1 : Nat) (Option.none : Option Jvm.ClassFile.FieldType)).before args0 about1 = true := code_word (m := ⟨2, 0⟩) (meth := k2m0) (c := k2c0) (by decide +kernel) rfl rfl rfl (by decide +kernel)
set_option maxRecDepth 65536 in
theorem w_c2 : (Jvm.Cond.code ({ cls := "java/lang/Object", name := "<init>", desc := "()V" } : Jvm.MethodName) object_method_1_code (1 : Nat) (Option.none : Option Jvm.ClassFile.FieldType)).before args0 about1 = true := code_word (m := ⟨0, 0⟩) (meth := k0m0) (c := k0c0) (by decide +kernel) rfl rfl rfl (by decide +kernel)
set_option maxRecDepth 65536 in
theorem w_c3 : (Jvm.Cond.code ({ cls := "java/util/ArrayList", name := "<init>", desc := "()V" } : Jvm.MethodName) jdk_38_method_2_code (1 : Nat) (Option.none : Option Jvm.ClassFile.FieldType)).before args0 about1 = true := code_word (m := ⟨12, 0⟩) (meth := k12m0) (c := k12c0) (by decide +kernel) rfl rfl rfl (by decide +kernel)
set_option maxRecDepth 65536 in
theorem w_c4 : (Jvm.Cond.code ({ cls := "java/util/AbstractList", name := "<init>", desc := "()V" } : Jvm.MethodName) jdk_39_method_1_code (1 : Nat) (Option.none : Option Jvm.ClassFile.FieldType)).before args0 about1 = true := code_word (m := ⟨8, 0⟩) (meth := k8m0) (c := k8c0) (by decide +kernel) rfl rfl rfl (by decide +kernel)
set_option maxRecDepth 65536 in
theorem w_c5 : (Jvm.Cond.code ({ cls := "java/util/AbstractCollection", name := "<init>", desc := "()V" } : Jvm.MethodName) jdk_22_method_1_code (1 : Nat) (Option.none : Option Jvm.ClassFile.FieldType)).before args0 about1 = true := code_word (m := ⟨5, 0⟩) (meth := k5m0) (c := k5c0) (by decide +kernel) rfl rfl rfl (by decide +kernel)
set_option maxRecDepth 65536 in
theorem w_c6 : (Jvm.Cond.code ({ cls := "com/example/kenshinkit/kenshinkit/schema/Facets", name := "acceptsLength", desc := "(I)Z" } : Jvm.MethodName) prog_125_method_10_code (2 : Nat) (Option.some Jvm.ClassFile.FieldType.boolean)).before args0 about1 = true := code_word (m := ⟨2, 4⟩) (meth := k2m4) (c := k2c4) (by decide +kernel) rfl rfl rfl (by decide +kernel)
set_option maxRecDepth 65536 in
theorem w_c7 : (Jvm.Cond.code ({ cls := "com/example/kenshinkit/kenshinkit/schema/Facets", name := "setMinLength", desc := "(I)V" } : Jvm.MethodName) prog_125_method_5_code (2 : Nat) (Option.none : Option Jvm.ClassFile.FieldType)).before args0 about1 = true := code_word (m := ⟨2, 2⟩) (meth := k2m2) (c := k2c2) (by decide +kernel) rfl rfl rfl (by decide +kernel)
set_option maxRecDepth 65536 in
theorem w_c8 : (Jvm.Cond.code ({ cls := "java/lang/Math", name := "max", desc := "(JJ)J" } : Jvm.MethodName) jdk_29_method_66_code (4 : Nat) (Option.some Jvm.ClassFile.FieldType.long)).before args0 about1 = true := code_word (m := ⟨13, 1⟩) (meth := k13m1) (c := k13c1) (by decide +kernel) rfl rfl rfl (by decide +kernel)
set_option maxRecDepth 65536 in
theorem w_c9 : (Jvm.Cond.code ({ cls := "com/example/kenshinkit/kenshinkit/schema/Facets", name := "setLength", desc := "(I)V" } : Jvm.MethodName) prog_125_method_4_code (2 : Nat) (Option.none : Option Jvm.ClassFile.FieldType)).before args0 about1 = true := code_word (m := ⟨2, 1⟩) (meth := k2m1) (c := k2c1) (by decide +kernel) rfl rfl rfl (by decide +kernel)
set_option maxRecDepth 65536 in
theorem w_c10 : (Jvm.Cond.code ({ cls := "com/example/kenshinkit/kenshinkit/schema/Facets", name := "setMaxLength", desc := "(I)V" } : Jvm.MethodName) prog_125_method_6_code (2 : Nat) (Option.none : Option Jvm.ClassFile.FieldType)).before args0 about1 = true := code_word (m := ⟨2, 3⟩) (meth := k2m3) (c := k2c3) (by decide +kernel) rfl rfl rfl (by decide +kernel)
set_option maxRecDepth 65536 in
theorem w_c11 : (Jvm.Cond.code ({ cls := "java/lang/Math", name := "min", desc := "(JJ)J" } : Jvm.MethodName) jdk_29_method_70_code (4 : Nat) (Option.some Jvm.ClassFile.FieldType.long)).before args0 about1 = true := code_word (m := ⟨13, 2⟩) (meth := k13m2) (c := k13c2) (by decide +kernel) rfl rfl rfl (by decide +kernel)
def codes1 : List Jvm.Cond := [Jvm.Cond.code x code maxLocals ret, Jvm.Cond.code ({ cls := "com/example/kenshinkit/kenshinkit/schema/Facets", name := "<init>", desc := "()V" } : Jvm.MethodName) prog_125_method_1_code (1 : Nat) (Option.none : Option Jvm.ClassFile.FieldType), Jvm.Cond.code ({ cls := "java/lang/Object", name := "<init>", desc := "()V" } : Jvm.MethodName) object_method_1_code (1 : Nat) (Option.none : Option Jvm.ClassFile.FieldType), Jvm.Cond.code ({ cls := "java/util/ArrayList", name := "<init>", desc := "()V" } : Jvm.MethodName) jdk_38_method_2_code (1 : Nat) (Option.none : Option Jvm.ClassFile.FieldType), Jvm.Cond.code ({ cls := "java/util/AbstractList", name := "<init>", desc := "()V" } : Jvm.MethodName) jdk_39_method_1_code (1 : Nat) (Option.none : Option Jvm.ClassFile.FieldType), Jvm.Cond.code ({ cls := "java/util/AbstractCollection", name := "<init>", desc := "()V" } : Jvm.MethodName) jdk_22_method_1_code (1 : Nat) (Option.none : Option Jvm.ClassFile.FieldType), Jvm.Cond.code ({ cls := "com/example/kenshinkit/kenshinkit/schema/Facets", name := "acceptsLength", desc := "(I)Z" } : Jvm.MethodName) prog_125_method_10_code (2 : Nat) (Option.some Jvm.ClassFile.FieldType.boolean), Jvm.Cond.code ({ cls := "com/example/kenshinkit/kenshinkit/schema/Facets", name := "setMinLength", desc := "(I)V" } : Jvm.MethodName) prog_125_method_5_code (2 : Nat) (Option.none : Option Jvm.ClassFile.FieldType), Jvm.Cond.code ({ cls := "java/lang/Math", name := "max", desc := "(JJ)J" } : Jvm.MethodName) jdk_29_method_66_code (4 : Nat) (Option.some Jvm.ClassFile.FieldType.long), Jvm.Cond.code ({ cls := "com/example/kenshinkit/kenshinkit/schema/Facets", name := "setLength", desc := "(I)V" } : Jvm.MethodName) prog_125_method_4_code (2 : Nat) (Option.none : Option Jvm.ClassFile.FieldType), Jvm.Cond.code ({ cls := "com/example/kenshinkit/kenshinkit/schema/Facets", name := "setMaxLength", desc := "(I)V" } : Jvm.MethodName) prog_125_method_6_code (2 : Nat) (Option.none : Option Jvm.ClassFile.FieldType), Jvm.Cond.code ({ cls := "java/lang/Math", name := "min", desc := "(JJ)J" } : Jvm.MethodName) jdk_29_method_70_code (4 : Nat) (Option.some Jvm.ClassFile.FieldType.long)]
set_option maxRecDepth 65536 in
theorem codes_eq : words1.filter isCode = codes1 := rfl
theorem w_codes : ∀ c ∈ words1.filter isCode, c.before args0 about1 = true := by
  rw [codes_eq]
  intro c hc
  simp only [codes1, List.mem_cons, List.not_mem_nil, or_false] at hc
  rcases hc with rfl | rfl | rfl | rfl | rfl | rfl | rfl | rfl | rfl | rfl | rfl | rfl
  · exact w_c0
  · exact w_c1
  · exact w_c2
  · exact w_c3
  · exact w_c4
  · exact w_c5
  · exact w_c6
  · exact w_c7
  · exact w_c8
  · exact w_c9
  · exact w_c10
  · exact w_c11
set_option maxRecDepth 65536 in
theorem w_t1 : (words1.take 24).all (fun c => isCode c || c.before args0 about1) = true := by decide +kernel
set_option maxRecDepth 65536 in
theorem w_t2 : ((words1.drop 24).take 24).all (fun c => isCode c || c.before args0 about1) = true := by decide +kernel
set_option maxRecDepth 65536 in
theorem w_t3 : ((words1.drop 24).drop 24).all (fun c => isCode c || c.before args0 about1) = true := by decide +kernel
theorem w_tables : (allAtoms (Jvm.Cond.code x code maxLocals ret :: tables_1)).before args0 about1 = true := by
  rw [allAtoms_all]
  show words1.all (fun c => c.before args0 about1) = true
  refine all_split ?_ w_codes
  rw [← List.take_append_drop 24 words1, List.all_append, w_t1, ← List.take_append_drop 24 (words1.drop 24), List.all_append, w_t2, w_t3]
  rfl
set_option maxRecDepth 65536 in
theorem w_rest : rest_1_c.before args0 about1 = true := by decide +kernel
set_option maxRecDepth 65536 in
theorem w_case : (Jvm.Cond.and given_1 narrow_1).before args0 about1 = true := by decide +kernel
theorem w_applies : (headSpec (Jvm.Cond.code x code maxLocals ret :: tables_1) room_1).applies x e0.platform about1 = true :=
  (Spec.applies_iff w_frames).mpr ⟨w_running, w_runnable, w_alone, w_named, w_hears, w_ripe, w_room, w_tables⟩
theorem atStart : AtStart classFile x code maxLocals ret World_1 tables_1 room_1 Calls_1 rest_1 Pre_1 launch0 p0 e0 about1 theMethod args0 below0 :=
  ⟨lists_1, trivial, launch0.admits_env _ _ _, launch0.least_env, fairChoices_fair.cas, fairChoices_fair.clock, w_frames, w_args, w_heap, w_applies, trivial, w_rest, w_case⟩
end start1
theorem witness_1 : WitnessClaimed_1 := ⟨start1.p0, start1.e0, start1.about1, start1.theMethod, start1.args0, start1.below0, start1.atStart⟩
end Jvm.Pilot.@@N@@
