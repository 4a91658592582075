import JvmDerived
import JvmDerived.Pilot.@@N@@Statement
import JvmDerived.Pilot.@@N@@Code
set_option linter.unusedVariables false
set_option linter.unusedSimpArgs false
@@BLOCK:NumsL.lean.txt@@
namespace Jvm.RoadKit
open Sem ClassFile Op Lib Jvm.Stand Jvm.Free Jvm.LawKit
section New
variable {p : Program} {l : Launch} {e : Env} {R : Room} {s : State} {m : MethodId} {args : Array Value} {below : List Frame} {meth : Method} {c : Code} {T : State} {locs : List Loc} {cells slots : Nat}
theorem retI (X : Stand p l e R s m args below meth c T locs cells slots) (hx : p.tables.exec = Jvm.exec) {pc : Nat} {Ls : Array Slot} {z : Int32} {rest : List Value} (hret : meth.sig.returnType = some .int) (hd : decode c.code pc = .ok (.ireturn, 1)) {fs : List Frame}
    (hl : ∀ (f : JFrame) (acts : List Action), f.method = m → f.locked = none → f.entered = [] → (doReturn e (T.setTop f) acts (some (.int z))).1 = T.setFrames fs) : Steps p.tables e below (T.setTop (mkF m pc Ls (.int z :: rest))) (T.setFrames fs) := by
  have hm' : T.vm.method? m = some meth := X.method'
  have hn : narrow .int (.int z) = .int z := rfl
  show Steps p.tables e below (T.setTop { method := m, pc := pc, locals := Ls, stack := _ :: rest, locked := none }) _
  jvm_step X.here [X.here.top, hx, hd, hm', hret, hn]
  first | (intro acts; rw [hl _ acts rfl rfl rfl]) | rw [hl _ _ rfl rfl rfl]
  exact Steps.refl _
end New
end Jvm.RoadKit
namespace Jvm.Pilot.@@N@@
open Jvm Jvm.ClassFile Sem Op Lib Jvm.Free Jvm.Stand Jvm.LawKit Jvm.RoadKit Bundle Jvm.Pilot.@@N@@.Jvm.D
section OwnLayer
variable {p : Program} {l : Launch} {e : Env} {R : Room} {s : State} {m : MethodId} {args : Array Value} {below : List Frame} {meth : Method} {c : Code} {T T' : State} {h h' : Heap} {n0 ck sk ck' sk' : Nat} {Z : State} {a0 : Array Value} {Post : Outcome → State → Prop} {g g' : JFrame}
/-- from this state and frame the run comes to an end of the invocation of which Post holds -/
def Go (p : Program) (e : Env) (below : List Frame) (Post : Outcome → State → Prop) (T : State) (g : JFrame) : Prop :=
  ∃ s₂ o, Steps p.tables e below (T.setTop g) s₂ ∧ s₂.status = .running ∧ Ended s₂ below o ∧ Post o s₂
theorem Go.st (hs : ∀ t, Steps p.tables e below (T'.setTop g') t → Steps p.tables e below (T.setTop g) t) (k : Go p e below Post T' g') : Go p e below Post T g := by
  obtain ⟨s2, o, h1, h2⟩ := k
  exact ⟨s2, o, hs _ h1, h2⟩
/-- where the walk stands: the heap is h; what was written lies at or above n0; at most ck cells and sk slots were made -/
def Stn (p : Program) (l : Launch) (e : Env) (R : Room) (s : State) (m : MethodId) (args : Array Value) (below : List Frame) (meth : Method) (c : Code) (n0 : Nat) (T : State) (h : Heap) (ck sk : Nat) : Prop :=
  T.heap = h ∧ ∃ locs, Fr n0 locs ∧ Stand p l e R s m args below meth c T locs ck sk
theorem Stn.here (X : Stn p l e R s m args below meth c n0 T h ck sk) : At T m c below := by
  obtain ⟨_, _, _, Y⟩ := X
  exact Y.here
theorem Stn.mono (X : Stn p l e R s m args below meth c n0 T h ck sk) (h1 : ck ≤ ck') (h2 : sk ≤ sk') : Stn p l e R s m args below meth c n0 T h ck' sk' := by
  obtain ⟨e1, L, N, Y⟩ := X
  exact ⟨e1, L, N, Y.more h1 h2⟩
/-- what a body's end says -/
def PostW (s : State) (n0 C S : Nat) (Q : Option Value → Heap → Prop) (o : Outcome) (U : State) : Prop :=
  ∃ v L, o = .returned v ∧ (Fr n0 L ∧ Q v U.heap) ∧ FrameEnd s o U L C S
/-- a body's contract -/
def Con (l : Launch) (y : MethodName) (bytes : ByteArray) (maxL : Nat) (ret : Option FieldType) (rm : Room) (ws : List Jvm.Cond) (Z : State) (n0 : Nat) (as' : Array Value) (h : Heap) (Q : Option Value → Heap → Prop) : Prop :=
  MetFree l y (head1 (Jvm.Cond.code y bytes maxL ret :: ws) rm) (fun a U => a = as' ∧ Z.Warmed39 U.vm ∧ U.heap = h) (fun _ _ _ _ _ => True) (fun _ U o U' => ∃ v L, o = .returned v ∧ (Fr n0 L ∧ Q v U'.heap) ∧ FrameEnd U o U' L rm.cells rm.slots)
theorem Con.body {y : MethodName} {bytes : ByteArray} {maxL : Nat} {ret : Option FieldType} {rm : Room} {ws : List Jvm.Cond} {as' : Array Value} {Q : Option Value → Heap → Prop} (hp : plainFor y = true)
    (k : ∀ (p : Program) (e : Env) (s : State) (m : MethodId) (below : List Frame) (meth : Method) (c : Code) (s₁ : State), p.tables.exec = Jvm.exec → c.code = bytes → c.maxLocals = maxL → s.vm.findClass y.cls = some m.cls → meth.name = y.name → meth.sig.returnType = ret → meth.locks = false → Z.Warmed39 s.vm →
      Stn p l e rm s m as' below meth c n0 s₁ h 0 0 → Go p e below (PostW s n0 rm.cells rm.slots Q) s₁ (entryFrame m as' maxL)) : Con l y bytes maxL ret rm ws Z n0 as' h Q := by
  refine MetFree.of_bodySF hp hisR ?_
  intro p e s m args below meth c s₁ Bd hml0 hP hK
  obtain ⟨rfl, hZ, hh⟩ := hP
  have e0 : s₁.heap = h := by rw [← hh, Bd.state]; rfl
  exact k p e s m below meth c s₁ Bd.exec Bd.bytes hml0 (findClass_of_methodNamed Bd.named) (name_of_methodNamed Bd.named Bd.method).1 Bd.returns Bd.notSynchronized hZ ⟨e0, [], Fr.nil n0, Stand.of_body Bd⟩
theorem Con.mono {y : MethodName} {bytes : ByteArray} {maxL : Nat} {ret : Option FieldType} {rm : Room} {ws : List Jvm.Cond} {as' : Array Value} {Q Q' : Option Value → Heap → Prop} (hM : Con l y bytes maxL ret rm ws Z n0 as' h Q) (hq : ∀ v h', Q v h' → Q' v h') : Con l y bytes maxL ret rm ws Z n0 as' h Q' := by
  intro p e ha hc hk s m args below hf happ hP hK
  obtain ⟨n, o, h1, h2, h3, v, L, h4, ⟨h5, h6⟩, h7⟩ := hM p e ha hc hk s m args below hf happ hP hK
  exact ⟨n, o, h1, h2, h3, v, L, h4, ⟨h5, hq _ _ h6⟩, h7⟩
/-! a long's comparison -/
theorem lcTlt {a b : Int64} (h : a < b) : ifCond.holds .lt (lcmpW a b) = true ∧ ifCond.holds .ge (lcmpW a b) = false := by
  have q : lcmpW a b < 0 := by rw [lcW]; exact (lc_lt a b).mpr h
  exact ⟨(if0 _ _).trans (tlt q).1, (if0 _ _).trans (tlt q).2.1⟩
theorem lcFlt {a b : Int64} (h : ¬ a < b) : ifCond.holds .lt (lcmpW a b) = false ∧ ifCond.holds .ge (lcmpW a b) = true := by
  have q : ¬ lcmpW a b < 0 := fun z => h ((lc_lt a b).mp (by rw [← lcW]; exact z))
  exact ⟨(if0 _ _).trans (flt q).1, (if0 _ _).trans (flt q).2.1⟩
theorem lcTgt {a b : Int64} (h : b < a) : ifCond.holds .gt (lcmpW a b) = true ∧ ifCond.holds .le (lcmpW a b) = false := by
  have q : 0 < lcmpW a b := by rw [lcW]; exact (lc_gt a b).mpr h
  exact ⟨(if0 _ _).trans (tlt q).2.2.1, (if0 _ _).trans (tlt q).2.2.2⟩
theorem lcFgt {a b : Int64} (h : ¬ b < a) : ifCond.holds .gt (lcmpW a b) = false ∧ ifCond.holds .le (lcmpW a b) = true := by
  have q : ¬ 0 < lcmpW a b := fun z => h ((lc_gt a b).mp (by rw [← lcW]; exact z))
  exact ⟨(if0 _ _).trans (flt q).2.2.1, (if0 _ _).trans (flt q).2.2.2⟩
theorem lcTeq {a b : Int64} (h : a = b) : ifCond.holds .eq (lcmpW a b) = true ∧ ifCond.holds .ne (lcmpW a b) = false := by
  have q : lcmpW a b = 0 := by rw [lcW]; exact (lc_eq a b).mpr h
  exact ⟨(if0 _ _).trans (teq q).1, (if0 _ _).trans (teq q).2⟩
theorem lcFeq {a b : Int64} (h : ¬ a = b) : ifCond.holds .eq (lcmpW a b) = false ∧ ifCond.holds .ne (lcmpW a b) = true := by
  have q : ¬ lcmpW a b = 0 := fun z => h ((lc_eq a b).mp (by rw [← lcW]; exact z))
  exact ⟨(if0 _ _).trans (feq q).1, (if0 _ _).trans (feq q).2⟩
theorem acT {a b : Addr} (h : a = b) : if_acmp.holds .eq (some a) (some b) = true ∧ if_acmp.holds .ne (some a) (some b) = false := by subst h; simp [if_acmp.holds]
theorem acF {a b : Addr} (h : ¬ a = b) : if_acmp.holds .eq (some a) (some b) = false ∧ if_acmp.holds .ne (some a) (some b) = true := by simp [if_acmp.holds, h]
/-! returns -/
theorem goRet {v : Option Value} {Q : Option Value → Heap → Prop} {C S : Nat} (X : Stn p l e R s m args below meth c n0 T h ck sk) (hlk : meth.locks = false) (hv : meth.sig.returnType = none → v = none)
    (hst : ∀ locs fs, Stand p l e R s m args below meth c T locs ck sk → (∀ (f : JFrame) (acts : List Action), f.method = m → f.locked = none → f.entered = [] → (doReturn e (T.setTop f) acts v).1 = T.setFrames fs) → Steps p.tables e below (T.setTop g) (T.setFrames fs))
    (hq : Q v h) (h1 : ck ≤ C) (h2 : sk ≤ S) : Go p e below (PostW s n0 C S Q) T g := by
  obtain ⟨eT, locs, N, Y⟩ := X
  obtain ⟨fs, hr, hrun, hended, hW, hsame⟩ := Y.leave hv hlk
  exact ⟨_, _, hst locs fs Y hr, hrun, hended, _, _, rfl, ⟨N, (by show Q v T.heap; rw [eT]; exact hq)⟩, ⟨_, rfl⟩, hW, hsame.mono h1 h2⟩
theorem goRetI {pc : Nat} {Ls : Array Slot} {z : Int32} {rest : List Value} {Q : Option Value → Heap → Prop} {C S : Nat} (X : Stn p l e R s m args below meth c n0 T h ck sk) (hx : p.tables.exec = Jvm.exec) (hlk : meth.locks = false) (hret : meth.sig.returnType = some .int)
    (hd : decode c.code pc = .ok (.ireturn, 1)) (h1 : ck ≤ C) (h2 : sk ≤ S) (hq : Q (some (.int z)) h) : Go p e below (PostW s n0 C S Q) T (mkF m pc Ls (.int z :: rest)) :=
  goRet X hlk (fun h => by rw [hret] at h; cases h) (fun _ _ Y hr => retI Y hx hret hd hr) hq h1 h2
theorem goRetZ {pc : Nat} {Ls : Array Slot} {z : Int32} {rest : List Value} {Q : Option Value → Heap → Prop} {C S : Nat} (X : Stn p l e R s m args below meth c n0 T h ck sk) (hx : p.tables.exec = Jvm.exec) (hlk : meth.locks = false) (hret : meth.sig.returnType = some .boolean)
    (hd : decode c.code pc = .ok (.ireturn, 1)) (h1 : ck ≤ C) (h2 : sk ≤ S) (hz : z = 0 ∨ z = 1) (hq : Q (some (.int z)) h) : Go p e below (PostW s n0 C S Q) T (mkF m pc Ls (.int z :: rest)) := by
  rcases hz with rfl | rfl
  · exact goRet X hlk (fun h => by rw [hret] at h; cases h) (fun _ _ Y hr => retN Y hx (t := .boolean) hret (by simp) hd hr) hq h1 h2
  · exact goRet X hlk (fun h => by rw [hret] at h; cases h) (fun _ _ Y hr => retN Y hx (t := .boolean) hret (by simp) hd hr) hq h1 h2
theorem goRetV {pc : Nat} {Ls : Array Slot} {Q : Option Value → Heap → Prop} {C S : Nat} (X : Stn p l e R s m args below meth c n0 T h ck sk) (hx : p.tables.exec = Jvm.exec) (hlk : meth.locks = false) (hret : meth.sig.returnType = none)
    (hd : decode c.code pc = .ok (.return_, 1)) (h1 : ck ≤ C) (h2 : sk ≤ S) (hq : Q none h) : Go p e below (PostW s n0 C S Q) T (mkF m pc Ls []) :=
  goRet X hlk (fun _ => rfl) (fun _ _ Y hr => Y.returnOut hx hret hd hr) hq h1 h2
theorem goRetL {pc : Nat} {Ls : Array Slot} {z : Int64} {rest : List Value} {Q : Option Value → Heap → Prop} {C S : Nat} (X : Stn p l e R s m args below meth c n0 T h ck sk) (hx : p.tables.exec = Jvm.exec) (hlk : meth.locks = false) (hret : meth.sig.returnType = some .long)
    (hd : decode c.code pc = .ok (.lreturn, 1)) (h1 : ck ≤ C) (h2 : sk ≤ S) (hq : Q (some (.long z)) h) : Go p e below (PostW s n0 C S Q) T (mkF m pc Ls (.long z :: rest)) :=
  goRet X hlk (fun h => by rw [hret] at h; cases h) (fun _ _ Y hr => by
    jvm_step Y.here [Y.here.top, hx, hd, Y.method', hret, narrow]
    first | (intro acts; rw [hr _ acts rfl rfl rfl]) | rw [hr _ _ rfl rfl rfl]
    exact Steps.refl _) hq h1 h2
theorem goRetA {pc : Nat} {Ls : Array Slot} {z : Addr} {rest : List Value} {t : FieldType} {Q : Option Value → Heap → Prop} {C S : Nat} (X : Stn p l e R s m args below meth c n0 T h ck sk) (hx : p.tables.exec = Jvm.exec) (hlk : meth.locks = false) (hret : meth.sig.returnType = some t) (ht : t.isReference = true)
    (hd : decode c.code pc = .ok (.areturn, 1)) (h1 : ck ≤ C) (h2 : sk ≤ S) (hq : Q (some (.ref z)) h) : Go p e below (PostW s n0 C S Q) T (mkF m pc Ls (.ref z :: rest)) :=
  goRet X hlk (fun h => by rw [hret] at h; cases h) (fun _ _ Y hr => by
    jvm_step Y.here [Y.here.top, hx, hd, Y.method', hret, Value.isRef, ht]
    first | (intro acts; rw [hr _ acts rfl rfl rfl]) | rw [hr _ _ rfl rfl rfl]
    exact Steps.refl _) hq h1 h2
/-! fields, objects -/
theorem goGet (X : Stn p l e R s m args below meth c n0 T h ck sk) (hx : p.tables.exec = Jvm.exec) (hZ : Z.Warmed39 s.vm) {own R0 O n d host : String} {index : Nat} (hown : s.vm.findClass own = some m.cls) (w : (Cond.fieldLink own index R0 n d).before a0 Z = true ∨ (Cond.fieldLinkNest own index R0 n d host).before a0 Z = true) (via : Via Z R0 O n d)
    {a : Addr} {v : Value} (F : Fld Z h a O n d v) {pc : Nat} {ls : Array Slot} {rest : List Value} (hd : decode c.code pc = .ok (.getfield index, 3))
    (k : ∀ T', Stn p l e R s m args below meth c n0 T' h ck sk → Go p e below Post T' (mkF m (pc + 3) ls (v :: rest))) : Go p e below Post T (mkF m pc ls (.ref a :: rest)) := by
  obtain ⟨eT, locs, N, Y⟩ := X
  obtain ⟨T', X', e', st⟩ := getF Y hx hZ hown w via eT F (g := mkF m pc ls (.ref a :: rest)) rfl rfl hd
  exact Go.st st (k T' ⟨e', locs, N, X'⟩)
theorem goPut (X : Stn p l e R s m args below meth c n0 T h ck sk) (hx : p.tables.exec = Jvm.exec) (hZ : Z.Warmed39 s.vm) {own R0 O n d host C : String} {index kk : Nat} {ty : FieldType} (hown : s.vm.findClass own = some m.cls) (w : (Cond.fieldLink own index R0 n d).before a0 Z = true ∨ (Cond.fieldLinkNest own index R0 n d host).before a0 Z = true) (via : Via Z R0 O n d)
    {a : Addr} {v old : Value} (F : Fld Z h a O n d old) (E : Exa Z h a C) (L : (Cond.lays C O n d).before a0 Z = true ∨ ((Cond.laysFinal C O n d).before a0 Z = true ∧ own = O ∧ meth.name = "<init>")) (wi : (Cond.instantiable C kk).before a0 Z = true)
    (hty : parseFieldDescriptor d = some ty) (hn : narrow ty v = v) (hf : fits ty v = true) (ha : n0 ≤ a) {pc : Nat} {ls : Array Slot} {rest : List Value} (hd : decode c.code pc = .ok (.putfield index, 3))
    (k : ∀ T' h', Stn p l e R s m args below meth c n0 T' h' ck sk → Wr h h' a (Jvm.RoadKit.slotOf Z O n d) v → Go p e below Post T' (mkF m (pc + 3) ls rest)) : Go p e below Post T (mkF m pc ls (v :: .ref a :: rest)) := by
  obtain ⟨eT, locs, N, Y⟩ := X
  obtain ⟨T', h', X', e', W, st⟩ := putF Y hx hZ hown w via eT F E L wi hty hn hf (g := mkF m pc ls (v :: .ref a :: rest)) rfl rfl hd
  exact Go.st st (k T' h' ⟨e', _, Fr.snoc X' N ha, X'⟩ W)
theorem goPutN (X : Stn p l e R s m args below meth c n0 T h ck sk) (hx : p.tables.exec = Jvm.exec) (hZ : Z.Warmed39 s.vm) {own R0 O n d C : String} {index kk : Nat} {ty : FieldType} (hown : s.vm.findClass own = some m.cls) (w : (Cond.fieldLink own index R0 n d).before a0 Z = true) (via : Via Z R0 O n d)
    {a : Addr} {v v' old : Value} (F : Fld Z h a O n d old) (E : Exa Z h a C) (L : (Cond.lays C O n d).before a0 Z = true ∨ ((Cond.laysFinal C O n d).before a0 Z = true ∧ own = O ∧ meth.name = "<init>")) (wi : (Cond.instantiable C kk).before a0 Z = true)
    (hty : parseFieldDescriptor d = some ty) (hn : narrow ty v = v') (hf : fits ty v' = true) (ha : n0 ≤ a) {pc : Nat} {ls : Array Slot} {rest : List Value} (hd : decode c.code pc = .ok (.putfield index, 3))
    (k : ∀ T' h', Stn p l e R s m args below meth c n0 T' h' ck sk → Wr h h' a (Jvm.RoadKit.slotOf Z O n d) v' → Go p e below Post T' (mkF m (pc + 3) ls rest)) : Go p e below Post T (mkF m pc ls (v :: .ref a :: rest)) := by
  obtain ⟨eT, locs, N, Y⟩ := X
  obtain ⟨T', h', X', e', W, st⟩ := putFN Y hx hZ hown w via eT F E L wi hty hn hf (g := mkF m pc ls (v :: .ref a :: rest)) rfl rfl hd
  exact Go.st st (k T' h' ⟨e', _, Fr.snoc X' N ha, X'⟩ W)
theorem goNew (X : Stn p l e R s m args below meth c n0 T h ck sk) (hx : p.tables.exec = Jvm.exec) (hZ : Z.Warmed39 s.vm) {own C : String} {index n : Nat} (hown : s.vm.findClass own = some m.cls) (w : (Cond.classLink own index C).before a0 Z = true) (wi : (Cond.instantiable C n).before a0 Z = true) (wz : (Cond.initialized C).before a0 Z = true)
    {pc : Nat} {ls : Array Slot} {st : List Value} (hd : decode c.code pc = .ok (.new index, 3)) (hc : ck + 1 ≤ R.cells) (hl : sk + n ≤ R.slots)
    (k : ∀ T' h' a, a = h.size → Stn p l e R s m args below meth c n0 T' h' (ck + 1) (sk + n) → Ext h h' → Exa Z h' a C → (∀ {O nm d : String} {ty : FieldType}, Laid Z a0 C O nm d → parseFieldDescriptor d = some ty → Fld Z h' a O nm d (defaultValue ty)) → Go p e below Post T' (mkF m (pc + 3) ls (.ref a :: st))) : Go p e below Post T (mkF m pc ls st) := by
  obtain ⟨eT, locs, N, Y⟩ := X
  obtain ⟨T', h', X', e', E, A, D, -, stp⟩ := newO Y hx hZ hown w wi wz eT (g := mkF m pc ls st) rfl hd hc hl
  exact Go.st stp (k T' h' _ rfl ⟨e', locs, N, X'⟩ E A D)
theorem goInit (X : Stn p l e R s m args below meth c n0 T h ck sk) (hx : p.tables.exec = Jvm.exec) (hZ : Z.Warmed39 s.vm) {own : String} {idx : Nat} (hown : s.vm.findClass own = some m.cls) (w1 : (Cond.methodLink own idx Lib.objectInit).before a0 Z = true) (w2 : (Cond.instanceMethod Lib.objectInit).before a0 Z = true)
    (w3 : (Cond.code Lib.objectInit object_method_1_code 1 none).before a0 Z = true) {pc : Nat} {ls : Array Slot} {a : Addr} {rest : List Value} (hsize : ls.size = c.maxLocals) (hd : decode c.code pc = .ok (.invokespecial idx, 3))
    (hf : 1 ≤ R.frames) {W : Nat} (hW : (rest.map fun v => v.category).sum ≤ W) (hl : W + 12 ≤ R.locals)
    (k : ∀ T', Stn p l e R s m args below meth c n0 T' h ck sk → Go p e below Post T' (mkF m (pc + 3) ls rest)) : Go p e below Post T (mkF m pc ls (.ref a :: rest)) := by
  obtain ⟨eT, locs, N, Y⟩ := X
  obtain ⟨T', X', e', st⟩ := initO Y hx hZ hown w1 w2 w3 eT (g := mkF m pc ls (.ref a :: rest)) rfl hsize rfl hd hf (W := W) (by show 2 * 0 + _ ≤ _; omega) hl
  exact Go.st st (k T' ⟨e', locs, N, X'⟩)
theorem Stn.ldcI (X : Stn p l e R s m args below meth c n0 T h ck sk) (hx : p.tables.exec = Jvm.exec) (hZ : Z.Warmed39 s.vm) {own : String} {index : Nat} {v : Int32} (hown : s.vm.findClass own = some m.cls) (w : (Cond.constant own index v).before a0 Z = true)
    {pc : Nat} {ls : Array Slot} {st : List Value} (hd : decode c.code pc = .ok (.ldc index, 2)) {t : State} (k : Steps p.tables e below (T.setTop (mkF m (pc + 2) ls (.int v :: st))) t) : Steps p.tables e below (T.setTop (mkF m pc ls st)) t := by
  obtain ⟨eT, locs, N, Y⟩ := X
  exact Y.ldcInt hx hown (mvT hZ w) (g := mkF m pc ls st) rfl hd t k
theorem Stn.ldcJ (X : Stn p l e R s m args below meth c n0 T h ck sk) (hx : p.tables.exec = Jvm.exec) (hZ : Z.Warmed39 s.vm) {own : String} {index : Nat} {v : Int64} (hown : s.vm.findClass own = some m.cls) (w : (Cond.constantLong own index v).before a0 Z = true)
    {pc : Nat} {ls : Array Slot} {st : List Value} (hd : decode c.code pc = .ok (.ldc2_w index, 3)) {t : State} (k : Steps p.tables e below (T.setTop (mkF m (pc + 3) ls (.long v :: st))) t) : Steps p.tables e below (T.setTop (mkF m pc ls st)) t := by
  obtain ⟨eT, locs, N, Y⟩ := X
  exact Y.ldc2Long hx hown (mvT hZ w) (g := mkF m pc ls st) rfl hd t k
/-! arrays: of kind ty, length n, whose places hold f -/
def Ary (Z : State) (h : Heap) (a : Addr) (ty : FieldType) (n : Nat) (f : Nat → Value) : Prop := ∃ cl : Cell, Arr Z h a cl ty ∧ cl.slots.size = n ∧ ∀ i, i < n → cl.slots[i]? = some (f i)
theorem Ary.lt {a : Addr} {ty : FieldType} {n : Nat} {f : Nat → Value} (A : Ary Z h a ty n f) : a < h.size := by obtain ⟨cl, A, -⟩ := A; exact A.lt
theorem Ary.ext {a : Addr} {ty : FieldType} {n : Nat} {f : Nat → Value} (E : Ext h h') (A : Ary Z h a ty n f) : Ary Z h' a ty n f := by obtain ⟨cl, A, r⟩ := A; exact ⟨cl, A.ext E, r⟩
theorem Ary.other {a b : Addr} {ty : FieldType} {n sl : Nat} {f : Nat → Value} {v : Value} (W : Wr h h' b sl v) (A : Ary Z h a ty n f) (q : a ≠ b) : Ary Z h' a ty n f := by obtain ⟨cl, A, r⟩ := A; exact ⟨cl, A.other W q, r⟩
theorem Ary.keep {a : Addr} {ty : FieldType} {n : Nat} {f : Nat → Value} {ws : List Addr} (A : Ary Z h a ty n f) (K : Keep h h' ws) (q : a ∉ ws) : Ary Z h' a ty n f := by obtain ⟨cl, A, r⟩ := A; exact ⟨cl, ⟨K.2.1 a cl A.1 q, A.2⟩, r⟩
theorem Ary.congr {a : Addr} {ty : FieldType} {n : Nat} {f f' : Nat → Value} (A : Ary Z h a ty n f) (q : ∀ i, i < n → f i = f' i) : Ary Z h a ty n f' := by obtain ⟨cl, A, r1, r2⟩ := A; exact ⟨cl, A, r1, fun i hi => by rw [← q i hi]; exact r2 i hi⟩
theorem Ary.set {a : Addr} {ty : FieldType} {n j : Nat} {f : Nat → Value} {v : Value} (A : Ary Z h a ty n f) (W : Wr h h' a j v) : Ary Z h' a ty n (fun i => if i = j then v else f i) := by
  obtain ⟨cl, A, r1, r2⟩ := A
  have A' := A.same W
  obtain ⟨c1, q1, -, q2, -⟩ := W
  cases q1.symm.trans A.1
  refine ⟨_, A', by rw [sz_set]; exact r1, fun i hi => ?_⟩
  by_cases hij : i = j
  · subst hij
    simp [Cell.setSlot, q2]
  · have : j ≠ i := fun z => hij z.symm
    simp [Cell.setSlot, hij, Array.getElem?_setIfInBounds_ne this, r2 i hi]
theorem Ary.new {k : ClassId} {a : Addr} {ty : FieldType} {z : Int32} (A : Arr Z h a (newA k ty z) ty) : Ary Z h a ty z.toNatClampNeg (fun _ => defaultValue ty) :=
  ⟨_, A, sz_new _ _ _, fun i hi => by simp [newA, hi]⟩
theorem ne_ary {a b : Addr} {C : String} {kk n : Nat} {ty : FieldType} {f : Nat → Value} (F : Exa Z h a C) (wi : (Cond.instantiable C kk).before a0 Z = true) (G : Ary Z h b ty n f) : a ≠ b := by
  obtain ⟨cl, A, -⟩ := G
  exact ne_arr F wi A
theorem goNewA (X : Stn p l e R s m args below meth c n0 T h ck sk) (hx : p.tables.exec = Jvm.exec) (hZ : Z.Warmed39 s.vm) {aty : ArrayType} (w : (Cond.arrayClass (newarray.typeOf aty)).before a0 Z = true)
    {pc : Nat} {ls : Array Slot} {n : Int32} {rest : List Value} (hd : decode c.code pc = .ok (.newarray aty, 2)) (hn : ¬ n < 0) {cap : Nat} (hcap : n.toNatClampNeg ≤ cap) (hb : cap * 8 ≤ 536870912) (hc : ck + 1 ≤ R.cells) (hl : sk + cap ≤ R.slots) {ad : String} (had : "[" ++ (newarray.typeOf aty).toString = ad)
    (k : ∀ T' h' a, a = h.size → Stn p l e R s m args below meth c n0 T' h' (ck + 1) (sk + cap) → Ext h h' → Exa Z h' a ad → Ary Z h' a (newarray.typeOf aty) n.toNatClampNeg (fun _ => defaultValue (newarray.typeOf aty)) → Go p e below Post T' (mkF m (pc + 2) ls (.ref a :: rest))) : Go p e below Post T (mkF m pc ls (.int n :: rest)) := by
  obtain ⟨eT, locs, N, Y⟩ := X
  obtain ⟨T', h', cA, X', e', E, A, Ex, st⟩ := newPE Y hx hZ w eT (g := mkF m pc ls (.int n :: rest)) rfl hd rfl hn hcap hb hc hl had
  exact Go.st st (k T' h' _ rfl ⟨e', locs, N, X'⟩ E Ex (Ary.new A))
theorem goClone (X : Stn p l e R s m args below meth c n0 T h ck sk) (hx : p.tables.exec = Jvm.exec) (hZ : Z.Warmed39 s.vm) {own ad : String} {index : Nat} (hown : s.vm.findClass own = some m.cls)
    (w1 : (Cond.methodLink own index ⟨ad, "clone", "()Ljava/lang/Object;"⟩).before a0 Z = true) (w2 : (Cond.sameMethod ad "java/lang/Object" "clone" "()Ljava/lang/Object;").before a0 Z = true) (w3 : (Cond.native ⟨"java/lang/Object", "clone", "()Ljava/lang/Object;"⟩).before a0 Z = true)
    (w4 : (Cond.instanceMethod ⟨"java/lang/Object", "clone", "()Ljava/lang/Object;"⟩).before a0 Z = true) (w5 : (Cond.selects ad ⟨ad, "clone", "()Ljava/lang/Object;"⟩ ⟨"java/lang/Object", "clone", "()Ljava/lang/Object;"⟩).before a0 Z = true) (w6 : (Cond.castable ad "java/lang/Cloneable").before a0 Z = true)
    {a : Addr} {ty : FieldType} {n : Nat} {f : Nat → Value} (A : Ary Z h a ty n f) (E : Exa Z h a ad) (hfit : ∀ i, i < n → fits ty (f i) = true) {pc : Nat} {ls : Array Slot} {rest : List Value} (hsize : ls.size = c.maxLocals) (hd : decode c.code pc = .ok (.invokevirtual index, 3))
    (hf : 1 ≤ R.frames) {W cap : Nat} (hW : (rest.map fun v => v.category).sum = W) (hl : W + 14 ≤ R.locals) (hcap : n ≤ cap) (hc : ck + 1 ≤ R.cells) (hsl : sk + cap ≤ R.slots)
    (k : ∀ T' h' b, b = h.size → Stn p l e R s m args below meth c n0 T' h' (ck + 1) (sk + cap) → Ext h h' → Exa Z h' b ad → Ary Z h' b ty n f → Go p e below Post T' (mkF m (pc + 3) ls (.ref b :: rest))) : Go p e below Post T (mkF m pc ls (.ref a :: rest)) := by
  obtain ⟨eT, locs, N, Y⟩ := X
  obtain ⟨cl, A, r1, r2⟩ := A
  have FC : FitC Z cl := fitC_of A fun i hi v hv => by
    rw [r2 i (r1 ▸ hi)] at hv
    cases hv
    exact hfit i (r1 ▸ hi)
  obtain ⟨T', h', X', e', Ex, A', E', st⟩ := cloneA Y hx hZ hown w1 w2 w3 w4 w5 w6 eT A E FC (g := mkF m pc ls (.ref a :: rest)) rfl hsize rfl hd hf (W := W) (cap := cap) (by show 2 * 0 + _ ≤ _; omega) hl (by rw [r1]; exact hcap) hc hsl
  exact Go.st st (k T' h' _ rfl ⟨e', locs, N, X'⟩ Ex E' ⟨_, A', r1, r2⟩)
theorem goCast (X : Stn p l e R s m args below meth c n0 T h ck sk) (hx : p.tables.exec = Jvm.exec) (hZ : Z.Warmed39 s.vm) {own K : String} {index : Nat} (hown : s.vm.findClass own = some m.cls) (w : (Cond.classLink own index K).before a0 Z = true) {a : Addr} (F : Ins Z h a K true)
    {pc : Nat} {ls : Array Slot} {rest : List Value} (hd : decode c.code pc = .ok (.checkcast index, 3)) (k : ∀ T', Stn p l e R s m args below meth c n0 T' h ck sk → Go p e below Post T' (mkF m (pc + 3) ls (.ref a :: rest))) : Go p e below Post T (mkF m pc ls (.ref a :: rest)) := by
  obtain ⟨eT, locs, N, Y⟩ := X
  obtain ⟨T', X', e', st⟩ := castY Y hx hZ hown w eT F (g := mkF m pc ls (.ref a :: rest)) rfl rfl hd
  exact Go.st st (k T' ⟨e', locs, N, X'⟩)
theorem goLen (X : Stn p l e R s m args below meth c n0 T h ck sk) (hx : p.tables.exec = Jvm.exec) (hZ : Z.Warmed39 s.vm) {a : Addr} {ty : FieldType} {n : Nat} {f : Nat → Value} (A : Ary Z h a ty n f) {pc : Nat} {ls : Array Slot} {rest : List Value} (hd : decode c.code pc = .ok (.arraylength, 1))
    (k : Go p e below Post T (mkF m (pc + 1) ls (.int n.toInt32 :: rest))) : Go p e below Post T (mkF m pc ls (.ref a :: rest)) := by
  obtain ⟨eT, locs, N, Y⟩ := X
  obtain ⟨cl, A, r1, -⟩ := A
  subst r1
  exact Go.st (fun t q => Y.arraylength hx (by rw [eT]; exact A.1) (State.isArrayOf_alike hZ.alike A.2.1) (g := mkF m pc ls (.ref a :: rest)) rfl rfl hd t q) k
theorem goLdI (X : Stn p l e R s m args below meth c n0 T h ck sk) (hx : p.tables.exec = Jvm.exec) (hZ : Z.Warmed39 s.vm) {a : Addr} {n : Nat} {f : Nat → Int32} (A : Ary Z h a .int n (fun i => .int (f i))) {j : Int32} (hj : ¬ (j < 0 ∨ n ≤ j.toNatClampNeg)) {pc : Nat} {ls : Array Slot} {rest : List Value} (hd : decode c.code pc = .ok (.iaload, 1))
    (k : Go p e below Post T (mkF m (pc + 1) ls (.int (f j.toNatClampNeg) :: rest))) : Go p e below Post T (mkF m pc ls (.int j :: .ref a :: rest)) := by
  obtain ⟨eT, locs, N, Y⟩ := X
  obtain ⟨cl, A, r1, r2⟩ := A
  subst r1
  exact Go.st (fun t q => Y.iaload hx (j := j) (v := .int (f j.toNatClampNeg)) (by rw [eT]; exact A.1) (State.isArrayOf_alike hZ.alike A.2.1) A.2.2 hj (r2 _ (by omega)) (g := mkF m pc ls (.int j :: .ref a :: rest)) rfl rfl hd t q) k
theorem goLdJ (X : Stn p l e R s m args below meth c n0 T h ck sk) (hx : p.tables.exec = Jvm.exec) (hZ : Z.Warmed39 s.vm) {a : Addr} {n : Nat} {f : Nat → Int64} (A : Ary Z h a .long n (fun i => .long (f i))) {j : Int32} (hj : ¬ (j < 0 ∨ n ≤ j.toNatClampNeg)) {pc : Nat} {ls : Array Slot} {rest : List Value} (hd : decode c.code pc = .ok (.laload, 1))
    (k : Go p e below Post T (mkF m (pc + 1) ls (.long (f j.toNatClampNeg) :: rest))) : Go p e below Post T (mkF m pc ls (.int j :: .ref a :: rest)) := by
  obtain ⟨eT, locs, N, Y⟩ := X
  obtain ⟨cl, A, r1, r2⟩ := A
  subst r1
  exact Go.st (fun t q => Y.laload hx (j := j) (v := .long (f j.toNatClampNeg)) (by rw [eT]; exact A.1) (State.isArrayOf_alike hZ.alike A.2.1) A.2.2 hj (r2 _ (by omega)) (g := mkF m pc ls (.int j :: .ref a :: rest)) rfl rfl hd t q) k
theorem goStI (X : Stn p l e R s m args below meth c n0 T h ck sk) (hx : p.tables.exec = Jvm.exec) (hZ : Z.Warmed39 s.vm) {a : Addr} {n : Nat} {f : Nat → Int32} (A : Ary Z h a .int n (fun i => .int (f i))) {j x : Int32} (hj : ¬ (j < 0 ∨ n ≤ j.toNatClampNeg)) (ha : n0 ≤ a) {pc : Nat} {ls : Array Slot} {rest : List Value} (hd : decode c.code pc = .ok (.iastore, 1))
    (k : ∀ T' h', Stn p l e R s m args below meth c n0 T' h' ck sk → Wr h h' a j.toNatClampNeg (.int x) → Ary Z h' a .int n (fun i => .int (if i = j.toNatClampNeg then x else f i)) → Go p e below Post T' (mkF m (pc + 1) ls rest)) : Go p e below Post T (mkF m pc ls (.int x :: .int j :: .ref a :: rest)) := by
  obtain ⟨eT, locs, N, Y⟩ := X
  have A0 := A
  obtain ⟨cl, A, r1, r2⟩ := A
  subst r1
  obtain ⟨T', h', X', e', W, st⟩ := stI Y hx hZ eT A hj (g := mkF m pc ls (.int x :: .int j :: .ref a :: rest)) rfl rfl hd
  exact Go.st st (k T' h' ⟨e', _, Fr.snoc X' N ha, X'⟩ W ((A0.set W).congr fun i _ => by split <;> rfl))
theorem goStJ (X : Stn p l e R s m args below meth c n0 T h ck sk) (hx : p.tables.exec = Jvm.exec) (hZ : Z.Warmed39 s.vm) {a : Addr} {n : Nat} {f : Nat → Int64} (A : Ary Z h a .long n (fun i => .long (f i))) {j : Int32} {x : Int64} (hj : ¬ (j < 0 ∨ n ≤ j.toNatClampNeg)) (ha : n0 ≤ a) {pc : Nat} {ls : Array Slot} {rest : List Value} (hd : decode c.code pc = .ok (.lastore, 1))
    (k : ∀ T' h', Stn p l e R s m args below meth c n0 T' h' ck sk → Wr h h' a j.toNatClampNeg (.long x) → Ary Z h' a .long n (fun i => .long (if i = j.toNatClampNeg then x else f i)) → Go p e below Post T' (mkF m (pc + 1) ls rest)) : Go p e below Post T (mkF m pc ls (.long x :: .int j :: .ref a :: rest)) := by
  obtain ⟨eT, locs, N, Y⟩ := X
  have A0 := A
  obtain ⟨cl, A, r1, r2⟩ := A
  subst r1
  obtain ⟨T', h', X', e', W, st⟩ := stJ Y hx hZ eT A hj (g := mkF m pc ls (.long x :: .int j :: .ref a :: rest)) rfl rfl hd
  exact Go.st st (k T' h' ⟨e', _, Fr.snoc X' N ha, X'⟩ W ((A0.set W).congr fun i _ => by split <;> rfl))
/-! calls -/
theorem goStatic (X : Stn p l e R s m args below meth c n0 T h ck sk) (hx : p.tables.exec = Jvm.exec) (hZ : Z.Warmed39 s.vm) {own : String} {index : Nat} {y : MethodName} {bytes : ByteArray} {maxL : Nat} {ret : Option FieldType} {rm : Room} {as' : Array Value} {Q : Option Value → Heap → Prop}
    (hown : s.vm.findClass own = some m.cls) (w1 : (Cond.methodLink own index y).before a0 Z = true) (w2 : (Cond.static y).before a0 Z = true) (w3 : (Cond.initialized y.cls).before a0 Z = true) (w4 : (Cond.code y bytes maxL ret).before a0 Z = true)
    (hy : y.cls ≠ "java/lang/invoke/MethodHandle" ∧ y.cls ≠ "java/lang/invoke/VarHandle") (hM : Con l y bytes maxL ret rm [] Z n0 as' h Q) (W : Nat) (hf : rm.frames + 1 ≤ R.frames) (hl : W + (maxL + 11) + rm.locals ≤ R.locals)
    {pc : Nat} {ls : Array Slot} {stk : List Value} (hsize : ls.size = c.maxLocals) (argsL rest : List Value) (hlen : ∀ sig, parseMethodDescriptor y.desc = some sig → argsL.length = sig.parameters.length) (has : argsL.toArray = as') (hstk : stk = argsL.reverse ++ rest) (hW : (rest.map fun v => v.category).sum = W)
    (hd : decode c.code pc = .ok (.invokestatic index, 3)) (hc : ck + rm.cells ≤ R.cells) (hs : sk + rm.slots ≤ R.slots)
    (k : ∀ v T' h', Stn p l e R s m args below meth c n0 T' h' (ck + rm.cells) (sk + rm.slots) → Q v h' → Go p e below Post T' (mkF m (pc + 3) ls (v.toList ++ rest))) : Go p e below Post T (mkF m pc ls stk) := by
  obtain ⟨eT, locs, N, Y⟩ := X
  obtain ⟨v, _, ⟨T', L', k', n'⟩, -, X', ⟨Lc, ⟨hN, hQ⟩, l', y', z'⟩, st⟩ := Jvm.LawKit.callS Y hx (y := y) hown (mvT hZ w1) (mvT hZ w2) (mvT hZ w3) (mvT hZ w4) hy (backOf (W := W) (Q := fun v h' L => Fr n0 L ∧ Q v h') hM hZ w4 w3 hf hl) (g := mkF m pc ls stk) rfl hsize (argsL := argsL) (rest := rest) hlen hstk (by show 2 * 0 + _ ≤ _; omega) hd (fun _ _ => ⟨has, eT, hc, hs⟩)
  dsimp only [Pt.U, Pt.locs, Pt.cells, Pt.slots] at X' l' y' z' st hQ
  subst l' y' z'
  exact Go.st st (k v T' T'.heap ⟨rfl, _, Fr.app N hN, X'⟩ hQ)
theorem goCtor (X : Stn p l e R s m args below meth c n0 T h ck sk) (hx : p.tables.exec = Jvm.exec) (hZ : Z.Warmed39 s.vm) {own : String} {index : Nat} {y : MethodName} {bytes : ByteArray} {maxL : Nat} {rm : Room} {as' : Array Value} {Q : Option Value → Heap → Prop} (hy1 : y.name = "<init>")
    (hown : s.vm.findClass own = some m.cls) (w1 : (Cond.methodLink own index y).before a0 Z = true) (w2 : (Cond.instanceMethod y).before a0 Z = true) (w3 : (Cond.initialized y.cls).before a0 Z = true) (w4 : (Cond.code y bytes maxL none).before a0 Z = true)
    (hy : y.cls ≠ "java/lang/invoke/MethodHandle" ∧ y.cls ≠ "java/lang/invoke/VarHandle") (hM : Con l y bytes maxL none rm [] Z n0 as' h Q) (W : Nat) (hf : rm.frames + 1 ≤ R.frames) (hl : W + (maxL + 11) + rm.locals ≤ R.locals)
    {pc : Nat} {ls : Array Slot} {stk : List Value} (hsize : ls.size = c.maxLocals) (a : Addr) (argsL rest : List Value) (hlen : ∀ sig, parseMethodDescriptor y.desc = some sig → argsL.length = sig.parameters.length) (has : (.ref a :: argsL).toArray = as') (hstk : stk = argsL.reverse ++ .ref a :: rest) (hW : (rest.map fun v => v.category).sum = W)
    (hd : decode c.code pc = .ok (.invokespecial index, 3)) (hc : ck + rm.cells ≤ R.cells) (hs : sk + rm.slots ≤ R.slots)
    (k : ∀ v T' h', Stn p l e R s m args below meth c n0 T' h' (ck + rm.cells) (sk + rm.slots) → Q v h' → Go p e below Post T' (mkF m (pc + 3) ls (v.toList ++ rest))) : Go p e below Post T (mkF m pc ls stk) := by
  obtain ⟨eT, locs, N, Y⟩ := X
  obtain ⟨v, _, ⟨T', L', k', n'⟩, -, X', ⟨Lc, ⟨hN, hQ⟩, l', y', z'⟩, st⟩ := Y.specialBack hx (y := y) hy1 hown (mvT hZ w1) (mvT hZ w2) (mvT hZ w4) hy (backOf (W := W) (Q := fun v h' L => Fr n0 L ∧ Q v h') hM hZ w4 w3 hf hl) (g := mkF m pc ls stk) rfl hsize (Steps.refl _) (a := a) (argsL := argsL) (rest := rest) hlen hstk (by show 2 * 0 + _ ≤ _; omega) hd (fun _ _ => ⟨has, eT, hc, hs⟩)
  dsimp only [Pt.U, Pt.locs, Pt.cells, Pt.slots] at X' l' y' z' st hQ
  subst l' y' z'
  exact Go.st (fun t q => st.trans q) (k v T' T'.heap ⟨rfl, _, Fr.app N hN, X'⟩ hQ)
theorem goVirt (X : Stn p l e R s m args below meth c n0 T h ck sk) (hx : p.tables.exec = Jvm.exec) (hZ : Z.Warmed39 s.vm) {own C : String} {index : Nat} {y z : MethodName} {bytes : ByteArray} {maxL : Nat} {ret : Option FieldType} {rm : Room} {as' : Array Value} {Q : Option Value → Heap → Prop}
    (hown : s.vm.findClass own = some m.cls) (w1 : (Cond.methodLink own index y).before a0 Z = true) (w2 : (Cond.declares y).before a0 Z = true) (nf : NotFace s y) (w5 : (Cond.selects C y z).before a0 Z = true) (w6 : (Cond.instanceMethod z).before a0 Z = true) (w3 : (Cond.initialized z.cls).before a0 Z = true) (w4 : (Cond.code z bytes maxL ret).before a0 Z = true)
    (hy : y.cls ≠ "java/lang/invoke/MethodHandle" ∧ y.cls ≠ "java/lang/invoke/VarHandle") {a : Addr} (E : Exa Z h a C) (hM : Con l z bytes maxL ret rm [] Z n0 as' h Q) (W : Nat) (hf : rm.frames + 1 ≤ R.frames) (hl : W + (maxL + 11) + rm.locals ≤ R.locals)
    {pc : Nat} {ls : Array Slot} {stk : List Value} (hsize : ls.size = c.maxLocals) (argsL rest : List Value) (hlen : ∀ sig, parseMethodDescriptor y.desc = some sig → argsL.length = sig.parameters.length) (has : (.ref a :: argsL).toArray = as') (hstk : stk = argsL.reverse ++ .ref a :: rest) (hW : (rest.map fun v => v.category).sum = W)
    (hd : decode c.code pc = .ok (.invokevirtual index, 3)) (hc : ck + rm.cells ≤ R.cells) (hs : sk + rm.slots ≤ R.slots)
    (k : ∀ v T' h', Stn p l e R s m args below meth c n0 T' h' (ck + rm.cells) (sk + rm.slots) → Q v h' → Go p e below Post T' (mkF m (pc + 3) ls (v.toList ++ rest))) : Go p e below Post T (mkF m pc ls stk) := by
  obtain ⟨eT, locs, N, Y⟩ := X
  obtain ⟨cq, kq, q1, q2, q3⟩ := isOf hZ eT E
  obtain ⟨v, _, ⟨T', L', k', n'⟩, -, X', ⟨Lc, ⟨hN, hQ⟩, l', y', z'⟩, st⟩ := Y.virtualBack hx (y := y) (z := z) hown (mvT hZ w1) (mvT hZ w2) nf (mvT hZ w5) (mvT hZ w6) hy (backOf (W := W) (Q := fun v h' L => Fr n0 L ∧ Q v h') hM hZ w4 w3 hf hl) q1 q3 (g := mkF m pc ls stk) rfl hsize (Steps.refl _) (argsL := argsL) (rest := rest) hlen hstk (by show 2 * 0 + _ ≤ _; omega) hd (fun _ _ => ⟨has, eT, hc, hs⟩)
  dsimp only [Pt.U, Pt.locs, Pt.cells, Pt.slots] at X' l' y' z' st hQ
  subst l' y' z'
  exact Go.st (fun t q => st.trans q) (k v T' T'.heap ⟨rfl, _, Fr.app N hN, X'⟩ hQ)
theorem goVirtS (X : Stn p l e R s m args below meth c n0 T h ck sk) (hx : p.tables.exec = Jvm.exec) (hZ : Z.Warmed39 s.vm) {own : String} {index : Nat} {y : MethodName} {bytes : ByteArray} {maxL : Nat} {ret : Option FieldType} {rm : Room} {as' : Array Value} {Q : Option Value → Heap → Prop}
    (hown : s.vm.findClass own = some m.cls) (w1 : (Cond.methodLink own index y).before a0 Z = true) (w2 : (Cond.declares y).before a0 Z = true) (w5 : (Cond.selects y.cls y y).before a0 Z = true) (w6 : (Cond.instanceMethod y).before a0 Z = true) (w3 : (Cond.initialized y.cls).before a0 Z = true) (w4 : (Cond.code y bytes maxL ret).before a0 Z = true)
    (hy : y.cls ≠ "java/lang/invoke/MethodHandle" ∧ y.cls ≠ "java/lang/invoke/VarHandle") {a : Addr} (E : Exa Z h a y.cls) (hM : Con l y bytes maxL ret rm [] Z n0 as' h Q) (W : Nat) (hf : rm.frames + 1 ≤ R.frames) (hl : W + (maxL + 11) + rm.locals ≤ R.locals)
    {pc : Nat} {ls : Array Slot} {stk : List Value} (hsize : ls.size = c.maxLocals) (argsL rest : List Value) (hlen : ∀ sig, parseMethodDescriptor y.desc = some sig → argsL.length = sig.parameters.length) (has : (.ref a :: argsL).toArray = as') (hstk : stk = argsL.reverse ++ .ref a :: rest) (hW : (rest.map fun v => v.category).sum = W)
    (hd : decode c.code pc = .ok (.invokevirtual index, 3)) (hc : ck + rm.cells ≤ R.cells) (hs : sk + rm.slots ≤ R.slots)
    (k : ∀ v T' h', Stn p l e R s m args below meth c n0 T' h' (ck + rm.cells) (sk + rm.slots) → Q v h' → Go p e below Post T' (mkF m (pc + 3) ls (v.toList ++ rest))) : Go p e below Post T (mkF m pc ls stk) :=
  goVirt X hx hZ hown w1 w2 (notFace_of_selects (args := #[]) (mvT hZ w5)) w5 w6 w3 w4 hy E hM W hf hl hsize argsL rest hlen has hstk hW hd hc hs k
theorem goPriv (X : Stn p l e R s m args below meth c n0 T h ck sk) (hx : p.tables.exec = Jvm.exec) (hZ : Z.Warmed39 s.vm) {own C : String} {index : Nat} {y : MethodName} {bytes : ByteArray} {maxL : Nat} {ret : Option FieldType} {rm : Room} {as' : Array Value} {Q : Option Value → Heap → Prop}
    (hown : s.vm.findClass own = some m.cls) (w1 : (Cond.methodLink own index y).before a0 Z = true) (w6 : (Cond.instanceMethod y).before a0 Z = true) {kk : Nat} (wi : (Cond.instantiable y.cls kk).before a0 Z = true) (w7 : (Cond.privateMethod y).before a0 Z = true) (w3 : (Cond.initialized y.cls).before a0 Z = true) (w4 : (Cond.code y bytes maxL ret).before a0 Z = true)
    (hy : y.cls ≠ "java/lang/invoke/MethodHandle" ∧ y.cls ≠ "java/lang/invoke/VarHandle") {a : Addr} (E : Exa Z h a C) (hM : Con l y bytes maxL ret rm [] Z n0 as' h Q) (W : Nat) (hf : rm.frames + 1 ≤ R.frames) (hl : W + (maxL + 11) + rm.locals ≤ R.locals)
    {pc : Nat} {ls : Array Slot} {stk : List Value} (hsize : ls.size = c.maxLocals) (argsL rest : List Value) (hlen : ∀ sig, parseMethodDescriptor y.desc = some sig → argsL.length = sig.parameters.length) (has : (.ref a :: argsL).toArray = as') (hstk : stk = argsL.reverse ++ .ref a :: rest) (hW : (rest.map fun v => v.category).sum = W)
    (hd : decode c.code pc = .ok (.invokevirtual index, 3)) (hc : ck + rm.cells ≤ R.cells) (hs : sk + rm.slots ≤ R.slots)
    (k : ∀ v T' h', Stn p l e R s m args below meth c n0 T' h' (ck + rm.cells) (sk + rm.slots) → Q v h' → Go p e below Post T' (mkF m (pc + 3) ls (v.toList ++ rest))) : Go p e below Post T (mkF m pc ls stk) := by
  obtain ⟨eT, locs, N, Y⟩ := X
  obtain ⟨cq, q1, q2⟩ := E.cell
  have hi : (Cond.instantiable y.cls kk).before args s = true := mvT hZ wi
  obtain ⟨ci, ki, i1, i2, -, i4, -⟩ := Cond.instantiable_spec hi
  have i7 : ki.isInterface = false := by
    cases q : ki.isInterface
    · rfl
    · rw [q] at i4; cases i4
  have hsel : (Cond.selects y.cls y y).before args s = true := selects_self_of_private i1 i2 i7 (Cond.privateMethod_at (mvP hZ w7 (args := #[]))) (mvT hZ w6) hy
  obtain ⟨v, _, ⟨T', L', k', n'⟩, -, X', ⟨Lc, ⟨hN, hQ⟩, l', y', z'⟩, st⟩ := Y.privateBack hx (y := y) hown (mvT hZ w1) (mvT hZ w6) hsel (Cond.privateMethod_at (mvP hZ w7 (args := #[]))) (mvT hZ w4) hy (backOf (W := W) (Q := fun v h' L => Fr n0 L ∧ Q v h') hM hZ w4 w3 hf hl) (g := mkF m pc ls stk) rfl hsize (Steps.refl _) (a := a) (by rw [eT]; exact q1) q2 (argsL := argsL) (rest := rest) hlen hstk (by show 2 * 0 + _ ≤ _; omega) hd (fun _ _ => ⟨has, eT, hc, hs⟩)
  dsimp only [Pt.U, Pt.locs, Pt.cells, Pt.slots] at X' l' y' z' st hQ
  subst l' y' z'
  exact Go.st (fun t q => st.trans q) (k v T' T'.heap ⟨rfl, _, Fr.app N hN, X'⟩ hQ)
theorem own_i32_rem (x y : Int32) : x - (x / y) * y = x % y := by
  apply Int32.toInt_inj.mp
  rw [Int32.toInt_mod, Int32.toInt_sub, Int32.toInt_mul, Int32.toInt_div]
  have hb : x.toInt.tmod y.toInt = (x.toInt.tmod y.toInt).bmod (2 ^ 32) := by
    rw [← Int32.toInt_mod]
    exact (Int32.toInt_bmod _).symm
  rw [hb, Int.tmod_def]
  simp [Int.mul_comm]
theorem own_irem {T target : State} (X : At T m c below) (hx : p.tables.exec = Jvm.exec) {pc : Nat} {ls : Array Slot} {x y : Int32} {rest : List Value} (hd : decode c.code pc = .ok (.irem, 1)) (hy : y ≠ 0)
    (hr : Steps p.tables e below (T.setTop (mkF m (pc + 1) ls (.int (x % y) :: rest))) target) : Steps p.tables e below (T.setTop (mkF m pc ls (.int y :: .int x :: rest))) target :=
  XS.irem X hx (g := mkF m pc ls (.int y :: .int x :: rest)) rfl hd rfl hy (by rw [own_i32_rem]; exact hr)
end OwnLayer
section OwnLayer2
variable {p : Program} {l : Launch} {e : Env} {R : Room} {s : State} {m : MethodId} {args : Array Value} {below : List Frame} {meth : Method} {c : Code} {T T' : State} {h h' : Heap} {n0 ck sk : Nat} {Z : State} {a0 : Array Value} {Post : Outcome → State → Prop}
theorem sta_keep {C n d : String} {v : Value} {ws : List Addr} (F : Sta Z h C n d v) (K : Keep h h' ws) (q : ∀ x ∈ ws, ∃ C', Exa Z h x C') : Sta Z h' C n d v := by
  obtain ⟨cf, i, k, f, st, cell, h1, h2, h3, h4, h5, h6, h7⟩ := F
  refine ⟨cf, i, k, f, st, cell, h1, h2, h3, h4, K.2.1 st cell h5 fun z => ?_, h6, h7⟩
  obtain ⟨C', cell', k', e1, -, -, e4, -⟩ := q st z
  cases h5.symm.trans e1
  rw [h6] at e4
  cases e4
theorem goGetS (X : Stn p l e R s m args below meth c n0 T h ck sk) (hx : p.tables.exec = Jvm.exec) (hZ : Z.Warmed39 s.vm) {own R0 O n d host : String} {index : Nat} (hown : s.vm.findClass own = some m.cls) (w : (Cond.fieldLink own index R0 n d).before a0 Z = true ∨ (Cond.fieldLinkNest own index R0 n d host).before a0 Z = true) (via : Via Z R0 O n d)
    {v : Value} (F : Sta Z h O n d v) {pc : Nat} {ls : Array Slot} {st : List Value} (hd : decode c.code pc = .ok (.getstatic index, 3))
    (k : ∀ T', Stn p l e R s m args below meth c n0 T' h ck sk → Go p e below Post T' (mkF m (pc + 3) ls (v :: st))) : Go p e below Post T (mkF m pc ls st) := by
  obtain ⟨eT, locs, N, Y⟩ := X
  obtain ⟨T', X', e', stp⟩ := getS2 Y hx hZ hown w via eT F (g := mkF m pc ls st) rfl hd
  exact Go.st stp (k T' ⟨e', locs, N, X'⟩)
theorem goInstY (X : Stn p l e R s m args below meth c n0 T h ck sk) (hx : p.tables.exec = Jvm.exec) (hZ : Z.Warmed39 s.vm) {own K : String} {index : Nat} (hown : s.vm.findClass own = some m.cls) (w : (Cond.classLink own index K).before a0 Z = true) {a : Addr} (F : Ins Z h a K true)
    {pc : Nat} {ls : Array Slot} {rest : List Value} (hd : decode c.code pc = .ok (.instanceof index, 3)) (k : ∀ T', Stn p l e R s m args below meth c n0 T' h ck sk → Go p e below Post T' (mkF m (pc + 3) ls (.int 1 :: rest))) : Go p e below Post T (mkF m pc ls (.ref a :: rest)) := by
  obtain ⟨eT, locs, N, Y⟩ := X
  obtain ⟨T', X', e', st⟩ := instY Y hx hZ hown w eT F (g := mkF m pc ls (.ref a :: rest)) rfl rfl hd
  exact Go.st st (k T' ⟨e', locs, N, X'⟩)
theorem goInstNo (X : Stn p l e R s m args below meth c n0 T h ck sk) (hx : p.tables.exec = Jvm.exec) (hZ : Z.Warmed39 s.vm) {own K C : String} {index : Nat} (hown : s.vm.findClass own = some m.cls) (w : (Cond.classLink own index K).before a0 Z = true) {a : Addr} (E : Exa Z h a C) (F : ∃ c t, Z.vm.findClass C = some c ∧ Z.vm.findClass K = some t ∧ Z.vm.assignable c t = false)
    {pc : Nat} {ls : Array Slot} {rest : List Value} (hd : decode c.code pc = .ok (.instanceof index, 3)) (k : ∀ T', Stn p l e R s m args below meth c n0 T' h ck sk → Go p e below Post T' (mkF m (pc + 3) ls (.int 0 :: rest))) : Go p e below Post T (mkF m pc ls (.ref a :: rest)) := by
  obtain ⟨eT, locs, N, Y⟩ := X
  obtain ⟨T', X', e', st⟩ := instNo Y hx hZ hown w eT E F (g := mkF m pc ls (.ref a :: rest)) rfl rfl hd
  exact Go.st st (k T' ⟨e', locs, N, X'⟩)
theorem goInstNull (X : Stn p l e R s m args below meth c n0 T h ck sk) (hx : p.tables.exec = Jvm.exec) {index : Nat}
    {pc : Nat} {ls : Array Slot} {rest : List Value} (hd : decode c.code pc = .ok (.instanceof index, 3)) (k : Go p e below Post T (mkF m (pc + 3) ls (.int 0 :: rest))) : Go p e below Post T (mkF m pc ls (.null :: rest)) := by
  obtain ⟨eT, locs, N, Y⟩ := X
  exact Go.st (fun t q => Y.instanceofNull hx (g := mkF m pc ls (.null :: rest)) rfl rfl hd t q) k
/-- no object of the class C (whose superclasses are Object's chain) is one of K -/
theorem ns_root {O K : String} {kk : Nat} (w : (Cond.noSuperclass O).before a0 Z = true) (wk : (Cond.instantiable K kk).before a0 Z = true) (hn : O ≠ K) : NS Z O K := by
  obtain ⟨c, k, h1, h2, h3, -, -⟩ := Cond.noSuperclass_spec w
  obtain ⟨t, kt, g1, g2, -⟩ := Cond.instantiable_spec wk
  have ne := ids_ne h1 g1 hn
  refine ⟨c, t, h1, g1, fun fuel => ?_⟩
  cases fuel with
  | zero => rfl
  | succ f => simp [Vm.isSubclassAux, ne, h2, h3]
theorem ns_no {C S K : String} {kk : Nat} (w : (Cond.superclass C S).before a0 Z = true) (wk : (Cond.instantiable K kk).before a0 Z = true) (n : NS Z C K) (hn : C ≠ K) : ∃ c t, Z.vm.findClass C = some c ∧ Z.vm.findClass K = some t ∧ Z.vm.assignable c t = false := by
  obtain ⟨c, t, h0, g0, n3⟩ := n
  obtain ⟨p, k, kp, h1, h2, h3, h4, h5, -, h7⟩ := Cond.superclass_spec h0 w
  obtain ⟨t', k', g1, g2, g5, g6, -⟩ := Cond.instantiable_spec wk
  cases g0.symm.trans g1
  have g7 : k'.isInterface = false := by
    cases q : k'.isInterface
    · rfl
    · rw [q] at g6; cases g6
  have ne := ids_ne h0 g0 hn
  refine ⟨c, t, h0, g0, ?_⟩
  show Z.vm.assignableAux (255 + 1) c t = false
  simp [Vm.assignableAux, ne, h2, g2, h5, g5, g7, Vm.isSubclass, n3]
/-! arrays of references -/
def AO (Z : State) (h : Heap) (a : Addr) (C : String) : Prop := ∃ cl : Cell, h[a]? = some cl ∧ Ovr Z cl.cls C
theorem AO.ext {a : Addr} {C : String} (E : Ext h h') (F : AO Z h a C) : AO Z h' a C := by obtain ⟨cl, h1, h2⟩ := F; exact ⟨cl, E.2 _ _ h1, h2⟩
theorem AO.wr {a b : Addr} {C : String} {sl : Nat} {v : Value} (W : Wr h h' b sl v) (F : AO Z h a C) : AO Z h' a C := by
  obtain ⟨cl, h1, h2⟩ := F
  obtain ⟨cl', g1, g2, -⟩ := wr_at W h1
  exact ⟨cl', g1, by rw [g2]; exact h2⟩
theorem AO.keep {a : Addr} {C : String} {ws : List Addr} (F : AO Z h a C) (K : Keep h h' ws) : AO Z h' a C := by
  obtain ⟨cl, h1, h2⟩ := F
  obtain ⟨cl', g1, g2, -⟩ := K.2.2 a cl h1
  exact ⟨cl', g1, by rw [g2]; exact h2⟩
theorem goNewR (X : Stn p l e R s m args below meth c n0 T h ck sk) (hx : p.tables.exec = Jvm.exec) (hZ : Z.Warmed39 s.vm) {own C : String} {index : Nat} (hown : s.vm.findClass own = some m.cls) (w1 : (Cond.classLink own index C).before a0 Z = true) (w2 : (Cond.arrayOver (.object C)).before a0 Z = true)
    {pc : Nat} {ls : Array Slot} {n : Int32} {rest : List Value} (hd : decode c.code pc = .ok (.anewarray index, 3)) (hn : ¬ n < 0) {cap : Nat} (hcap : n.toNatClampNeg ≤ cap) (hb : cap * 8 ≤ 536870912) (hc : ck + 1 ≤ R.cells) (hl : sk + cap ≤ R.slots) {ad : String} (had : "[" ++ (FieldType.object C).toString = ad)
    (k : ∀ T' h' a, a = h.size → Stn p l e R s m args below meth c n0 T' h' (ck + 1) (sk + cap) → Ext h h' → Exa Z h' a ad → Ary Z h' a (.object C) n.toNatClampNeg (fun _ => .null) → AO Z h' a C → Go p e below Post T' (mkF m (pc + 3) ls (.ref a :: rest))) : Go p e below Post T (mkF m pc ls (.int n :: rest)) := by
  obtain ⟨eT, locs, N, Y⟩ := X
  obtain ⟨T', h', cA, X', e', E, A, Ex, O, st⟩ := newRE Y hx hZ hown w1 w2 eT (g := mkF m pc ls (.int n :: rest)) rfl hd rfl hn hcap hb hc hl had
  exact Go.st st (k T' h' _ rfl ⟨e', locs, N, X'⟩ E Ex (Ary.new A) ⟨_, A.1, O⟩)
theorem goLdR (X : Stn p l e R s m args below meth c n0 T h ck sk) (hx : p.tables.exec = Jvm.exec) (hZ : Z.Warmed39 s.vm) {a : Addr} {ty : FieldType} {n : Nat} {f : Nat → Value} (A : Ary Z h a ty n f) (hty : ty.isReference = true) {j : Int32} (hj : ¬ (j < 0 ∨ n ≤ j.toNatClampNeg)) {pc : Nat} {ls : Array Slot} {rest : List Value} (hd : decode c.code pc = .ok (.aaload, 1))
    (k : Go p e below Post T (mkF m (pc + 1) ls (f j.toNatClampNeg :: rest))) : Go p e below Post T (mkF m pc ls (.int j :: .ref a :: rest)) := by
  obtain ⟨eT, locs, N, Y⟩ := X
  obtain ⟨cl, A, r1, r2⟩ := A
  subst r1
  exact Go.st (fun t q => Y.aaload hx (j := j) (v := f j.toNatClampNeg) (by rw [eT]; exact A.1) (State.isArrayOf_alike hZ.alike A.2.1) hty A.2.2 hj (r2 _ (by omega)) (g := mkF m pc ls (.int j :: .ref a :: rest)) rfl rfl hd t q) k
theorem goStR (X : Stn p l e R s m args below meth c n0 T h ck sk) (hx : p.tables.exec = Jvm.exec) (hZ : Z.Warmed39 s.vm) {a y : Addr} {ty : FieldType} {n : Nat} {f : Nat → Value} {C : String} (A : Ary Z h a ty n f) (hty : ty.isReference = true) (O : AO Z h a C) (I : Ins Z h y C true) {j : Int32} (hj : ¬ (j < 0 ∨ n ≤ j.toNatClampNeg)) (ha : n0 ≤ a) {pc : Nat} {ls : Array Slot} {rest : List Value} (hd : decode c.code pc = .ok (.aastore, 1))
    (k : ∀ T' h', Stn p l e R s m args below meth c n0 T' h' ck sk → Wr h h' a j.toNatClampNeg (.ref y) → Ary Z h' a ty n (fun i => if i = j.toNatClampNeg then .ref y else f i) → Go p e below Post T' (mkF m (pc + 1) ls rest)) : Go p e below Post T (mkF m pc ls (.ref y :: .int j :: .ref a :: rest)) := by
  obtain ⟨eT, locs, N, Y⟩ := X
  have A0 := A
  obtain ⟨cl, A, r1, r2⟩ := A
  obtain ⟨cl2, o1, o2⟩ := O
  cases A.1.symm.trans o1
  subst r1
  obtain ⟨T', h', X', e', W, st⟩ := stR Y hx hZ eT A hj hty (Sto.of A o2 I) (g := mkF m pc ls (.ref y :: .int j :: .ref a :: rest)) rfl rfl hd
  exact Go.st st (k T' h' ⟨e', _, Fr.snoc X' N ha, X'⟩ W (A0.set W))
end OwnLayer2

theorem d1_0 : decode prog_133_method_1_code 0 = .ok (.aload_n 0, 1) := by decide +kernel
theorem d1_1 : decode prog_133_method_1_code 1 = .ok (.invokespecial 1, 3) := by decide +kernel
theorem d1_4 : decode prog_133_method_1_code 4 = .ok (.aload_n 0, 1) := by decide +kernel
theorem d1_5 : decode prog_133_method_1_code 5 = .ok (.bipush 64, 2) := by decide +kernel
theorem d1_7 : decode prog_133_method_1_code 7 = .ok (.anewarray 7, 3) := by decide +kernel
theorem d1_10 : decode prog_133_method_1_code 10 = .ok (.putfield 9, 3) := by decide +kernel
theorem d1_13 : decode prog_133_method_1_code 13 = .ok (.aload_n 0, 1) := by decide +kernel
theorem d1_14 : decode prog_133_method_1_code 14 = .ok (.bipush 64, 2) := by decide +kernel
theorem d1_16 : decode prog_133_method_1_code 16 = .ok (.newarray .int, 2) := by decide +kernel
theorem d1_18 : decode prog_133_method_1_code 18 = .ok (.putfield 15, 3) := by decide +kernel
theorem d1_21 : decode prog_133_method_1_code 21 = .ok (.aload_n 0, 1) := by decide +kernel
theorem d1_22 : decode prog_133_method_1_code 22 = .ok (.bipush 64, 2) := by decide +kernel
theorem d1_24 : decode prog_133_method_1_code 24 = .ok (.newarray .int, 2) := by decide +kernel
theorem d1_26 : decode prog_133_method_1_code 26 = .ok (.putfield 19, 3) := by decide +kernel
theorem d1_29 : decode prog_133_method_1_code 29 = .ok (.aload_n 0, 1) := by decide +kernel
theorem d1_30 : decode prog_133_method_1_code 30 = .ok (.bipush 16, 2) := by decide +kernel
theorem d1_32 : decode prog_133_method_1_code 32 = .ok (.anewarray 22, 3) := by decide +kernel
theorem d1_35 : decode prog_133_method_1_code 35 = .ok (.putfield 24, 3) := by decide +kernel
theorem d1_38 : decode prog_133_method_1_code 38 = .ok (.aload_n 0, 1) := by decide +kernel
theorem d1_39 : decode prog_133_method_1_code 39 = .ok (.bipush 16, 2) := by decide +kernel
theorem d1_41 : decode prog_133_method_1_code 41 = .ok (.anewarray 22, 3) := by decide +kernel
theorem d1_44 : decode prog_133_method_1_code 44 = .ok (.putfield 28, 3) := by decide +kernel
theorem d1_47 : decode prog_133_method_1_code 47 = .ok (.aload_n 0, 1) := by decide +kernel
theorem d1_48 : decode prog_133_method_1_code 48 = .ok (.bipush 16, 2) := by decide +kernel
theorem d1_50 : decode prog_133_method_1_code 50 = .ok (.anewarray 22, 3) := by decide +kernel
theorem d1_53 : decode prog_133_method_1_code 53 = .ok (.putfield 31, 3) := by decide +kernel
theorem d1_56 : decode prog_133_method_1_code 56 = .ok (.aload_n 0, 1) := by decide +kernel
theorem d1_57 : decode prog_133_method_1_code 57 = .ok (.bipush 16, 2) := by decide +kernel
theorem d1_59 : decode prog_133_method_1_code 59 = .ok (.anewarray 22, 3) := by decide +kernel
theorem d1_62 : decode prog_133_method_1_code 62 = .ok (.putfield 34, 3) := by decide +kernel
theorem d1_65 : decode prog_133_method_1_code 65 = .ok (.aload_n 0, 1) := by decide +kernel
theorem d1_66 : decode prog_133_method_1_code 66 = .ok (.bipush 16, 2) := by decide +kernel
theorem d1_68 : decode prog_133_method_1_code 68 = .ok (.anewarray 22, 3) := by decide +kernel
theorem d1_71 : decode prog_133_method_1_code 71 = .ok (.putfield 37, 3) := by decide +kernel
theorem d1_74 : decode prog_133_method_1_code 74 = .ok (.aload_n 0, 1) := by decide +kernel
theorem d1_75 : decode prog_133_method_1_code 75 = .ok (.bipush 16, 2) := by decide +kernel
theorem d1_77 : decode prog_133_method_1_code 77 = .ok (.anewarray 7, 3) := by decide +kernel
theorem d1_80 : decode prog_133_method_1_code 80 = .ok (.putfield 40, 3) := by decide +kernel
theorem d1_83 : decode prog_133_method_1_code 83 = .ok (.return_, 1) := by decide +kernel
theorem pn_1 : plainFor (⟨"com/example/kenshinkit/kenshinkit/schema/OpenElements", "<init>", "()V"⟩ : MethodName) = true := plainFor_of_name (by first | (simp [plainName, overriddenIn]; done) | decide +kernel)
theorem ef_rm1 (m : MethodId) (x0 : Addr) : entryFrame m #[(.ref x0)] 1 = mkF m 0 #[.val (.ref x0)] [] := by first | (simp [entryFrame, mkF, argsToLocals, Value.category]; done) | rfl
def Q1 (Z : State) (n0 : Nat) (h0 : Heap) (a : Addr) (u0 : Value) (u1 : Value) (u2 : Value) (u3 : Value) (u4 : Value) (u5 : Value) (u6 : Value) (u7 : Value) (u8 : Value) (v : Option Value) (h : Heap) : Prop := ∃ (tA : Addr) (sA : Addr) (mA : Addr), v = none ∧ Keep h0 h [a] ∧ Exa Z h a "com/example/kenshinkit/kenshinkit/schema/OpenElements" ∧ Fld Z h a "com/example/kenshinkit/kenshinkit/schema/OpenElements" "types" "[Lcom/example/kenshinkit/kenshinkit/schema/SchemaType;" (.ref tA) ∧ Fld Z h a "com/example/kenshinkit/kenshinkit/schema/OpenElements" "states" "[I" (.ref sA) ∧ Fld Z h a "com/example/kenshinkit/kenshinkit/schema/OpenElements" "marks" "[I" (.ref mA) ∧ Fld Z h a "com/example/kenshinkit/kenshinkit/schema/OpenElements" "depth" "I" (.int (0 : Int32)) ∧ Fld Z h a "com/example/kenshinkit/kenshinkit/schema/OpenElements" "boundary" "I" (.int (0 : Int32)) ∧ Fld Z h a "com/example/kenshinkit/kenshinkit/schema/OpenElements" "bindings" "I" (.int (0 : Int32)) ∧ Exa Z h tA "[Lcom/example/kenshinkit/kenshinkit/schema/SchemaType;" ∧ Exa Z h sA "[I" ∧ Exa Z h mA "[I" ∧ AO Z h tA "com/example/kenshinkit/kenshinkit/schema/SchemaType" ∧ Ary Z h tA (.object "com/example/kenshinkit/kenshinkit/schema/SchemaType") 64 (fun _ => .null) ∧ Ary Z h sA .int 64 (fun _ => .int 0) ∧ Ary Z h mA .int 64 (fun _ => .int 0) ∧ sA ≠ mA ∧ n0 ≤ tA ∧ n0 ≤ sA ∧ n0 ≤ mA
set_option maxRecDepth 65536 in
set_option maxHeartbeats 40000000 in
theorem rm1 (l : Launch) (Z : State) (a0 : Array Value) (hw : ∀ d ∈ tables_1, d.before a0 Z = true) (ws : List Jvm.Cond) (n0 : Nat) (h0 : Heap) (a : Addr) (u0 : Value) (u1 : Value) (u2 : Value) (u3 : Value) (u4 : Value) (u5 : Value) (u6 : Value) (u7 : Value) (u8 : Value) (sz0 : n0 ≤ h0.size) (g0 : Exa Z h0 a "com/example/kenshinkit/kenshinkit/schema/OpenElements") (g1 : Fld Z h0 a "com/example/kenshinkit/kenshinkit/schema/OpenElements" "types" "[Lcom/example/kenshinkit/kenshinkit/schema/SchemaType;" u0) (g2 : Fld Z h0 a "com/example/kenshinkit/kenshinkit/schema/OpenElements" "states" "[I" u1) (g3 : Fld Z h0 a "com/example/kenshinkit/kenshinkit/schema/OpenElements" "marks" "[I" u2) (g4 : Fld Z h0 a "com/example/kenshinkit/kenshinkit/schema/OpenElements" "prefixes" "[Ljava/lang/String;" u3) (g5 : Fld Z h0 a "com/example/kenshinkit/kenshinkit/schema/OpenElements" "uris" "[Ljava/lang/String;" u4) (g6 : Fld Z h0 a "com/example/kenshinkit/kenshinkit/schema/OpenElements" "keptValues" "[Ljava/lang/String;" u5) (g7 : Fld Z h0 a "com/example/kenshinkit/kenshinkit/schema/OpenElements" "keptPrefixes" "[Ljava/lang/String;" u6) (g8 : Fld Z h0 a "com/example/kenshinkit/kenshinkit/schema/OpenElements" "keptNamespaces" "[Ljava/lang/String;" u7) (g9 : Fld Z h0 a "com/example/kenshinkit/kenshinkit/schema/OpenElements" "keptTypes" "[Lcom/example/kenshinkit/kenshinkit/schema/SchemaType;" u8) (g10 : Fld Z h0 a "com/example/kenshinkit/kenshinkit/schema/OpenElements" "depth" "I" (.int (0 : Int32))) (g11 : Fld Z h0 a "com/example/kenshinkit/kenshinkit/schema/OpenElements" "boundary" "I" (.int (0 : Int32))) (g12 : Fld Z h0 a "com/example/kenshinkit/kenshinkit/schema/OpenElements" "bindings" "I" (.int (0 : Int32))) (g13 : n0 ≤ a) :
    Con l (⟨"com/example/kenshinkit/kenshinkit/schema/OpenElements", "<init>", "()V"⟩ : MethodName) prog_133_method_1_code 1 none ({ frames := 1, cells := 9, slots := 288, locals := 14 } : Room) ws Z n0 #[(.ref a)] h0 (Q1 Z n0 h0 a u0 u1 u2 u3 u4 u5 u6 u7 u8) := by
  refine Con.body pn_1 ?_
  intro p e s m below meth c s₁ hx hby hml hown hnm hret hlk hZ X0
  have hown : s.vm.findClass "com/example/kenshinkit/kenshinkit/schema/OpenElements" = some m.cls := hown
  have hnm : meth.name = "<init>" := hnm
  have K0 : Keep h0 h0 [a] := Keep.refl _ _
  rw [show entryFrame m #[(.ref a)] 1 = mkF m 0 #[.val (.ref a)] [] from ef_rm1 m a]
  show Go p e below (PostW s n0 (9 : Nat) (288 : Nat) (Q1 Z n0 h0 a u0 u1 u2 u3 u4 u5 u6 u7 u8)) s₁ (mkF m 0 #[.val (.ref a)] [])
  refine Go.st (T' := s₁) (g' := (mkF m 1 #[.val (.ref a)] [(.ref a)])) (fun t_ k_ => XS.aloadN X0.here hx rfl (hb hby d1_0) rfl rfl k_) ?_
  refine goInit X0 hx hZ hown (hw _ (List.mem_of_getElem? (i := 6) rfl)) (hw _ (List.mem_of_getElem? (i := 7) rfl)) (hw _ (List.mem_of_getElem? (i := 8) rfl)) (by rw [hml]; rfl) (hb hby d1_1) (by decide) (W := 0) (Nat.le_of_eq rfl) (by decide) fun T1 X1 => ?_
  show Go p e below _ T1 (mkF m 4 #[.val (.ref a)] [])
  refine Go.st (T' := T1) (g' := (mkF m 5 #[.val (.ref a)] [(.ref a)])) (fun t_ k_ => XS.aloadN X1.here hx rfl (hb hby d1_4) rfl rfl k_) ?_
  refine Go.st (T' := T1) (g' := (mkF m 7 #[.val (.ref a)] [(.int (64 : Int32)), (.ref a)])) (fun t_ k_ => XS.bipush X1.here hx rfl (hb hby d1_5) k_) ?_
  refine goNewR X1 hx hZ hown (hw _ (List.mem_of_getElem? (i := 9) rfl)) (hw _ (List.mem_of_getElem? (i := 10) rfl)) (hb hby d1_7) (by decide) (cap := 64) (by decide) (by decide) (by decide) (by decide) (ad := "[Lcom/example/kenshinkit/kenshinkit/schema/SchemaType;") (by decide) fun T2 h2 b2 gb2 X2 E2 A2 B2 O2 => ?_
  have ge2 : n0 ≤ b2 := gb2 ▸ sz0
  have ne2_a : a ≠ b2 := gb2 ▸ Nat.ne_of_lt g0.lt
  have fr2 : h0.size ≤ b2 := gb2 ▸ K0.1
  have f2_0 : Exa Z h2 a "com/example/kenshinkit/kenshinkit/schema/OpenElements" := g0.ext E2
  have f2_1 : Fld Z h2 a "com/example/kenshinkit/kenshinkit/schema/OpenElements" "types" "[Lcom/example/kenshinkit/kenshinkit/schema/SchemaType;" u0 := g1.ext E2
  have f2_2 : Fld Z h2 a "com/example/kenshinkit/kenshinkit/schema/OpenElements" "states" "[I" u1 := g2.ext E2
  have f2_3 : Fld Z h2 a "com/example/kenshinkit/kenshinkit/schema/OpenElements" "marks" "[I" u2 := g3.ext E2
  have f2_4 : Fld Z h2 a "com/example/kenshinkit/kenshinkit/schema/OpenElements" "prefixes" "[Ljava/lang/String;" u3 := g4.ext E2
  have f2_5 : Fld Z h2 a "com/example/kenshinkit/kenshinkit/schema/OpenElements" "uris" "[Ljava/lang/String;" u4 := g5.ext E2
  have f2_6 : Fld Z h2 a "com/example/kenshinkit/kenshinkit/schema/OpenElements" "keptValues" "[Ljava/lang/String;" u5 := g6.ext E2
  have f2_7 : Fld Z h2 a "com/example/kenshinkit/kenshinkit/schema/OpenElements" "keptPrefixes" "[Ljava/lang/String;" u6 := g7.ext E2
  have f2_8 : Fld Z h2 a "com/example/kenshinkit/kenshinkit/schema/OpenElements" "keptNamespaces" "[Ljava/lang/String;" u7 := g8.ext E2
  have f2_9 : Fld Z h2 a "com/example/kenshinkit/kenshinkit/schema/OpenElements" "keptTypes" "[Lcom/example/kenshinkit/kenshinkit/schema/SchemaType;" u8 := g9.ext E2
  have f2_10 : Fld Z h2 a "com/example/kenshinkit/kenshinkit/schema/OpenElements" "depth" "I" (.int (0 : Int32)) := g10.ext E2
  have f2_11 : Fld Z h2 a "com/example/kenshinkit/kenshinkit/schema/OpenElements" "boundary" "I" (.int (0 : Int32)) := g11.ext E2
  have f2_12 : Fld Z h2 a "com/example/kenshinkit/kenshinkit/schema/OpenElements" "bindings" "I" (.int (0 : Int32)) := g12.ext E2
  have sz2 : n0 ≤ h2.size := Nat.le_trans sz0 E2.1
  have K2 : Keep h0 h2 [a] := K0.ext E2
  have B2' : Ary Z h2 b2 (.object "com/example/kenshinkit/kenshinkit/schema/SchemaType") 64 (fun _ => .null) := B2
  show Go p e below _ T2 (mkF m 10 #[.val (.ref a)] [(.ref b2), (.ref a)])
  refine goPut X2 hx hZ hown (host := "") (Or.inl (hw _ (List.mem_of_getElem? (i := 11) rfl))) Via.refl f2_1 f2_0 (Or.inl (hw _ (List.mem_of_getElem? (i := 12) rfl))) (hw _ (List.mem_of_getElem? (i := 1) rfl)) (ty := (.array (.object "com/example/kenshinkit/kenshinkit/schema/SchemaType"))) (by decide) rfl rfl g13 (hb hby d1_10) fun T3 h3 X3 W3 => ?_
  have Fw3 := f2_1.same W3
  have f3_0 : Exa Z h3 a "com/example/kenshinkit/kenshinkit/schema/OpenElements" := f2_0.wr W3
  have f3_1 : Fld Z h3 a "com/example/kenshinkit/kenshinkit/schema/OpenElements" "states" "[I" u1 := f2_2.other W3 (Or.inr (slot_ne (Or.inl (hw _ (List.mem_of_getElem? (i := 15) rfl))) (Or.inl (hw _ (List.mem_of_getElem? (i := 12) rfl))) (by decide) (t := (.array .int)) (t' := (.array (.object "com/example/kenshinkit/kenshinkit/schema/SchemaType"))) (by decide) (by decide)))
  have f3_2 : Fld Z h3 a "com/example/kenshinkit/kenshinkit/schema/OpenElements" "marks" "[I" u2 := f2_3.other W3 (Or.inr (slot_ne (Or.inl (hw _ (List.mem_of_getElem? (i := 17) rfl))) (Or.inl (hw _ (List.mem_of_getElem? (i := 12) rfl))) (by decide) (t := (.array .int)) (t' := (.array (.object "com/example/kenshinkit/kenshinkit/schema/SchemaType"))) (by decide) (by decide)))
  have f3_3 : Fld Z h3 a "com/example/kenshinkit/kenshinkit/schema/OpenElements" "prefixes" "[Ljava/lang/String;" u3 := f2_4.other W3 (Or.inr (slot_ne (Or.inl (hw _ (List.mem_of_getElem? (i := 21) rfl))) (Or.inl (hw _ (List.mem_of_getElem? (i := 12) rfl))) (by decide) (t := (.array (.object "java/lang/String"))) (t' := (.array (.object "com/example/kenshinkit/kenshinkit/schema/SchemaType"))) (by decide) (by decide)))
  have f3_4 : Fld Z h3 a "com/example/kenshinkit/kenshinkit/schema/OpenElements" "uris" "[Ljava/lang/String;" u4 := f2_5.other W3 (Or.inr (slot_ne (Or.inl (hw _ (List.mem_of_getElem? (i := 23) rfl))) (Or.inl (hw _ (List.mem_of_getElem? (i := 12) rfl))) (by decide) (t := (.array (.object "java/lang/String"))) (t' := (.array (.object "com/example/kenshinkit/kenshinkit/schema/SchemaType"))) (by decide) (by decide)))
  have f3_5 : Fld Z h3 a "com/example/kenshinkit/kenshinkit/schema/OpenElements" "keptValues" "[Ljava/lang/String;" u5 := f2_6.other W3 (Or.inr (slot_ne (Or.inr (hw _ (List.mem_of_getElem? (i := 25) rfl))) (Or.inl (hw _ (List.mem_of_getElem? (i := 12) rfl))) (by decide) (t := (.array (.object "java/lang/String"))) (t' := (.array (.object "com/example/kenshinkit/kenshinkit/schema/SchemaType"))) (by decide) (by decide)))
  have f3_6 : Fld Z h3 a "com/example/kenshinkit/kenshinkit/schema/OpenElements" "keptPrefixes" "[Ljava/lang/String;" u6 := f2_7.other W3 (Or.inr (slot_ne (Or.inr (hw _ (List.mem_of_getElem? (i := 27) rfl))) (Or.inl (hw _ (List.mem_of_getElem? (i := 12) rfl))) (by decide) (t := (.array (.object "java/lang/String"))) (t' := (.array (.object "com/example/kenshinkit/kenshinkit/schema/SchemaType"))) (by decide) (by decide)))
  have f3_7 : Fld Z h3 a "com/example/kenshinkit/kenshinkit/schema/OpenElements" "keptNamespaces" "[Ljava/lang/String;" u7 := f2_8.other W3 (Or.inr (slot_ne (Or.inr (hw _ (List.mem_of_getElem? (i := 29) rfl))) (Or.inl (hw _ (List.mem_of_getElem? (i := 12) rfl))) (by decide) (t := (.array (.object "java/lang/String"))) (t' := (.array (.object "com/example/kenshinkit/kenshinkit/schema/SchemaType"))) (by decide) (by decide)))
  have f3_8 : Fld Z h3 a "com/example/kenshinkit/kenshinkit/schema/OpenElements" "keptTypes" "[Lcom/example/kenshinkit/kenshinkit/schema/SchemaType;" u8 := f2_9.other W3 (Or.inr (slot_ne (Or.inr (hw _ (List.mem_of_getElem? (i := 31) rfl))) (Or.inl (hw _ (List.mem_of_getElem? (i := 12) rfl))) (by decide) (t := (.array (.object "com/example/kenshinkit/kenshinkit/schema/SchemaType"))) (t' := (.array (.object "com/example/kenshinkit/kenshinkit/schema/SchemaType"))) (by decide) (by decide)))
  have f3_9 : Fld Z h3 a "com/example/kenshinkit/kenshinkit/schema/OpenElements" "depth" "I" (.int (0 : Int32)) := f2_10.other W3 (Or.inr (slot_ne (Or.inl (hw _ (List.mem_of_getElem? (i := 54) rfl))) (Or.inl (hw _ (List.mem_of_getElem? (i := 12) rfl))) (by decide) (t := .int) (t' := (.array (.object "com/example/kenshinkit/kenshinkit/schema/SchemaType"))) (by decide) (by decide)))
  have f3_10 : Fld Z h3 a "com/example/kenshinkit/kenshinkit/schema/OpenElements" "boundary" "I" (.int (0 : Int32)) := f2_11.other W3 (Or.inr (slot_ne (Or.inl (hw _ (List.mem_of_getElem? (i := 57) rfl))) (Or.inl (hw _ (List.mem_of_getElem? (i := 12) rfl))) (by decide) (t := .int) (t' := (.array (.object "com/example/kenshinkit/kenshinkit/schema/SchemaType"))) (by decide) (by decide)))
  have f3_11 : Fld Z h3 a "com/example/kenshinkit/kenshinkit/schema/OpenElements" "bindings" "I" (.int (0 : Int32)) := f2_12.other W3 (Or.inr (slot_ne (Or.inl (hw _ (List.mem_of_getElem? (i := 59) rfl))) (Or.inl (hw _ (List.mem_of_getElem? (i := 12) rfl))) (by decide) (t := .int) (t' := (.array (.object "com/example/kenshinkit/kenshinkit/schema/SchemaType"))) (by decide) (by decide)))
  have f3_16 : Exa Z h3 b2 "[Lcom/example/kenshinkit/kenshinkit/schema/SchemaType;" := A2.wr W3
  have f3_17 : AO Z h3 b2 "com/example/kenshinkit/kenshinkit/schema/SchemaType" := O2.wr W3
  have f3_18 : Ary Z h3 b2 (.object "com/example/kenshinkit/kenshinkit/schema/SchemaType") 64 (fun _ => .null) := B2'.other W3 ne2_a.symm
  have sz3 : n0 ≤ h3.size := Nat.le_trans sz2 (Keep.of_wr W3).1
  have K3 : Keep h0 h3 [a] := K2.wr W3 (Or.inl (List.mem_of_getElem? (i := 0) rfl))
  show Go p e below _ T3 (mkF m 13 #[.val (.ref a)] [])
  refine Go.st (T' := T3) (g' := (mkF m 14 #[.val (.ref a)] [(.ref a)])) (fun t_ k_ => XS.aloadN X3.here hx rfl (hb hby d1_13) rfl rfl k_) ?_
  refine Go.st (T' := T3) (g' := (mkF m 16 #[.val (.ref a)] [(.int (64 : Int32)), (.ref a)])) (fun t_ k_ => XS.bipush X3.here hx rfl (hb hby d1_14) k_) ?_
  refine goNewA (aty := .int) X3 hx hZ (hw _ (List.mem_of_getElem? (i := 13) rfl)) (hb hby d1_16) (by decide) (cap := 64) (by decide) (by decide) (by decide) (by decide) (ad := "[I") (by decide) fun T4 h4 b4 gb4 X4 E4 A4 B4 => ?_
  have ge4 : n0 ≤ b4 := gb4 ▸ sz3
  have ne4_a : a ≠ b4 := gb4 ▸ Nat.ne_of_lt f3_0.lt
  have ne4_b2 : b2 ≠ b4 := gb4 ▸ Nat.ne_of_lt f3_16.lt
  have fr4 : h0.size ≤ b4 := gb4 ▸ K3.1
  have f4_0 : Exa Z h4 a "com/example/kenshinkit/kenshinkit/schema/OpenElements" := f3_0.ext E4
  have f4_1 : Fld Z h4 a "com/example/kenshinkit/kenshinkit/schema/OpenElements" "states" "[I" u1 := f3_1.ext E4
  have f4_2 : Fld Z h4 a "com/example/kenshinkit/kenshinkit/schema/OpenElements" "marks" "[I" u2 := f3_2.ext E4
  have f4_3 : Fld Z h4 a "com/example/kenshinkit/kenshinkit/schema/OpenElements" "prefixes" "[Ljava/lang/String;" u3 := f3_3.ext E4
  have f4_4 : Fld Z h4 a "com/example/kenshinkit/kenshinkit/schema/OpenElements" "uris" "[Ljava/lang/String;" u4 := f3_4.ext E4
  have f4_5 : Fld Z h4 a "com/example/kenshinkit/kenshinkit/schema/OpenElements" "keptValues" "[Ljava/lang/String;" u5 := f3_5.ext E4
  have f4_6 : Fld Z h4 a "com/example/kenshinkit/kenshinkit/schema/OpenElements" "keptPrefixes" "[Ljava/lang/String;" u6 := f3_6.ext E4
  have f4_7 : Fld Z h4 a "com/example/kenshinkit/kenshinkit/schema/OpenElements" "keptNamespaces" "[Ljava/lang/String;" u7 := f3_7.ext E4
  have f4_8 : Fld Z h4 a "com/example/kenshinkit/kenshinkit/schema/OpenElements" "keptTypes" "[Lcom/example/kenshinkit/kenshinkit/schema/SchemaType;" u8 := f3_8.ext E4
  have f4_9 : Fld Z h4 a "com/example/kenshinkit/kenshinkit/schema/OpenElements" "depth" "I" (.int (0 : Int32)) := f3_9.ext E4
  have f4_10 : Fld Z h4 a "com/example/kenshinkit/kenshinkit/schema/OpenElements" "boundary" "I" (.int (0 : Int32)) := f3_10.ext E4
  have f4_11 : Fld Z h4 a "com/example/kenshinkit/kenshinkit/schema/OpenElements" "bindings" "I" (.int (0 : Int32)) := f3_11.ext E4
  have f4_16 : Exa Z h4 b2 "[Lcom/example/kenshinkit/kenshinkit/schema/SchemaType;" := f3_16.ext E4
  have f4_17 : AO Z h4 b2 "com/example/kenshinkit/kenshinkit/schema/SchemaType" := f3_17.ext E4
  have f4_18 : Ary Z h4 b2 (.object "com/example/kenshinkit/kenshinkit/schema/SchemaType") 64 (fun _ => .null) := f3_18.ext E4
  have f4_19 : Fld Z h4 a "com/example/kenshinkit/kenshinkit/schema/OpenElements" "types" "[Lcom/example/kenshinkit/kenshinkit/schema/SchemaType;" (.ref b2) := Fw3.ext E4
  have sz4 : n0 ≤ h4.size := Nat.le_trans sz3 E4.1
  have K4 : Keep h0 h4 [a] := K3.ext E4
  have B4' : Ary Z h4 b4 .int 64 (fun _ => .int 0) := B4
  show Go p e below _ T4 (mkF m 18 #[.val (.ref a)] [(.ref b4), (.ref a)])
  refine goPut X4 hx hZ hown (host := "") (Or.inl (hw _ (List.mem_of_getElem? (i := 14) rfl))) Via.refl f4_1 f4_0 (Or.inl (hw _ (List.mem_of_getElem? (i := 15) rfl))) (hw _ (List.mem_of_getElem? (i := 1) rfl)) (ty := (.array .int)) (by decide) rfl rfl g13 (hb hby d1_18) fun T5 h5 X5 W5 => ?_
  have Fw5 := f4_1.same W5
  have f5_0 : Exa Z h5 a "com/example/kenshinkit/kenshinkit/schema/OpenElements" := f4_0.wr W5
  have f5_1 : Fld Z h5 a "com/example/kenshinkit/kenshinkit/schema/OpenElements" "marks" "[I" u2 := f4_2.other W5 (Or.inr (slot_ne (Or.inl (hw _ (List.mem_of_getElem? (i := 17) rfl))) (Or.inl (hw _ (List.mem_of_getElem? (i := 15) rfl))) (by decide) (t := (.array .int)) (t' := (.array .int)) (by decide) (by decide)))
  have f5_2 : Fld Z h5 a "com/example/kenshinkit/kenshinkit/schema/OpenElements" "prefixes" "[Ljava/lang/String;" u3 := f4_3.other W5 (Or.inr (slot_ne (Or.inl (hw _ (List.mem_of_getElem? (i := 21) rfl))) (Or.inl (hw _ (List.mem_of_getElem? (i := 15) rfl))) (by decide) (t := (.array (.object "java/lang/String"))) (t' := (.array .int)) (by decide) (by decide)))
  have f5_3 : Fld Z h5 a "com/example/kenshinkit/kenshinkit/schema/OpenElements" "uris" "[Ljava/lang/String;" u4 := f4_4.other W5 (Or.inr (slot_ne (Or.inl (hw _ (List.mem_of_getElem? (i := 23) rfl))) (Or.inl (hw _ (List.mem_of_getElem? (i := 15) rfl))) (by decide) (t := (.array (.object "java/lang/String"))) (t' := (.array .int)) (by decide) (by decide)))
  have f5_4 : Fld Z h5 a "com/example/kenshinkit/kenshinkit/schema/OpenElements" "keptValues" "[Ljava/lang/String;" u5 := f4_5.other W5 (Or.inr (slot_ne (Or.inr (hw _ (List.mem_of_getElem? (i := 25) rfl))) (Or.inl (hw _ (List.mem_of_getElem? (i := 15) rfl))) (by decide) (t := (.array (.object "java/lang/String"))) (t' := (.array .int)) (by decide) (by decide)))
  have f5_5 : Fld Z h5 a "com/example/kenshinkit/kenshinkit/schema/OpenElements" "keptPrefixes" "[Ljava/lang/String;" u6 := f4_6.other W5 (Or.inr (slot_ne (Or.inr (hw _ (List.mem_of_getElem? (i := 27) rfl))) (Or.inl (hw _ (List.mem_of_getElem? (i := 15) rfl))) (by decide) (t := (.array (.object "java/lang/String"))) (t' := (.array .int)) (by decide) (by decide)))
  have f5_6 : Fld Z h5 a "com/example/kenshinkit/kenshinkit/schema/OpenElements" "keptNamespaces" "[Ljava/lang/String;" u7 := f4_7.other W5 (Or.inr (slot_ne (Or.inr (hw _ (List.mem_of_getElem? (i := 29) rfl))) (Or.inl (hw _ (List.mem_of_getElem? (i := 15) rfl))) (by decide) (t := (.array (.object "java/lang/String"))) (t' := (.array .int)) (by decide) (by decide)))
  have f5_7 : Fld Z h5 a "com/example/kenshinkit/kenshinkit/schema/OpenElements" "keptTypes" "[Lcom/example/kenshinkit/kenshinkit/schema/SchemaType;" u8 := f4_8.other W5 (Or.inr (slot_ne (Or.inr (hw _ (List.mem_of_getElem? (i := 31) rfl))) (Or.inl (hw _ (List.mem_of_getElem? (i := 15) rfl))) (by decide) (t := (.array (.object "com/example/kenshinkit/kenshinkit/schema/SchemaType"))) (t' := (.array .int)) (by decide) (by decide)))
  have f5_8 : Fld Z h5 a "com/example/kenshinkit/kenshinkit/schema/OpenElements" "depth" "I" (.int (0 : Int32)) := f4_9.other W5 (Or.inr (slot_ne (Or.inl (hw _ (List.mem_of_getElem? (i := 54) rfl))) (Or.inl (hw _ (List.mem_of_getElem? (i := 15) rfl))) (by decide) (t := .int) (t' := (.array .int)) (by decide) (by decide)))
  have f5_9 : Fld Z h5 a "com/example/kenshinkit/kenshinkit/schema/OpenElements" "boundary" "I" (.int (0 : Int32)) := f4_10.other W5 (Or.inr (slot_ne (Or.inl (hw _ (List.mem_of_getElem? (i := 57) rfl))) (Or.inl (hw _ (List.mem_of_getElem? (i := 15) rfl))) (by decide) (t := .int) (t' := (.array .int)) (by decide) (by decide)))
  have f5_10 : Fld Z h5 a "com/example/kenshinkit/kenshinkit/schema/OpenElements" "bindings" "I" (.int (0 : Int32)) := f4_11.other W5 (Or.inr (slot_ne (Or.inl (hw _ (List.mem_of_getElem? (i := 59) rfl))) (Or.inl (hw _ (List.mem_of_getElem? (i := 15) rfl))) (by decide) (t := .int) (t' := (.array .int)) (by decide) (by decide)))
  have f5_15 : Exa Z h5 b2 "[Lcom/example/kenshinkit/kenshinkit/schema/SchemaType;" := f4_16.wr W5
  have f5_16 : AO Z h5 b2 "com/example/kenshinkit/kenshinkit/schema/SchemaType" := f4_17.wr W5
  have f5_17 : Ary Z h5 b2 (.object "com/example/kenshinkit/kenshinkit/schema/SchemaType") 64 (fun _ => .null) := f4_18.other W5 ne2_a.symm
  have f5_18 : Fld Z h5 a "com/example/kenshinkit/kenshinkit/schema/OpenElements" "types" "[Lcom/example/kenshinkit/kenshinkit/schema/SchemaType;" (.ref b2) := f4_19.other W5 (Or.inr (slot_ne (Or.inl (hw _ (List.mem_of_getElem? (i := 12) rfl))) (Or.inl (hw _ (List.mem_of_getElem? (i := 15) rfl))) (by decide) (t := (.array (.object "com/example/kenshinkit/kenshinkit/schema/SchemaType"))) (t' := (.array .int)) (by decide) (by decide)))
  have f5_23 : Exa Z h5 b4 "[I" := A4.wr W5
  have f5_24 : Ary Z h5 b4 .int 64 (fun _ => .int 0) := B4'.other W5 ne4_a.symm
  have sz5 : n0 ≤ h5.size := Nat.le_trans sz4 (Keep.of_wr W5).1
  have K5 : Keep h0 h5 [a] := K4.wr W5 (Or.inl (List.mem_of_getElem? (i := 0) rfl))
  show Go p e below _ T5 (mkF m 21 #[.val (.ref a)] [])
  refine Go.st (T' := T5) (g' := (mkF m 22 #[.val (.ref a)] [(.ref a)])) (fun t_ k_ => XS.aloadN X5.here hx rfl (hb hby d1_21) rfl rfl k_) ?_
  refine Go.st (T' := T5) (g' := (mkF m 24 #[.val (.ref a)] [(.int (64 : Int32)), (.ref a)])) (fun t_ k_ => XS.bipush X5.here hx rfl (hb hby d1_22) k_) ?_
  refine goNewA (aty := .int) X5 hx hZ (hw _ (List.mem_of_getElem? (i := 13) rfl)) (hb hby d1_24) (by decide) (cap := 64) (by decide) (by decide) (by decide) (by decide) (ad := "[I") (by decide) fun T6 h6 b6 gb6 X6 E6 A6 B6 => ?_
  have ge6 : n0 ≤ b6 := gb6 ▸ sz5
  have ne6_a : a ≠ b6 := gb6 ▸ Nat.ne_of_lt f5_0.lt
  have ne6_b2 : b2 ≠ b6 := gb6 ▸ Nat.ne_of_lt f5_15.lt
  have ne6_b4 : b4 ≠ b6 := gb6 ▸ Nat.ne_of_lt f5_23.lt
  have fr6 : h0.size ≤ b6 := gb6 ▸ K5.1
  have f6_0 : Exa Z h6 a "com/example/kenshinkit/kenshinkit/schema/OpenElements" := f5_0.ext E6
  have f6_1 : Fld Z h6 a "com/example/kenshinkit/kenshinkit/schema/OpenElements" "marks" "[I" u2 := f5_1.ext E6
  have f6_2 : Fld Z h6 a "com/example/kenshinkit/kenshinkit/schema/OpenElements" "prefixes" "[Ljava/lang/String;" u3 := f5_2.ext E6
  have f6_3 : Fld Z h6 a "com/example/kenshinkit/kenshinkit/schema/OpenElements" "uris" "[Ljava/lang/String;" u4 := f5_3.ext E6
  have f6_4 : Fld Z h6 a "com/example/kenshinkit/kenshinkit/schema/OpenElements" "keptValues" "[Ljava/lang/String;" u5 := f5_4.ext E6
  have f6_5 : Fld Z h6 a "com/example/kenshinkit/kenshinkit/schema/OpenElements" "keptPrefixes" "[Ljava/lang/String;" u6 := f5_5.ext E6
  have f6_6 : Fld Z h6 a "com/example/kenshinkit/kenshinkit/schema/OpenElements" "keptNamespaces" "[Ljava/lang/String;" u7 := f5_6.ext E6
  have f6_7 : Fld Z h6 a "com/example/kenshinkit/kenshinkit/schema/OpenElements" "keptTypes" "[Lcom/example/kenshinkit/kenshinkit/schema/SchemaType;" u8 := f5_7.ext E6
  have f6_8 : Fld Z h6 a "com/example/kenshinkit/kenshinkit/schema/OpenElements" "depth" "I" (.int (0 : Int32)) := f5_8.ext E6
  have f6_9 : Fld Z h6 a "com/example/kenshinkit/kenshinkit/schema/OpenElements" "boundary" "I" (.int (0 : Int32)) := f5_9.ext E6
  have f6_10 : Fld Z h6 a "com/example/kenshinkit/kenshinkit/schema/OpenElements" "bindings" "I" (.int (0 : Int32)) := f5_10.ext E6
  have f6_15 : Exa Z h6 b2 "[Lcom/example/kenshinkit/kenshinkit/schema/SchemaType;" := f5_15.ext E6
  have f6_16 : AO Z h6 b2 "com/example/kenshinkit/kenshinkit/schema/SchemaType" := f5_16.ext E6
  have f6_17 : Ary Z h6 b2 (.object "com/example/kenshinkit/kenshinkit/schema/SchemaType") 64 (fun _ => .null) := f5_17.ext E6
  have f6_18 : Fld Z h6 a "com/example/kenshinkit/kenshinkit/schema/OpenElements" "types" "[Lcom/example/kenshinkit/kenshinkit/schema/SchemaType;" (.ref b2) := f5_18.ext E6
  have f6_23 : Exa Z h6 b4 "[I" := f5_23.ext E6
  have f6_24 : Ary Z h6 b4 .int 64 (fun _ => .int 0) := f5_24.ext E6
  have f6_25 : Fld Z h6 a "com/example/kenshinkit/kenshinkit/schema/OpenElements" "states" "[I" (.ref b4) := Fw5.ext E6
  have sz6 : n0 ≤ h6.size := Nat.le_trans sz5 E6.1
  have K6 : Keep h0 h6 [a] := K5.ext E6
  have B6' : Ary Z h6 b6 .int 64 (fun _ => .int 0) := B6
  show Go p e below _ T6 (mkF m 26 #[.val (.ref a)] [(.ref b6), (.ref a)])
  refine goPut X6 hx hZ hown (host := "") (Or.inl (hw _ (List.mem_of_getElem? (i := 16) rfl))) Via.refl f6_1 f6_0 (Or.inl (hw _ (List.mem_of_getElem? (i := 17) rfl))) (hw _ (List.mem_of_getElem? (i := 1) rfl)) (ty := (.array .int)) (by decide) rfl rfl g13 (hb hby d1_26) fun T7 h7 X7 W7 => ?_
  have Fw7 := f6_1.same W7
  have f7_0 : Exa Z h7 a "com/example/kenshinkit/kenshinkit/schema/OpenElements" := f6_0.wr W7
  have f7_1 : Fld Z h7 a "com/example/kenshinkit/kenshinkit/schema/OpenElements" "prefixes" "[Ljava/lang/String;" u3 := f6_2.other W7 (Or.inr (slot_ne (Or.inl (hw _ (List.mem_of_getElem? (i := 21) rfl))) (Or.inl (hw _ (List.mem_of_getElem? (i := 17) rfl))) (by decide) (t := (.array (.object "java/lang/String"))) (t' := (.array .int)) (by decide) (by decide)))
  have f7_2 : Fld Z h7 a "com/example/kenshinkit/kenshinkit/schema/OpenElements" "uris" "[Ljava/lang/String;" u4 := f6_3.other W7 (Or.inr (slot_ne (Or.inl (hw _ (List.mem_of_getElem? (i := 23) rfl))) (Or.inl (hw _ (List.mem_of_getElem? (i := 17) rfl))) (by decide) (t := (.array (.object "java/lang/String"))) (t' := (.array .int)) (by decide) (by decide)))
  have f7_3 : Fld Z h7 a "com/example/kenshinkit/kenshinkit/schema/OpenElements" "keptValues" "[Ljava/lang/String;" u5 := f6_4.other W7 (Or.inr (slot_ne (Or.inr (hw _ (List.mem_of_getElem? (i := 25) rfl))) (Or.inl (hw _ (List.mem_of_getElem? (i := 17) rfl))) (by decide) (t := (.array (.object "java/lang/String"))) (t' := (.array .int)) (by decide) (by decide)))
  have f7_4 : Fld Z h7 a "com/example/kenshinkit/kenshinkit/schema/OpenElements" "keptPrefixes" "[Ljava/lang/String;" u6 := f6_5.other W7 (Or.inr (slot_ne (Or.inr (hw _ (List.mem_of_getElem? (i := 27) rfl))) (Or.inl (hw _ (List.mem_of_getElem? (i := 17) rfl))) (by decide) (t := (.array (.object "java/lang/String"))) (t' := (.array .int)) (by decide) (by decide)))
  have f7_5 : Fld Z h7 a "com/example/kenshinkit/kenshinkit/schema/OpenElements" "keptNamespaces" "[Ljava/lang/String;" u7 := f6_6.other W7 (Or.inr (slot_ne (Or.inr (hw _ (List.mem_of_getElem? (i := 29) rfl))) (Or.inl (hw _ (List.mem_of_getElem? (i := 17) rfl))) (by decide) (t := (.array (.object "java/lang/String"))) (t' := (.array .int)) (by decide) (by decide)))
  have f7_6 : Fld Z h7 a "com/example/kenshinkit/kenshinkit/schema/OpenElements" "keptTypes" "[Lcom/example/kenshinkit/kenshinkit/schema/SchemaType;" u8 := f6_7.other W7 (Or.inr (slot_ne (Or.inr (hw _ (List.mem_of_getElem? (i := 31) rfl))) (Or.inl (hw _ (List.mem_of_getElem? (i := 17) rfl))) (by decide) (t := (.array (.object "com/example/kenshinkit/kenshinkit/schema/SchemaType"))) (t' := (.array .int)) (by decide) (by decide)))
  have f7_7 : Fld Z h7 a "com/example/kenshinkit/kenshinkit/schema/OpenElements" "depth" "I" (.int (0 : Int32)) := f6_8.other W7 (Or.inr (slot_ne (Or.inl (hw _ (List.mem_of_getElem? (i := 54) rfl))) (Or.inl (hw _ (List.mem_of_getElem? (i := 17) rfl))) (by decide) (t := .int) (t' := (.array .int)) (by decide) (by decide)))
  have f7_8 : Fld Z h7 a "com/example/kenshinkit/kenshinkit/schema/OpenElements" "boundary" "I" (.int (0 : Int32)) := f6_9.other W7 (Or.inr (slot_ne (Or.inl (hw _ (List.mem_of_getElem? (i := 57) rfl))) (Or.inl (hw _ (List.mem_of_getElem? (i := 17) rfl))) (by decide) (t := .int) (t' := (.array .int)) (by decide) (by decide)))
  have f7_9 : Fld Z h7 a "com/example/kenshinkit/kenshinkit/schema/OpenElements" "bindings" "I" (.int (0 : Int32)) := f6_10.other W7 (Or.inr (slot_ne (Or.inl (hw _ (List.mem_of_getElem? (i := 59) rfl))) (Or.inl (hw _ (List.mem_of_getElem? (i := 17) rfl))) (by decide) (t := .int) (t' := (.array .int)) (by decide) (by decide)))
  have f7_14 : Exa Z h7 b2 "[Lcom/example/kenshinkit/kenshinkit/schema/SchemaType;" := f6_15.wr W7
  have f7_15 : AO Z h7 b2 "com/example/kenshinkit/kenshinkit/schema/SchemaType" := f6_16.wr W7
  have f7_16 : Ary Z h7 b2 (.object "com/example/kenshinkit/kenshinkit/schema/SchemaType") 64 (fun _ => .null) := f6_17.other W7 ne2_a.symm
  have f7_17 : Fld Z h7 a "com/example/kenshinkit/kenshinkit/schema/OpenElements" "types" "[Lcom/example/kenshinkit/kenshinkit/schema/SchemaType;" (.ref b2) := f6_18.other W7 (Or.inr (slot_ne (Or.inl (hw _ (List.mem_of_getElem? (i := 12) rfl))) (Or.inl (hw _ (List.mem_of_getElem? (i := 17) rfl))) (by decide) (t := (.array (.object "com/example/kenshinkit/kenshinkit/schema/SchemaType"))) (t' := (.array .int)) (by decide) (by decide)))
  have f7_22 : Exa Z h7 b4 "[I" := f6_23.wr W7
  have f7_23 : Ary Z h7 b4 .int 64 (fun _ => .int 0) := f6_24.other W7 ne4_a.symm
  have f7_24 : Fld Z h7 a "com/example/kenshinkit/kenshinkit/schema/OpenElements" "states" "[I" (.ref b4) := f6_25.other W7 (Or.inr (slot_ne (Or.inl (hw _ (List.mem_of_getElem? (i := 15) rfl))) (Or.inl (hw _ (List.mem_of_getElem? (i := 17) rfl))) (by decide) (t := (.array .int)) (t' := (.array .int)) (by decide) (by decide)))
  have f7_30 : Exa Z h7 b6 "[I" := A6.wr W7
  have f7_31 : Ary Z h7 b6 .int 64 (fun _ => .int 0) := B6'.other W7 ne6_a.symm
  have sz7 : n0 ≤ h7.size := Nat.le_trans sz6 (Keep.of_wr W7).1
  have K7 : Keep h0 h7 [a] := K6.wr W7 (Or.inl (List.mem_of_getElem? (i := 0) rfl))
  show Go p e below _ T7 (mkF m 29 #[.val (.ref a)] [])
  refine Go.st (T' := T7) (g' := (mkF m 30 #[.val (.ref a)] [(.ref a)])) (fun t_ k_ => XS.aloadN X7.here hx rfl (hb hby d1_29) rfl rfl k_) ?_
  refine Go.st (T' := T7) (g' := (mkF m 32 #[.val (.ref a)] [(.int (16 : Int32)), (.ref a)])) (fun t_ k_ => XS.bipush X7.here hx rfl (hb hby d1_30) k_) ?_
  refine goNewR X7 hx hZ hown (hw _ (List.mem_of_getElem? (i := 18) rfl)) (hw _ (List.mem_of_getElem? (i := 19) rfl)) (hb hby d1_32) (by decide) (cap := 16) (by decide) (by decide) (by decide) (by decide) (ad := "[Ljava/lang/String;") (by decide) fun T8 h8 b8 gb8 X8 E8 A8 B8 O8 => ?_
  have ge8 : n0 ≤ b8 := gb8 ▸ sz7
  have ne8_a : a ≠ b8 := gb8 ▸ Nat.ne_of_lt f7_0.lt
  have ne8_b2 : b2 ≠ b8 := gb8 ▸ Nat.ne_of_lt f7_14.lt
  have ne8_b4 : b4 ≠ b8 := gb8 ▸ Nat.ne_of_lt f7_22.lt
  have ne8_b6 : b6 ≠ b8 := gb8 ▸ Nat.ne_of_lt f7_30.lt
  have fr8 : h0.size ≤ b8 := gb8 ▸ K7.1
  have f8_0 : Exa Z h8 a "com/example/kenshinkit/kenshinkit/schema/OpenElements" := f7_0.ext E8
  have f8_1 : Fld Z h8 a "com/example/kenshinkit/kenshinkit/schema/OpenElements" "prefixes" "[Ljava/lang/String;" u3 := f7_1.ext E8
  have f8_2 : Fld Z h8 a "com/example/kenshinkit/kenshinkit/schema/OpenElements" "uris" "[Ljava/lang/String;" u4 := f7_2.ext E8
  have f8_3 : Fld Z h8 a "com/example/kenshinkit/kenshinkit/schema/OpenElements" "keptValues" "[Ljava/lang/String;" u5 := f7_3.ext E8
  have f8_4 : Fld Z h8 a "com/example/kenshinkit/kenshinkit/schema/OpenElements" "keptPrefixes" "[Ljava/lang/String;" u6 := f7_4.ext E8
  have f8_5 : Fld Z h8 a "com/example/kenshinkit/kenshinkit/schema/OpenElements" "keptNamespaces" "[Ljava/lang/String;" u7 := f7_5.ext E8
  have f8_6 : Fld Z h8 a "com/example/kenshinkit/kenshinkit/schema/OpenElements" "keptTypes" "[Lcom/example/kenshinkit/kenshinkit/schema/SchemaType;" u8 := f7_6.ext E8
  have f8_7 : Fld Z h8 a "com/example/kenshinkit/kenshinkit/schema/OpenElements" "depth" "I" (.int (0 : Int32)) := f7_7.ext E8
  have f8_8 : Fld Z h8 a "com/example/kenshinkit/kenshinkit/schema/OpenElements" "boundary" "I" (.int (0 : Int32)) := f7_8.ext E8
  have f8_9 : Fld Z h8 a "com/example/kenshinkit/kenshinkit/schema/OpenElements" "bindings" "I" (.int (0 : Int32)) := f7_9.ext E8
  have f8_14 : Exa Z h8 b2 "[Lcom/example/kenshinkit/kenshinkit/schema/SchemaType;" := f7_14.ext E8
  have f8_15 : AO Z h8 b2 "com/example/kenshinkit/kenshinkit/schema/SchemaType" := f7_15.ext E8
  have f8_16 : Ary Z h8 b2 (.object "com/example/kenshinkit/kenshinkit/schema/SchemaType") 64 (fun _ => .null) := f7_16.ext E8
  have f8_17 : Fld Z h8 a "com/example/kenshinkit/kenshinkit/schema/OpenElements" "types" "[Lcom/example/kenshinkit/kenshinkit/schema/SchemaType;" (.ref b2) := f7_17.ext E8
  have f8_22 : Exa Z h8 b4 "[I" := f7_22.ext E8
  have f8_23 : Ary Z h8 b4 .int 64 (fun _ => .int 0) := f7_23.ext E8
  have f8_24 : Fld Z h8 a "com/example/kenshinkit/kenshinkit/schema/OpenElements" "states" "[I" (.ref b4) := f7_24.ext E8
  have f8_30 : Exa Z h8 b6 "[I" := f7_30.ext E8
  have f8_31 : Ary Z h8 b6 .int 64 (fun _ => .int 0) := f7_31.ext E8
  have f8_32 : Fld Z h8 a "com/example/kenshinkit/kenshinkit/schema/OpenElements" "marks" "[I" (.ref b6) := Fw7.ext E8
  have sz8 : n0 ≤ h8.size := Nat.le_trans sz7 E8.1
  have K8 : Keep h0 h8 [a] := K7.ext E8
  have B8' : Ary Z h8 b8 (.object "java/lang/String") 16 (fun _ => .null) := B8
  show Go p e below _ T8 (mkF m 35 #[.val (.ref a)] [(.ref b8), (.ref a)])
  refine goPut X8 hx hZ hown (host := "") (Or.inl (hw _ (List.mem_of_getElem? (i := 20) rfl))) Via.refl f8_1 f8_0 (Or.inl (hw _ (List.mem_of_getElem? (i := 21) rfl))) (hw _ (List.mem_of_getElem? (i := 1) rfl)) (ty := (.array (.object "java/lang/String"))) (by decide) rfl rfl g13 (hb hby d1_35) fun T9 h9 X9 W9 => ?_
  have Fw9 := f8_1.same W9
  have f9_0 : Exa Z h9 a "com/example/kenshinkit/kenshinkit/schema/OpenElements" := f8_0.wr W9
  have f9_1 : Fld Z h9 a "com/example/kenshinkit/kenshinkit/schema/OpenElements" "uris" "[Ljava/lang/String;" u4 := f8_2.other W9 (Or.inr (slot_ne (Or.inl (hw _ (List.mem_of_getElem? (i := 23) rfl))) (Or.inl (hw _ (List.mem_of_getElem? (i := 21) rfl))) (by decide) (t := (.array (.object "java/lang/String"))) (t' := (.array (.object "java/lang/String"))) (by decide) (by decide)))
  have f9_2 : Fld Z h9 a "com/example/kenshinkit/kenshinkit/schema/OpenElements" "keptValues" "[Ljava/lang/String;" u5 := f8_3.other W9 (Or.inr (slot_ne (Or.inr (hw _ (List.mem_of_getElem? (i := 25) rfl))) (Or.inl (hw _ (List.mem_of_getElem? (i := 21) rfl))) (by decide) (t := (.array (.object "java/lang/String"))) (t' := (.array (.object "java/lang/String"))) (by decide) (by decide)))
  have f9_3 : Fld Z h9 a "com/example/kenshinkit/kenshinkit/schema/OpenElements" "keptPrefixes" "[Ljava/lang/String;" u6 := f8_4.other W9 (Or.inr (slot_ne (Or.inr (hw _ (List.mem_of_getElem? (i := 27) rfl))) (Or.inl (hw _ (List.mem_of_getElem? (i := 21) rfl))) (by decide) (t := (.array (.object "java/lang/String"))) (t' := (.array (.object "java/lang/String"))) (by decide) (by decide)))
  have f9_4 : Fld Z h9 a "com/example/kenshinkit/kenshinkit/schema/OpenElements" "keptNamespaces" "[Ljava/lang/String;" u7 := f8_5.other W9 (Or.inr (slot_ne (Or.inr (hw _ (List.mem_of_getElem? (i := 29) rfl))) (Or.inl (hw _ (List.mem_of_getElem? (i := 21) rfl))) (by decide) (t := (.array (.object "java/lang/String"))) (t' := (.array (.object "java/lang/String"))) (by decide) (by decide)))
  have f9_5 : Fld Z h9 a "com/example/kenshinkit/kenshinkit/schema/OpenElements" "keptTypes" "[Lcom/example/kenshinkit/kenshinkit/schema/SchemaType;" u8 := f8_6.other W9 (Or.inr (slot_ne (Or.inr (hw _ (List.mem_of_getElem? (i := 31) rfl))) (Or.inl (hw _ (List.mem_of_getElem? (i := 21) rfl))) (by decide) (t := (.array (.object "com/example/kenshinkit/kenshinkit/schema/SchemaType"))) (t' := (.array (.object "java/lang/String"))) (by decide) (by decide)))
  have f9_6 : Fld Z h9 a "com/example/kenshinkit/kenshinkit/schema/OpenElements" "depth" "I" (.int (0 : Int32)) := f8_7.other W9 (Or.inr (slot_ne (Or.inl (hw _ (List.mem_of_getElem? (i := 54) rfl))) (Or.inl (hw _ (List.mem_of_getElem? (i := 21) rfl))) (by decide) (t := .int) (t' := (.array (.object "java/lang/String"))) (by decide) (by decide)))
  have f9_7 : Fld Z h9 a "com/example/kenshinkit/kenshinkit/schema/OpenElements" "boundary" "I" (.int (0 : Int32)) := f8_8.other W9 (Or.inr (slot_ne (Or.inl (hw _ (List.mem_of_getElem? (i := 57) rfl))) (Or.inl (hw _ (List.mem_of_getElem? (i := 21) rfl))) (by decide) (t := .int) (t' := (.array (.object "java/lang/String"))) (by decide) (by decide)))
  have f9_8 : Fld Z h9 a "com/example/kenshinkit/kenshinkit/schema/OpenElements" "bindings" "I" (.int (0 : Int32)) := f8_9.other W9 (Or.inr (slot_ne (Or.inl (hw _ (List.mem_of_getElem? (i := 59) rfl))) (Or.inl (hw _ (List.mem_of_getElem? (i := 21) rfl))) (by decide) (t := .int) (t' := (.array (.object "java/lang/String"))) (by decide) (by decide)))
  have f9_13 : Exa Z h9 b2 "[Lcom/example/kenshinkit/kenshinkit/schema/SchemaType;" := f8_14.wr W9
  have f9_14 : AO Z h9 b2 "com/example/kenshinkit/kenshinkit/schema/SchemaType" := f8_15.wr W9
  have f9_15 : Ary Z h9 b2 (.object "com/example/kenshinkit/kenshinkit/schema/SchemaType") 64 (fun _ => .null) := f8_16.other W9 ne2_a.symm
  have f9_16 : Fld Z h9 a "com/example/kenshinkit/kenshinkit/schema/OpenElements" "types" "[Lcom/example/kenshinkit/kenshinkit/schema/SchemaType;" (.ref b2) := f8_17.other W9 (Or.inr (slot_ne (Or.inl (hw _ (List.mem_of_getElem? (i := 12) rfl))) (Or.inl (hw _ (List.mem_of_getElem? (i := 21) rfl))) (by decide) (t := (.array (.object "com/example/kenshinkit/kenshinkit/schema/SchemaType"))) (t' := (.array (.object "java/lang/String"))) (by decide) (by decide)))
  have f9_21 : Exa Z h9 b4 "[I" := f8_22.wr W9
  have f9_22 : Ary Z h9 b4 .int 64 (fun _ => .int 0) := f8_23.other W9 ne4_a.symm
  have f9_23 : Fld Z h9 a "com/example/kenshinkit/kenshinkit/schema/OpenElements" "states" "[I" (.ref b4) := f8_24.other W9 (Or.inr (slot_ne (Or.inl (hw _ (List.mem_of_getElem? (i := 15) rfl))) (Or.inl (hw _ (List.mem_of_getElem? (i := 21) rfl))) (by decide) (t := (.array .int)) (t' := (.array (.object "java/lang/String"))) (by decide) (by decide)))
  have f9_29 : Exa Z h9 b6 "[I" := f8_30.wr W9
  have f9_30 : Ary Z h9 b6 .int 64 (fun _ => .int 0) := f8_31.other W9 ne6_a.symm
  have f9_31 : Fld Z h9 a "com/example/kenshinkit/kenshinkit/schema/OpenElements" "marks" "[I" (.ref b6) := f8_32.other W9 (Or.inr (slot_ne (Or.inl (hw _ (List.mem_of_getElem? (i := 17) rfl))) (Or.inl (hw _ (List.mem_of_getElem? (i := 21) rfl))) (by decide) (t := (.array .int)) (t' := (.array (.object "java/lang/String"))) (by decide) (by decide)))
  have f9_38 : Exa Z h9 b8 "[Ljava/lang/String;" := A8.wr W9
  have f9_39 : AO Z h9 b8 "java/lang/String" := O8.wr W9
  have f9_40 : Ary Z h9 b8 (.object "java/lang/String") 16 (fun _ => .null) := B8'.other W9 ne8_a.symm
  have sz9 : n0 ≤ h9.size := Nat.le_trans sz8 (Keep.of_wr W9).1
  have K9 : Keep h0 h9 [a] := K8.wr W9 (Or.inl (List.mem_of_getElem? (i := 0) rfl))
  show Go p e below _ T9 (mkF m 38 #[.val (.ref a)] [])
  refine Go.st (T' := T9) (g' := (mkF m 39 #[.val (.ref a)] [(.ref a)])) (fun t_ k_ => XS.aloadN X9.here hx rfl (hb hby d1_38) rfl rfl k_) ?_
  refine Go.st (T' := T9) (g' := (mkF m 41 #[.val (.ref a)] [(.int (16 : Int32)), (.ref a)])) (fun t_ k_ => XS.bipush X9.here hx rfl (hb hby d1_39) k_) ?_
  refine goNewR X9 hx hZ hown (hw _ (List.mem_of_getElem? (i := 18) rfl)) (hw _ (List.mem_of_getElem? (i := 19) rfl)) (hb hby d1_41) (by decide) (cap := 16) (by decide) (by decide) (by decide) (by decide) (ad := "[Ljava/lang/String;") (by decide) fun T10 h10 b10 gb10 X10 E10 A10 B10 O10 => ?_
  have ge10 : n0 ≤ b10 := gb10 ▸ sz9
  have ne10_a : a ≠ b10 := gb10 ▸ Nat.ne_of_lt f9_0.lt
  have ne10_b2 : b2 ≠ b10 := gb10 ▸ Nat.ne_of_lt f9_13.lt
  have ne10_b4 : b4 ≠ b10 := gb10 ▸ Nat.ne_of_lt f9_21.lt
  have ne10_b6 : b6 ≠ b10 := gb10 ▸ Nat.ne_of_lt f9_29.lt
  have ne10_b8 : b8 ≠ b10 := gb10 ▸ Nat.ne_of_lt f9_38.lt
  have fr10 : h0.size ≤ b10 := gb10 ▸ K9.1
  have f10_0 : Exa Z h10 a "com/example/kenshinkit/kenshinkit/schema/OpenElements" := f9_0.ext E10
  have f10_1 : Fld Z h10 a "com/example/kenshinkit/kenshinkit/schema/OpenElements" "uris" "[Ljava/lang/String;" u4 := f9_1.ext E10
  have f10_2 : Fld Z h10 a "com/example/kenshinkit/kenshinkit/schema/OpenElements" "keptValues" "[Ljava/lang/String;" u5 := f9_2.ext E10
  have f10_3 : Fld Z h10 a "com/example/kenshinkit/kenshinkit/schema/OpenElements" "keptPrefixes" "[Ljava/lang/String;" u6 := f9_3.ext E10
  have f10_4 : Fld Z h10 a "com/example/kenshinkit/kenshinkit/schema/OpenElements" "keptNamespaces" "[Ljava/lang/String;" u7 := f9_4.ext E10
  have f10_5 : Fld Z h10 a "com/example/kenshinkit/kenshinkit/schema/OpenElements" "keptTypes" "[Lcom/example/kenshinkit/kenshinkit/schema/SchemaType;" u8 := f9_5.ext E10
  have f10_6 : Fld Z h10 a "com/example/kenshinkit/kenshinkit/schema/OpenElements" "depth" "I" (.int (0 : Int32)) := f9_6.ext E10
  have f10_7 : Fld Z h10 a "com/example/kenshinkit/kenshinkit/schema/OpenElements" "boundary" "I" (.int (0 : Int32)) := f9_7.ext E10
  have f10_8 : Fld Z h10 a "com/example/kenshinkit/kenshinkit/schema/OpenElements" "bindings" "I" (.int (0 : Int32)) := f9_8.ext E10
  have f10_13 : Exa Z h10 b2 "[Lcom/example/kenshinkit/kenshinkit/schema/SchemaType;" := f9_13.ext E10
  have f10_14 : AO Z h10 b2 "com/example/kenshinkit/kenshinkit/schema/SchemaType" := f9_14.ext E10
  have f10_15 : Ary Z h10 b2 (.object "com/example/kenshinkit/kenshinkit/schema/SchemaType") 64 (fun _ => .null) := f9_15.ext E10
  have f10_16 : Fld Z h10 a "com/example/kenshinkit/kenshinkit/schema/OpenElements" "types" "[Lcom/example/kenshinkit/kenshinkit/schema/SchemaType;" (.ref b2) := f9_16.ext E10
  have f10_21 : Exa Z h10 b4 "[I" := f9_21.ext E10
  have f10_22 : Ary Z h10 b4 .int 64 (fun _ => .int 0) := f9_22.ext E10
  have f10_23 : Fld Z h10 a "com/example/kenshinkit/kenshinkit/schema/OpenElements" "states" "[I" (.ref b4) := f9_23.ext E10
  have f10_29 : Exa Z h10 b6 "[I" := f9_29.ext E10
  have f10_30 : Ary Z h10 b6 .int 64 (fun _ => .int 0) := f9_30.ext E10
  have f10_31 : Fld Z h10 a "com/example/kenshinkit/kenshinkit/schema/OpenElements" "marks" "[I" (.ref b6) := f9_31.ext E10
  have f10_38 : Exa Z h10 b8 "[Ljava/lang/String;" := f9_38.ext E10
  have f10_39 : AO Z h10 b8 "java/lang/String" := f9_39.ext E10
  have f10_40 : Ary Z h10 b8 (.object "java/lang/String") 16 (fun _ => .null) := f9_40.ext E10
  have f10_41 : Fld Z h10 a "com/example/kenshinkit/kenshinkit/schema/OpenElements" "prefixes" "[Ljava/lang/String;" (.ref b8) := Fw9.ext E10
  have sz10 : n0 ≤ h10.size := Nat.le_trans sz9 E10.1
  have K10 : Keep h0 h10 [a] := K9.ext E10
  have B10' : Ary Z h10 b10 (.object "java/lang/String") 16 (fun _ => .null) := B10
  show Go p e below _ T10 (mkF m 44 #[.val (.ref a)] [(.ref b10), (.ref a)])
  refine goPut X10 hx hZ hown (host := "") (Or.inl (hw _ (List.mem_of_getElem? (i := 22) rfl))) Via.refl f10_1 f10_0 (Or.inl (hw _ (List.mem_of_getElem? (i := 23) rfl))) (hw _ (List.mem_of_getElem? (i := 1) rfl)) (ty := (.array (.object "java/lang/String"))) (by decide) rfl rfl g13 (hb hby d1_44) fun T11 h11 X11 W11 => ?_
  have Fw11 := f10_1.same W11
  have f11_0 : Exa Z h11 a "com/example/kenshinkit/kenshinkit/schema/OpenElements" := f10_0.wr W11
  have f11_1 : Fld Z h11 a "com/example/kenshinkit/kenshinkit/schema/OpenElements" "keptValues" "[Ljava/lang/String;" u5 := f10_2.other W11 (Or.inr (slot_ne (Or.inr (hw _ (List.mem_of_getElem? (i := 25) rfl))) (Or.inl (hw _ (List.mem_of_getElem? (i := 23) rfl))) (by decide) (t := (.array (.object "java/lang/String"))) (t' := (.array (.object "java/lang/String"))) (by decide) (by decide)))
  have f11_2 : Fld Z h11 a "com/example/kenshinkit/kenshinkit/schema/OpenElements" "keptPrefixes" "[Ljava/lang/String;" u6 := f10_3.other W11 (Or.inr (slot_ne (Or.inr (hw _ (List.mem_of_getElem? (i := 27) rfl))) (Or.inl (hw _ (List.mem_of_getElem? (i := 23) rfl))) (by decide) (t := (.array (.object "java/lang/String"))) (t' := (.array (.object "java/lang/String"))) (by decide) (by decide)))
  have f11_3 : Fld Z h11 a "com/example/kenshinkit/kenshinkit/schema/OpenElements" "keptNamespaces" "[Ljava/lang/String;" u7 := f10_4.other W11 (Or.inr (slot_ne (Or.inr (hw _ (List.mem_of_getElem? (i := 29) rfl))) (Or.inl (hw _ (List.mem_of_getElem? (i := 23) rfl))) (by decide) (t := (.array (.object "java/lang/String"))) (t' := (.array (.object "java/lang/String"))) (by decide) (by decide)))
  have f11_4 : Fld Z h11 a "com/example/kenshinkit/kenshinkit/schema/OpenElements" "keptTypes" "[Lcom/example/kenshinkit/kenshinkit/schema/SchemaType;" u8 := f10_5.other W11 (Or.inr (slot_ne (Or.inr (hw _ (List.mem_of_getElem? (i := 31) rfl))) (Or.inl (hw _ (List.mem_of_getElem? (i := 23) rfl))) (by decide) (t := (.array (.object "com/example/kenshinkit/kenshinkit/schema/SchemaType"))) (t' := (.array (.object "java/lang/String"))) (by decide) (by decide)))
  have f11_5 : Fld Z h11 a "com/example/kenshinkit/kenshinkit/schema/OpenElements" "depth" "I" (.int (0 : Int32)) := f10_6.other W11 (Or.inr (slot_ne (Or.inl (hw _ (List.mem_of_getElem? (i := 54) rfl))) (Or.inl (hw _ (List.mem_of_getElem? (i := 23) rfl))) (by decide) (t := .int) (t' := (.array (.object "java/lang/String"))) (by decide) (by decide)))
  have f11_6 : Fld Z h11 a "com/example/kenshinkit/kenshinkit/schema/OpenElements" "boundary" "I" (.int (0 : Int32)) := f10_7.other W11 (Or.inr (slot_ne (Or.inl (hw _ (List.mem_of_getElem? (i := 57) rfl))) (Or.inl (hw _ (List.mem_of_getElem? (i := 23) rfl))) (by decide) (t := .int) (t' := (.array (.object "java/lang/String"))) (by decide) (by decide)))
  have f11_7 : Fld Z h11 a "com/example/kenshinkit/kenshinkit/schema/OpenElements" "bindings" "I" (.int (0 : Int32)) := f10_8.other W11 (Or.inr (slot_ne (Or.inl (hw _ (List.mem_of_getElem? (i := 59) rfl))) (Or.inl (hw _ (List.mem_of_getElem? (i := 23) rfl))) (by decide) (t := .int) (t' := (.array (.object "java/lang/String"))) (by decide) (by decide)))
  have f11_12 : Exa Z h11 b2 "[Lcom/example/kenshinkit/kenshinkit/schema/SchemaType;" := f10_13.wr W11
  have f11_13 : AO Z h11 b2 "com/example/kenshinkit/kenshinkit/schema/SchemaType" := f10_14.wr W11
  have f11_14 : Ary Z h11 b2 (.object "com/example/kenshinkit/kenshinkit/schema/SchemaType") 64 (fun _ => .null) := f10_15.other W11 ne2_a.symm
  have f11_15 : Fld Z h11 a "com/example/kenshinkit/kenshinkit/schema/OpenElements" "types" "[Lcom/example/kenshinkit/kenshinkit/schema/SchemaType;" (.ref b2) := f10_16.other W11 (Or.inr (slot_ne (Or.inl (hw _ (List.mem_of_getElem? (i := 12) rfl))) (Or.inl (hw _ (List.mem_of_getElem? (i := 23) rfl))) (by decide) (t := (.array (.object "com/example/kenshinkit/kenshinkit/schema/SchemaType"))) (t' := (.array (.object "java/lang/String"))) (by decide) (by decide)))
  have f11_20 : Exa Z h11 b4 "[I" := f10_21.wr W11
  have f11_21 : Ary Z h11 b4 .int 64 (fun _ => .int 0) := f10_22.other W11 ne4_a.symm
  have f11_22 : Fld Z h11 a "com/example/kenshinkit/kenshinkit/schema/OpenElements" "states" "[I" (.ref b4) := f10_23.other W11 (Or.inr (slot_ne (Or.inl (hw _ (List.mem_of_getElem? (i := 15) rfl))) (Or.inl (hw _ (List.mem_of_getElem? (i := 23) rfl))) (by decide) (t := (.array .int)) (t' := (.array (.object "java/lang/String"))) (by decide) (by decide)))
  have f11_28 : Exa Z h11 b6 "[I" := f10_29.wr W11
  have f11_29 : Ary Z h11 b6 .int 64 (fun _ => .int 0) := f10_30.other W11 ne6_a.symm
  have f11_30 : Fld Z h11 a "com/example/kenshinkit/kenshinkit/schema/OpenElements" "marks" "[I" (.ref b6) := f10_31.other W11 (Or.inr (slot_ne (Or.inl (hw _ (List.mem_of_getElem? (i := 17) rfl))) (Or.inl (hw _ (List.mem_of_getElem? (i := 23) rfl))) (by decide) (t := (.array .int)) (t' := (.array (.object "java/lang/String"))) (by decide) (by decide)))
  have f11_37 : Exa Z h11 b8 "[Ljava/lang/String;" := f10_38.wr W11
  have f11_38 : AO Z h11 b8 "java/lang/String" := f10_39.wr W11
  have f11_39 : Ary Z h11 b8 (.object "java/lang/String") 16 (fun _ => .null) := f10_40.other W11 ne8_a.symm
  have f11_40 : Fld Z h11 a "com/example/kenshinkit/kenshinkit/schema/OpenElements" "prefixes" "[Ljava/lang/String;" (.ref b8) := f10_41.other W11 (Or.inr (slot_ne (Or.inl (hw _ (List.mem_of_getElem? (i := 21) rfl))) (Or.inl (hw _ (List.mem_of_getElem? (i := 23) rfl))) (by decide) (t := (.array (.object "java/lang/String"))) (t' := (.array (.object "java/lang/String"))) (by decide) (by decide)))
  have f11_48 : Exa Z h11 b10 "[Ljava/lang/String;" := A10.wr W11
  have f11_49 : AO Z h11 b10 "java/lang/String" := O10.wr W11
  have f11_50 : Ary Z h11 b10 (.object "java/lang/String") 16 (fun _ => .null) := B10'.other W11 ne10_a.symm
  have sz11 : n0 ≤ h11.size := Nat.le_trans sz10 (Keep.of_wr W11).1
  have K11 : Keep h0 h11 [a] := K10.wr W11 (Or.inl (List.mem_of_getElem? (i := 0) rfl))
  show Go p e below _ T11 (mkF m 47 #[.val (.ref a)] [])
  refine Go.st (T' := T11) (g' := (mkF m 48 #[.val (.ref a)] [(.ref a)])) (fun t_ k_ => XS.aloadN X11.here hx rfl (hb hby d1_47) rfl rfl k_) ?_
  refine Go.st (T' := T11) (g' := (mkF m 50 #[.val (.ref a)] [(.int (16 : Int32)), (.ref a)])) (fun t_ k_ => XS.bipush X11.here hx rfl (hb hby d1_48) k_) ?_
  refine goNewR X11 hx hZ hown (hw _ (List.mem_of_getElem? (i := 18) rfl)) (hw _ (List.mem_of_getElem? (i := 19) rfl)) (hb hby d1_50) (by decide) (cap := 16) (by decide) (by decide) (by decide) (by decide) (ad := "[Ljava/lang/String;") (by decide) fun T12 h12 b12 gb12 X12 E12 A12 B12 O12 => ?_
  have ge12 : n0 ≤ b12 := gb12 ▸ sz11
  have ne12_a : a ≠ b12 := gb12 ▸ Nat.ne_of_lt f11_0.lt
  have ne12_b2 : b2 ≠ b12 := gb12 ▸ Nat.ne_of_lt f11_12.lt
  have ne12_b4 : b4 ≠ b12 := gb12 ▸ Nat.ne_of_lt f11_20.lt
  have ne12_b6 : b6 ≠ b12 := gb12 ▸ Nat.ne_of_lt f11_28.lt
  have ne12_b8 : b8 ≠ b12 := gb12 ▸ Nat.ne_of_lt f11_37.lt
  have ne12_b10 : b10 ≠ b12 := gb12 ▸ Nat.ne_of_lt f11_48.lt
  have fr12 : h0.size ≤ b12 := gb12 ▸ K11.1
  have f12_0 : Exa Z h12 a "com/example/kenshinkit/kenshinkit/schema/OpenElements" := f11_0.ext E12
  have f12_1 : Fld Z h12 a "com/example/kenshinkit/kenshinkit/schema/OpenElements" "keptValues" "[Ljava/lang/String;" u5 := f11_1.ext E12
  have f12_2 : Fld Z h12 a "com/example/kenshinkit/kenshinkit/schema/OpenElements" "keptPrefixes" "[Ljava/lang/String;" u6 := f11_2.ext E12
  have f12_3 : Fld Z h12 a "com/example/kenshinkit/kenshinkit/schema/OpenElements" "keptNamespaces" "[Ljava/lang/String;" u7 := f11_3.ext E12
  have f12_4 : Fld Z h12 a "com/example/kenshinkit/kenshinkit/schema/OpenElements" "keptTypes" "[Lcom/example/kenshinkit/kenshinkit/schema/SchemaType;" u8 := f11_4.ext E12
  have f12_5 : Fld Z h12 a "com/example/kenshinkit/kenshinkit/schema/OpenElements" "depth" "I" (.int (0 : Int32)) := f11_5.ext E12
  have f12_6 : Fld Z h12 a "com/example/kenshinkit/kenshinkit/schema/OpenElements" "boundary" "I" (.int (0 : Int32)) := f11_6.ext E12
  have f12_7 : Fld Z h12 a "com/example/kenshinkit/kenshinkit/schema/OpenElements" "bindings" "I" (.int (0 : Int32)) := f11_7.ext E12
  have f12_12 : Exa Z h12 b2 "[Lcom/example/kenshinkit/kenshinkit/schema/SchemaType;" := f11_12.ext E12
  have f12_13 : AO Z h12 b2 "com/example/kenshinkit/kenshinkit/schema/SchemaType" := f11_13.ext E12
  have f12_14 : Ary Z h12 b2 (.object "com/example/kenshinkit/kenshinkit/schema/SchemaType") 64 (fun _ => .null) := f11_14.ext E12
  have f12_15 : Fld Z h12 a "com/example/kenshinkit/kenshinkit/schema/OpenElements" "types" "[Lcom/example/kenshinkit/kenshinkit/schema/SchemaType;" (.ref b2) := f11_15.ext E12
  have f12_20 : Exa Z h12 b4 "[I" := f11_20.ext E12
  have f12_21 : Ary Z h12 b4 .int 64 (fun _ => .int 0) := f11_21.ext E12
  have f12_22 : Fld Z h12 a "com/example/kenshinkit/kenshinkit/schema/OpenElements" "states" "[I" (.ref b4) := f11_22.ext E12
  have f12_28 : Exa Z h12 b6 "[I" := f11_28.ext E12
  have f12_29 : Ary Z h12 b6 .int 64 (fun _ => .int 0) := f11_29.ext E12
  have f12_30 : Fld Z h12 a "com/example/kenshinkit/kenshinkit/schema/OpenElements" "marks" "[I" (.ref b6) := f11_30.ext E12
  have f12_37 : Exa Z h12 b8 "[Ljava/lang/String;" := f11_37.ext E12
  have f12_38 : AO Z h12 b8 "java/lang/String" := f11_38.ext E12
  have f12_39 : Ary Z h12 b8 (.object "java/lang/String") 16 (fun _ => .null) := f11_39.ext E12
  have f12_40 : Fld Z h12 a "com/example/kenshinkit/kenshinkit/schema/OpenElements" "prefixes" "[Ljava/lang/String;" (.ref b8) := f11_40.ext E12
  have f12_48 : Exa Z h12 b10 "[Ljava/lang/String;" := f11_48.ext E12
  have f12_49 : AO Z h12 b10 "java/lang/String" := f11_49.ext E12
  have f12_50 : Ary Z h12 b10 (.object "java/lang/String") 16 (fun _ => .null) := f11_50.ext E12
  have f12_51 : Fld Z h12 a "com/example/kenshinkit/kenshinkit/schema/OpenElements" "uris" "[Ljava/lang/String;" (.ref b10) := Fw11.ext E12
  have sz12 : n0 ≤ h12.size := Nat.le_trans sz11 E12.1
  have K12 : Keep h0 h12 [a] := K11.ext E12
  have B12' : Ary Z h12 b12 (.object "java/lang/String") 16 (fun _ => .null) := B12
  show Go p e below _ T12 (mkF m 53 #[.val (.ref a)] [(.ref b12), (.ref a)])
  refine goPut X12 hx hZ hown (host := "") (Or.inl (hw _ (List.mem_of_getElem? (i := 24) rfl))) Via.refl f12_1 f12_0 (Or.inr ⟨(hw _ (List.mem_of_getElem? (i := 25) rfl)), rfl, hnm⟩) (hw _ (List.mem_of_getElem? (i := 1) rfl)) (ty := (.array (.object "java/lang/String"))) (by decide) rfl rfl g13 (hb hby d1_53) fun T13 h13 X13 W13 => ?_
  have Fw13 := f12_1.same W13
  have f13_0 : Exa Z h13 a "com/example/kenshinkit/kenshinkit/schema/OpenElements" := f12_0.wr W13
  have f13_1 : Fld Z h13 a "com/example/kenshinkit/kenshinkit/schema/OpenElements" "keptPrefixes" "[Ljava/lang/String;" u6 := f12_2.other W13 (Or.inr (slot_ne (Or.inr (hw _ (List.mem_of_getElem? (i := 27) rfl))) (Or.inr (hw _ (List.mem_of_getElem? (i := 25) rfl))) (by decide) (t := (.array (.object "java/lang/String"))) (t' := (.array (.object "java/lang/String"))) (by decide) (by decide)))
  have f13_2 : Fld Z h13 a "com/example/kenshinkit/kenshinkit/schema/OpenElements" "keptNamespaces" "[Ljava/lang/String;" u7 := f12_3.other W13 (Or.inr (slot_ne (Or.inr (hw _ (List.mem_of_getElem? (i := 29) rfl))) (Or.inr (hw _ (List.mem_of_getElem? (i := 25) rfl))) (by decide) (t := (.array (.object "java/lang/String"))) (t' := (.array (.object "java/lang/String"))) (by decide) (by decide)))
  have f13_3 : Fld Z h13 a "com/example/kenshinkit/kenshinkit/schema/OpenElements" "keptTypes" "[Lcom/example/kenshinkit/kenshinkit/schema/SchemaType;" u8 := f12_4.other W13 (Or.inr (slot_ne (Or.inr (hw _ (List.mem_of_getElem? (i := 31) rfl))) (Or.inr (hw _ (List.mem_of_getElem? (i := 25) rfl))) (by decide) (t := (.array (.object "com/example/kenshinkit/kenshinkit/schema/SchemaType"))) (t' := (.array (.object "java/lang/String"))) (by decide) (by decide)))
  have f13_4 : Fld Z h13 a "com/example/kenshinkit/kenshinkit/schema/OpenElements" "depth" "I" (.int (0 : Int32)) := f12_5.other W13 (Or.inr (slot_ne (Or.inl (hw _ (List.mem_of_getElem? (i := 54) rfl))) (Or.inr (hw _ (List.mem_of_getElem? (i := 25) rfl))) (by decide) (t := .int) (t' := (.array (.object "java/lang/String"))) (by decide) (by decide)))
  have f13_5 : Fld Z h13 a "com/example/kenshinkit/kenshinkit/schema/OpenElements" "boundary" "I" (.int (0 : Int32)) := f12_6.other W13 (Or.inr (slot_ne (Or.inl (hw _ (List.mem_of_getElem? (i := 57) rfl))) (Or.inr (hw _ (List.mem_of_getElem? (i := 25) rfl))) (by decide) (t := .int) (t' := (.array (.object "java/lang/String"))) (by decide) (by decide)))
  have f13_6 : Fld Z h13 a "com/example/kenshinkit/kenshinkit/schema/OpenElements" "bindings" "I" (.int (0 : Int32)) := f12_7.other W13 (Or.inr (slot_ne (Or.inl (hw _ (List.mem_of_getElem? (i := 59) rfl))) (Or.inr (hw _ (List.mem_of_getElem? (i := 25) rfl))) (by decide) (t := .int) (t' := (.array (.object "java/lang/String"))) (by decide) (by decide)))
  have f13_11 : Exa Z h13 b2 "[Lcom/example/kenshinkit/kenshinkit/schema/SchemaType;" := f12_12.wr W13
  have f13_12 : AO Z h13 b2 "com/example/kenshinkit/kenshinkit/schema/SchemaType" := f12_13.wr W13
  have f13_13 : Ary Z h13 b2 (.object "com/example/kenshinkit/kenshinkit/schema/SchemaType") 64 (fun _ => .null) := f12_14.other W13 ne2_a.symm
  have f13_14 : Fld Z h13 a "com/example/kenshinkit/kenshinkit/schema/OpenElements" "types" "[Lcom/example/kenshinkit/kenshinkit/schema/SchemaType;" (.ref b2) := f12_15.other W13 (Or.inr (slot_ne (Or.inl (hw _ (List.mem_of_getElem? (i := 12) rfl))) (Or.inr (hw _ (List.mem_of_getElem? (i := 25) rfl))) (by decide) (t := (.array (.object "com/example/kenshinkit/kenshinkit/schema/SchemaType"))) (t' := (.array (.object "java/lang/String"))) (by decide) (by decide)))
  have f13_19 : Exa Z h13 b4 "[I" := f12_20.wr W13
  have f13_20 : Ary Z h13 b4 .int 64 (fun _ => .int 0) := f12_21.other W13 ne4_a.symm
  have f13_21 : Fld Z h13 a "com/example/kenshinkit/kenshinkit/schema/OpenElements" "states" "[I" (.ref b4) := f12_22.other W13 (Or.inr (slot_ne (Or.inl (hw _ (List.mem_of_getElem? (i := 15) rfl))) (Or.inr (hw _ (List.mem_of_getElem? (i := 25) rfl))) (by decide) (t := (.array .int)) (t' := (.array (.object "java/lang/String"))) (by decide) (by decide)))
  have f13_27 : Exa Z h13 b6 "[I" := f12_28.wr W13
  have f13_28 : Ary Z h13 b6 .int 64 (fun _ => .int 0) := f12_29.other W13 ne6_a.symm
  have f13_29 : Fld Z h13 a "com/example/kenshinkit/kenshinkit/schema/OpenElements" "marks" "[I" (.ref b6) := f12_30.other W13 (Or.inr (slot_ne (Or.inl (hw _ (List.mem_of_getElem? (i := 17) rfl))) (Or.inr (hw _ (List.mem_of_getElem? (i := 25) rfl))) (by decide) (t := (.array .int)) (t' := (.array (.object "java/lang/String"))) (by decide) (by decide)))
  have f13_36 : Exa Z h13 b8 "[Ljava/lang/String;" := f12_37.wr W13
  have f13_37 : AO Z h13 b8 "java/lang/String" := f12_38.wr W13
  have f13_38 : Ary Z h13 b8 (.object "java/lang/String") 16 (fun _ => .null) := f12_39.other W13 ne8_a.symm
  have f13_39 : Fld Z h13 a "com/example/kenshinkit/kenshinkit/schema/OpenElements" "prefixes" "[Ljava/lang/String;" (.ref b8) := f12_40.other W13 (Or.inr (slot_ne (Or.inl (hw _ (List.mem_of_getElem? (i := 21) rfl))) (Or.inr (hw _ (List.mem_of_getElem? (i := 25) rfl))) (by decide) (t := (.array (.object "java/lang/String"))) (t' := (.array (.object "java/lang/String"))) (by decide) (by decide)))
  have f13_47 : Exa Z h13 b10 "[Ljava/lang/String;" := f12_48.wr W13
  have f13_48 : AO Z h13 b10 "java/lang/String" := f12_49.wr W13
  have f13_49 : Ary Z h13 b10 (.object "java/lang/String") 16 (fun _ => .null) := f12_50.other W13 ne10_a.symm
  have f13_50 : Fld Z h13 a "com/example/kenshinkit/kenshinkit/schema/OpenElements" "uris" "[Ljava/lang/String;" (.ref b10) := f12_51.other W13 (Or.inr (slot_ne (Or.inl (hw _ (List.mem_of_getElem? (i := 23) rfl))) (Or.inr (hw _ (List.mem_of_getElem? (i := 25) rfl))) (by decide) (t := (.array (.object "java/lang/String"))) (t' := (.array (.object "java/lang/String"))) (by decide) (by decide)))
  have f13_59 : Exa Z h13 b12 "[Ljava/lang/String;" := A12.wr W13
  have f13_60 : AO Z h13 b12 "java/lang/String" := O12.wr W13
  have f13_61 : Ary Z h13 b12 (.object "java/lang/String") 16 (fun _ => .null) := B12'.other W13 ne12_a.symm
  have sz13 : n0 ≤ h13.size := Nat.le_trans sz12 (Keep.of_wr W13).1
  have K13 : Keep h0 h13 [a] := K12.wr W13 (Or.inl (List.mem_of_getElem? (i := 0) rfl))
  show Go p e below _ T13 (mkF m 56 #[.val (.ref a)] [])
  refine Go.st (T' := T13) (g' := (mkF m 57 #[.val (.ref a)] [(.ref a)])) (fun t_ k_ => XS.aloadN X13.here hx rfl (hb hby d1_56) rfl rfl k_) ?_
  refine Go.st (T' := T13) (g' := (mkF m 59 #[.val (.ref a)] [(.int (16 : Int32)), (.ref a)])) (fun t_ k_ => XS.bipush X13.here hx rfl (hb hby d1_57) k_) ?_
  refine goNewR X13 hx hZ hown (hw _ (List.mem_of_getElem? (i := 18) rfl)) (hw _ (List.mem_of_getElem? (i := 19) rfl)) (hb hby d1_59) (by decide) (cap := 16) (by decide) (by decide) (by decide) (by decide) (ad := "[Ljava/lang/String;") (by decide) fun T14 h14 b14 gb14 X14 E14 A14 B14 O14 => ?_
  have ge14 : n0 ≤ b14 := gb14 ▸ sz13
  have ne14_a : a ≠ b14 := gb14 ▸ Nat.ne_of_lt f13_0.lt
  have ne14_b2 : b2 ≠ b14 := gb14 ▸ Nat.ne_of_lt f13_11.lt
  have ne14_b4 : b4 ≠ b14 := gb14 ▸ Nat.ne_of_lt f13_19.lt
  have ne14_b6 : b6 ≠ b14 := gb14 ▸ Nat.ne_of_lt f13_27.lt
  have ne14_b8 : b8 ≠ b14 := gb14 ▸ Nat.ne_of_lt f13_36.lt
  have ne14_b10 : b10 ≠ b14 := gb14 ▸ Nat.ne_of_lt f13_47.lt
  have ne14_b12 : b12 ≠ b14 := gb14 ▸ Nat.ne_of_lt f13_59.lt
  have fr14 : h0.size ≤ b14 := gb14 ▸ K13.1
  have f14_0 : Exa Z h14 a "com/example/kenshinkit/kenshinkit/schema/OpenElements" := f13_0.ext E14
  have f14_1 : Fld Z h14 a "com/example/kenshinkit/kenshinkit/schema/OpenElements" "keptPrefixes" "[Ljava/lang/String;" u6 := f13_1.ext E14
  have f14_2 : Fld Z h14 a "com/example/kenshinkit/kenshinkit/schema/OpenElements" "keptNamespaces" "[Ljava/lang/String;" u7 := f13_2.ext E14
  have f14_3 : Fld Z h14 a "com/example/kenshinkit/kenshinkit/schema/OpenElements" "keptTypes" "[Lcom/example/kenshinkit/kenshinkit/schema/SchemaType;" u8 := f13_3.ext E14
  have f14_4 : Fld Z h14 a "com/example/kenshinkit/kenshinkit/schema/OpenElements" "depth" "I" (.int (0 : Int32)) := f13_4.ext E14
  have f14_5 : Fld Z h14 a "com/example/kenshinkit/kenshinkit/schema/OpenElements" "boundary" "I" (.int (0 : Int32)) := f13_5.ext E14
  have f14_6 : Fld Z h14 a "com/example/kenshinkit/kenshinkit/schema/OpenElements" "bindings" "I" (.int (0 : Int32)) := f13_6.ext E14
  have f14_11 : Exa Z h14 b2 "[Lcom/example/kenshinkit/kenshinkit/schema/SchemaType;" := f13_11.ext E14
  have f14_12 : AO Z h14 b2 "com/example/kenshinkit/kenshinkit/schema/SchemaType" := f13_12.ext E14
  have f14_13 : Ary Z h14 b2 (.object "com/example/kenshinkit/kenshinkit/schema/SchemaType") 64 (fun _ => .null) := f13_13.ext E14
  have f14_14 : Fld Z h14 a "com/example/kenshinkit/kenshinkit/schema/OpenElements" "types" "[Lcom/example/kenshinkit/kenshinkit/schema/SchemaType;" (.ref b2) := f13_14.ext E14
  have f14_19 : Exa Z h14 b4 "[I" := f13_19.ext E14
  have f14_20 : Ary Z h14 b4 .int 64 (fun _ => .int 0) := f13_20.ext E14
  have f14_21 : Fld Z h14 a "com/example/kenshinkit/kenshinkit/schema/OpenElements" "states" "[I" (.ref b4) := f13_21.ext E14
  have f14_27 : Exa Z h14 b6 "[I" := f13_27.ext E14
  have f14_28 : Ary Z h14 b6 .int 64 (fun _ => .int 0) := f13_28.ext E14
  have f14_29 : Fld Z h14 a "com/example/kenshinkit/kenshinkit/schema/OpenElements" "marks" "[I" (.ref b6) := f13_29.ext E14
  have f14_36 : Exa Z h14 b8 "[Ljava/lang/String;" := f13_36.ext E14
  have f14_37 : AO Z h14 b8 "java/lang/String" := f13_37.ext E14
  have f14_38 : Ary Z h14 b8 (.object "java/lang/String") 16 (fun _ => .null) := f13_38.ext E14
  have f14_39 : Fld Z h14 a "com/example/kenshinkit/kenshinkit/schema/OpenElements" "prefixes" "[Ljava/lang/String;" (.ref b8) := f13_39.ext E14
  have f14_47 : Exa Z h14 b10 "[Ljava/lang/String;" := f13_47.ext E14
  have f14_48 : AO Z h14 b10 "java/lang/String" := f13_48.ext E14
  have f14_49 : Ary Z h14 b10 (.object "java/lang/String") 16 (fun _ => .null) := f13_49.ext E14
  have f14_50 : Fld Z h14 a "com/example/kenshinkit/kenshinkit/schema/OpenElements" "uris" "[Ljava/lang/String;" (.ref b10) := f13_50.ext E14
  have f14_59 : Exa Z h14 b12 "[Ljava/lang/String;" := f13_59.ext E14
  have f14_60 : AO Z h14 b12 "java/lang/String" := f13_60.ext E14
  have f14_61 : Ary Z h14 b12 (.object "java/lang/String") 16 (fun _ => .null) := f13_61.ext E14
  have f14_62 : Fld Z h14 a "com/example/kenshinkit/kenshinkit/schema/OpenElements" "keptValues" "[Ljava/lang/String;" (.ref b12) := Fw13.ext E14
  have sz14 : n0 ≤ h14.size := Nat.le_trans sz13 E14.1
  have K14 : Keep h0 h14 [a] := K13.ext E14
  have B14' : Ary Z h14 b14 (.object "java/lang/String") 16 (fun _ => .null) := B14
  show Go p e below _ T14 (mkF m 62 #[.val (.ref a)] [(.ref b14), (.ref a)])
  refine goPut X14 hx hZ hown (host := "") (Or.inl (hw _ (List.mem_of_getElem? (i := 26) rfl))) Via.refl f14_1 f14_0 (Or.inr ⟨(hw _ (List.mem_of_getElem? (i := 27) rfl)), rfl, hnm⟩) (hw _ (List.mem_of_getElem? (i := 1) rfl)) (ty := (.array (.object "java/lang/String"))) (by decide) rfl rfl g13 (hb hby d1_62) fun T15 h15 X15 W15 => ?_
  have Fw15 := f14_1.same W15
  have f15_0 : Exa Z h15 a "com/example/kenshinkit/kenshinkit/schema/OpenElements" := f14_0.wr W15
  have f15_1 : Fld Z h15 a "com/example/kenshinkit/kenshinkit/schema/OpenElements" "keptNamespaces" "[Ljava/lang/String;" u7 := f14_2.other W15 (Or.inr (slot_ne (Or.inr (hw _ (List.mem_of_getElem? (i := 29) rfl))) (Or.inr (hw _ (List.mem_of_getElem? (i := 27) rfl))) (by decide) (t := (.array (.object "java/lang/String"))) (t' := (.array (.object "java/lang/String"))) (by decide) (by decide)))
  have f15_2 : Fld Z h15 a "com/example/kenshinkit/kenshinkit/schema/OpenElements" "keptTypes" "[Lcom/example/kenshinkit/kenshinkit/schema/SchemaType;" u8 := f14_3.other W15 (Or.inr (slot_ne (Or.inr (hw _ (List.mem_of_getElem? (i := 31) rfl))) (Or.inr (hw _ (List.mem_of_getElem? (i := 27) rfl))) (by decide) (t := (.array (.object "com/example/kenshinkit/kenshinkit/schema/SchemaType"))) (t' := (.array (.object "java/lang/String"))) (by decide) (by decide)))
  have f15_3 : Fld Z h15 a "com/example/kenshinkit/kenshinkit/schema/OpenElements" "depth" "I" (.int (0 : Int32)) := f14_4.other W15 (Or.inr (slot_ne (Or.inl (hw _ (List.mem_of_getElem? (i := 54) rfl))) (Or.inr (hw _ (List.mem_of_getElem? (i := 27) rfl))) (by decide) (t := .int) (t' := (.array (.object "java/lang/String"))) (by decide) (by decide)))
  have f15_4 : Fld Z h15 a "com/example/kenshinkit/kenshinkit/schema/OpenElements" "boundary" "I" (.int (0 : Int32)) := f14_5.other W15 (Or.inr (slot_ne (Or.inl (hw _ (List.mem_of_getElem? (i := 57) rfl))) (Or.inr (hw _ (List.mem_of_getElem? (i := 27) rfl))) (by decide) (t := .int) (t' := (.array (.object "java/lang/String"))) (by decide) (by decide)))
  have f15_5 : Fld Z h15 a "com/example/kenshinkit/kenshinkit/schema/OpenElements" "bindings" "I" (.int (0 : Int32)) := f14_6.other W15 (Or.inr (slot_ne (Or.inl (hw _ (List.mem_of_getElem? (i := 59) rfl))) (Or.inr (hw _ (List.mem_of_getElem? (i := 27) rfl))) (by decide) (t := .int) (t' := (.array (.object "java/lang/String"))) (by decide) (by decide)))
  have f15_10 : Exa Z h15 b2 "[Lcom/example/kenshinkit/kenshinkit/schema/SchemaType;" := f14_11.wr W15
  have f15_11 : AO Z h15 b2 "com/example/kenshinkit/kenshinkit/schema/SchemaType" := f14_12.wr W15
  have f15_12 : Ary Z h15 b2 (.object "com/example/kenshinkit/kenshinkit/schema/SchemaType") 64 (fun _ => .null) := f14_13.other W15 ne2_a.symm
  have f15_13 : Fld Z h15 a "com/example/kenshinkit/kenshinkit/schema/OpenElements" "types" "[Lcom/example/kenshinkit/kenshinkit/schema/SchemaType;" (.ref b2) := f14_14.other W15 (Or.inr (slot_ne (Or.inl (hw _ (List.mem_of_getElem? (i := 12) rfl))) (Or.inr (hw _ (List.mem_of_getElem? (i := 27) rfl))) (by decide) (t := (.array (.object "com/example/kenshinkit/kenshinkit/schema/SchemaType"))) (t' := (.array (.object "java/lang/String"))) (by decide) (by decide)))
  have f15_18 : Exa Z h15 b4 "[I" := f14_19.wr W15
  have f15_19 : Ary Z h15 b4 .int 64 (fun _ => .int 0) := f14_20.other W15 ne4_a.symm
  have f15_20 : Fld Z h15 a "com/example/kenshinkit/kenshinkit/schema/OpenElements" "states" "[I" (.ref b4) := f14_21.other W15 (Or.inr (slot_ne (Or.inl (hw _ (List.mem_of_getElem? (i := 15) rfl))) (Or.inr (hw _ (List.mem_of_getElem? (i := 27) rfl))) (by decide) (t := (.array .int)) (t' := (.array (.object "java/lang/String"))) (by decide) (by decide)))
  have f15_26 : Exa Z h15 b6 "[I" := f14_27.wr W15
  have f15_27 : Ary Z h15 b6 .int 64 (fun _ => .int 0) := f14_28.other W15 ne6_a.symm
  have f15_28 : Fld Z h15 a "com/example/kenshinkit/kenshinkit/schema/OpenElements" "marks" "[I" (.ref b6) := f14_29.other W15 (Or.inr (slot_ne (Or.inl (hw _ (List.mem_of_getElem? (i := 17) rfl))) (Or.inr (hw _ (List.mem_of_getElem? (i := 27) rfl))) (by decide) (t := (.array .int)) (t' := (.array (.object "java/lang/String"))) (by decide) (by decide)))
  have f15_35 : Exa Z h15 b8 "[Ljava/lang/String;" := f14_36.wr W15
  have f15_36 : AO Z h15 b8 "java/lang/String" := f14_37.wr W15
  have f15_37 : Ary Z h15 b8 (.object "java/lang/String") 16 (fun _ => .null) := f14_38.other W15 ne8_a.symm
  have f15_38 : Fld Z h15 a "com/example/kenshinkit/kenshinkit/schema/OpenElements" "prefixes" "[Ljava/lang/String;" (.ref b8) := f14_39.other W15 (Or.inr (slot_ne (Or.inl (hw _ (List.mem_of_getElem? (i := 21) rfl))) (Or.inr (hw _ (List.mem_of_getElem? (i := 27) rfl))) (by decide) (t := (.array (.object "java/lang/String"))) (t' := (.array (.object "java/lang/String"))) (by decide) (by decide)))
  have f15_46 : Exa Z h15 b10 "[Ljava/lang/String;" := f14_47.wr W15
  have f15_47 : AO Z h15 b10 "java/lang/String" := f14_48.wr W15
  have f15_48 : Ary Z h15 b10 (.object "java/lang/String") 16 (fun _ => .null) := f14_49.other W15 ne10_a.symm
  have f15_49 : Fld Z h15 a "com/example/kenshinkit/kenshinkit/schema/OpenElements" "uris" "[Ljava/lang/String;" (.ref b10) := f14_50.other W15 (Or.inr (slot_ne (Or.inl (hw _ (List.mem_of_getElem? (i := 23) rfl))) (Or.inr (hw _ (List.mem_of_getElem? (i := 27) rfl))) (by decide) (t := (.array (.object "java/lang/String"))) (t' := (.array (.object "java/lang/String"))) (by decide) (by decide)))
  have f15_58 : Exa Z h15 b12 "[Ljava/lang/String;" := f14_59.wr W15
  have f15_59 : AO Z h15 b12 "java/lang/String" := f14_60.wr W15
  have f15_60 : Ary Z h15 b12 (.object "java/lang/String") 16 (fun _ => .null) := f14_61.other W15 ne12_a.symm
  have f15_61 : Fld Z h15 a "com/example/kenshinkit/kenshinkit/schema/OpenElements" "keptValues" "[Ljava/lang/String;" (.ref b12) := f14_62.other W15 (Or.inr (slot_ne (Or.inr (hw _ (List.mem_of_getElem? (i := 25) rfl))) (Or.inr (hw _ (List.mem_of_getElem? (i := 27) rfl))) (by decide) (t := (.array (.object "java/lang/String"))) (t' := (.array (.object "java/lang/String"))) (by decide) (by decide)))
  have f15_71 : Exa Z h15 b14 "[Ljava/lang/String;" := A14.wr W15
  have f15_72 : AO Z h15 b14 "java/lang/String" := O14.wr W15
  have f15_73 : Ary Z h15 b14 (.object "java/lang/String") 16 (fun _ => .null) := B14'.other W15 ne14_a.symm
  have sz15 : n0 ≤ h15.size := Nat.le_trans sz14 (Keep.of_wr W15).1
  have K15 : Keep h0 h15 [a] := K14.wr W15 (Or.inl (List.mem_of_getElem? (i := 0) rfl))
  show Go p e below _ T15 (mkF m 65 #[.val (.ref a)] [])
  refine Go.st (T' := T15) (g' := (mkF m 66 #[.val (.ref a)] [(.ref a)])) (fun t_ k_ => XS.aloadN X15.here hx rfl (hb hby d1_65) rfl rfl k_) ?_
  refine Go.st (T' := T15) (g' := (mkF m 68 #[.val (.ref a)] [(.int (16 : Int32)), (.ref a)])) (fun t_ k_ => XS.bipush X15.here hx rfl (hb hby d1_66) k_) ?_
  refine goNewR X15 hx hZ hown (hw _ (List.mem_of_getElem? (i := 18) rfl)) (hw _ (List.mem_of_getElem? (i := 19) rfl)) (hb hby d1_68) (by decide) (cap := 16) (by decide) (by decide) (by decide) (by decide) (ad := "[Ljava/lang/String;") (by decide) fun T16 h16 b16 gb16 X16 E16 A16 B16 O16 => ?_
  have ge16 : n0 ≤ b16 := gb16 ▸ sz15
  have ne16_a : a ≠ b16 := gb16 ▸ Nat.ne_of_lt f15_0.lt
  have ne16_b2 : b2 ≠ b16 := gb16 ▸ Nat.ne_of_lt f15_10.lt
  have ne16_b4 : b4 ≠ b16 := gb16 ▸ Nat.ne_of_lt f15_18.lt
  have ne16_b6 : b6 ≠ b16 := gb16 ▸ Nat.ne_of_lt f15_26.lt
  have ne16_b8 : b8 ≠ b16 := gb16 ▸ Nat.ne_of_lt f15_35.lt
  have ne16_b10 : b10 ≠ b16 := gb16 ▸ Nat.ne_of_lt f15_46.lt
  have ne16_b12 : b12 ≠ b16 := gb16 ▸ Nat.ne_of_lt f15_58.lt
  have ne16_b14 : b14 ≠ b16 := gb16 ▸ Nat.ne_of_lt f15_71.lt
  have fr16 : h0.size ≤ b16 := gb16 ▸ K15.1
  have f16_0 : Exa Z h16 a "com/example/kenshinkit/kenshinkit/schema/OpenElements" := f15_0.ext E16
  have f16_1 : Fld Z h16 a "com/example/kenshinkit/kenshinkit/schema/OpenElements" "keptNamespaces" "[Ljava/lang/String;" u7 := f15_1.ext E16
  have f16_2 : Fld Z h16 a "com/example/kenshinkit/kenshinkit/schema/OpenElements" "keptTypes" "[Lcom/example/kenshinkit/kenshinkit/schema/SchemaType;" u8 := f15_2.ext E16
  have f16_3 : Fld Z h16 a "com/example/kenshinkit/kenshinkit/schema/OpenElements" "depth" "I" (.int (0 : Int32)) := f15_3.ext E16
  have f16_4 : Fld Z h16 a "com/example/kenshinkit/kenshinkit/schema/OpenElements" "boundary" "I" (.int (0 : Int32)) := f15_4.ext E16
  have f16_5 : Fld Z h16 a "com/example/kenshinkit/kenshinkit/schema/OpenElements" "bindings" "I" (.int (0 : Int32)) := f15_5.ext E16
  have f16_10 : Exa Z h16 b2 "[Lcom/example/kenshinkit/kenshinkit/schema/SchemaType;" := f15_10.ext E16
  have f16_11 : AO Z h16 b2 "com/example/kenshinkit/kenshinkit/schema/SchemaType" := f15_11.ext E16
  have f16_12 : Ary Z h16 b2 (.object "com/example/kenshinkit/kenshinkit/schema/SchemaType") 64 (fun _ => .null) := f15_12.ext E16
  have f16_13 : Fld Z h16 a "com/example/kenshinkit/kenshinkit/schema/OpenElements" "types" "[Lcom/example/kenshinkit/kenshinkit/schema/SchemaType;" (.ref b2) := f15_13.ext E16
  have f16_18 : Exa Z h16 b4 "[I" := f15_18.ext E16
  have f16_19 : Ary Z h16 b4 .int 64 (fun _ => .int 0) := f15_19.ext E16
  have f16_20 : Fld Z h16 a "com/example/kenshinkit/kenshinkit/schema/OpenElements" "states" "[I" (.ref b4) := f15_20.ext E16
  have f16_26 : Exa Z h16 b6 "[I" := f15_26.ext E16
  have f16_27 : Ary Z h16 b6 .int 64 (fun _ => .int 0) := f15_27.ext E16
  have f16_28 : Fld Z h16 a "com/example/kenshinkit/kenshinkit/schema/OpenElements" "marks" "[I" (.ref b6) := f15_28.ext E16
  have f16_35 : Exa Z h16 b8 "[Ljava/lang/String;" := f15_35.ext E16
  have f16_36 : AO Z h16 b8 "java/lang/String" := f15_36.ext E16
  have f16_37 : Ary Z h16 b8 (.object "java/lang/String") 16 (fun _ => .null) := f15_37.ext E16
  have f16_38 : Fld Z h16 a "com/example/kenshinkit/kenshinkit/schema/OpenElements" "prefixes" "[Ljava/lang/String;" (.ref b8) := f15_38.ext E16
  have f16_46 : Exa Z h16 b10 "[Ljava/lang/String;" := f15_46.ext E16
  have f16_47 : AO Z h16 b10 "java/lang/String" := f15_47.ext E16
  have f16_48 : Ary Z h16 b10 (.object "java/lang/String") 16 (fun _ => .null) := f15_48.ext E16
  have f16_49 : Fld Z h16 a "com/example/kenshinkit/kenshinkit/schema/OpenElements" "uris" "[Ljava/lang/String;" (.ref b10) := f15_49.ext E16
  have f16_58 : Exa Z h16 b12 "[Ljava/lang/String;" := f15_58.ext E16
  have f16_59 : AO Z h16 b12 "java/lang/String" := f15_59.ext E16
  have f16_60 : Ary Z h16 b12 (.object "java/lang/String") 16 (fun _ => .null) := f15_60.ext E16
  have f16_61 : Fld Z h16 a "com/example/kenshinkit/kenshinkit/schema/OpenElements" "keptValues" "[Ljava/lang/String;" (.ref b12) := f15_61.ext E16
  have f16_71 : Exa Z h16 b14 "[Ljava/lang/String;" := f15_71.ext E16
  have f16_72 : AO Z h16 b14 "java/lang/String" := f15_72.ext E16
  have f16_73 : Ary Z h16 b14 (.object "java/lang/String") 16 (fun _ => .null) := f15_73.ext E16
  have f16_74 : Fld Z h16 a "com/example/kenshinkit/kenshinkit/schema/OpenElements" "keptPrefixes" "[Ljava/lang/String;" (.ref b14) := Fw15.ext E16
  have sz16 : n0 ≤ h16.size := Nat.le_trans sz15 E16.1
  have K16 : Keep h0 h16 [a] := K15.ext E16
  have B16' : Ary Z h16 b16 (.object "java/lang/String") 16 (fun _ => .null) := B16
  show Go p e below _ T16 (mkF m 71 #[.val (.ref a)] [(.ref b16), (.ref a)])
  refine goPut X16 hx hZ hown (host := "") (Or.inl (hw _ (List.mem_of_getElem? (i := 28) rfl))) Via.refl f16_1 f16_0 (Or.inr ⟨(hw _ (List.mem_of_getElem? (i := 29) rfl)), rfl, hnm⟩) (hw _ (List.mem_of_getElem? (i := 1) rfl)) (ty := (.array (.object "java/lang/String"))) (by decide) rfl rfl g13 (hb hby d1_71) fun T17 h17 X17 W17 => ?_
  have Fw17 := f16_1.same W17
  have f17_0 : Exa Z h17 a "com/example/kenshinkit/kenshinkit/schema/OpenElements" := f16_0.wr W17
  have f17_1 : Fld Z h17 a "com/example/kenshinkit/kenshinkit/schema/OpenElements" "keptTypes" "[Lcom/example/kenshinkit/kenshinkit/schema/SchemaType;" u8 := f16_2.other W17 (Or.inr (slot_ne (Or.inr (hw _ (List.mem_of_getElem? (i := 31) rfl))) (Or.inr (hw _ (List.mem_of_getElem? (i := 29) rfl))) (by decide) (t := (.array (.object "com/example/kenshinkit/kenshinkit/schema/SchemaType"))) (t' := (.array (.object "java/lang/String"))) (by decide) (by decide)))
  have f17_2 : Fld Z h17 a "com/example/kenshinkit/kenshinkit/schema/OpenElements" "depth" "I" (.int (0 : Int32)) := f16_3.other W17 (Or.inr (slot_ne (Or.inl (hw _ (List.mem_of_getElem? (i := 54) rfl))) (Or.inr (hw _ (List.mem_of_getElem? (i := 29) rfl))) (by decide) (t := .int) (t' := (.array (.object "java/lang/String"))) (by decide) (by decide)))
  have f17_3 : Fld Z h17 a "com/example/kenshinkit/kenshinkit/schema/OpenElements" "boundary" "I" (.int (0 : Int32)) := f16_4.other W17 (Or.inr (slot_ne (Or.inl (hw _ (List.mem_of_getElem? (i := 57) rfl))) (Or.inr (hw _ (List.mem_of_getElem? (i := 29) rfl))) (by decide) (t := .int) (t' := (.array (.object "java/lang/String"))) (by decide) (by decide)))
  have f17_4 : Fld Z h17 a "com/example/kenshinkit/kenshinkit/schema/OpenElements" "bindings" "I" (.int (0 : Int32)) := f16_5.other W17 (Or.inr (slot_ne (Or.inl (hw _ (List.mem_of_getElem? (i := 59) rfl))) (Or.inr (hw _ (List.mem_of_getElem? (i := 29) rfl))) (by decide) (t := .int) (t' := (.array (.object "java/lang/String"))) (by decide) (by decide)))
  have f17_9 : Exa Z h17 b2 "[Lcom/example/kenshinkit/kenshinkit/schema/SchemaType;" := f16_10.wr W17
  have f17_10 : AO Z h17 b2 "com/example/kenshinkit/kenshinkit/schema/SchemaType" := f16_11.wr W17
  have f17_11 : Ary Z h17 b2 (.object "com/example/kenshinkit/kenshinkit/schema/SchemaType") 64 (fun _ => .null) := f16_12.other W17 ne2_a.symm
  have f17_12 : Fld Z h17 a "com/example/kenshinkit/kenshinkit/schema/OpenElements" "types" "[Lcom/example/kenshinkit/kenshinkit/schema/SchemaType;" (.ref b2) := f16_13.other W17 (Or.inr (slot_ne (Or.inl (hw _ (List.mem_of_getElem? (i := 12) rfl))) (Or.inr (hw _ (List.mem_of_getElem? (i := 29) rfl))) (by decide) (t := (.array (.object "com/example/kenshinkit/kenshinkit/schema/SchemaType"))) (t' := (.array (.object "java/lang/String"))) (by decide) (by decide)))
  have f17_17 : Exa Z h17 b4 "[I" := f16_18.wr W17
  have f17_18 : Ary Z h17 b4 .int 64 (fun _ => .int 0) := f16_19.other W17 ne4_a.symm
  have f17_19 : Fld Z h17 a "com/example/kenshinkit/kenshinkit/schema/OpenElements" "states" "[I" (.ref b4) := f16_20.other W17 (Or.inr (slot_ne (Or.inl (hw _ (List.mem_of_getElem? (i := 15) rfl))) (Or.inr (hw _ (List.mem_of_getElem? (i := 29) rfl))) (by decide) (t := (.array .int)) (t' := (.array (.object "java/lang/String"))) (by decide) (by decide)))
  have f17_25 : Exa Z h17 b6 "[I" := f16_26.wr W17
  have f17_26 : Ary Z h17 b6 .int 64 (fun _ => .int 0) := f16_27.other W17 ne6_a.symm
  have f17_27 : Fld Z h17 a "com/example/kenshinkit/kenshinkit/schema/OpenElements" "marks" "[I" (.ref b6) := f16_28.other W17 (Or.inr (slot_ne (Or.inl (hw _ (List.mem_of_getElem? (i := 17) rfl))) (Or.inr (hw _ (List.mem_of_getElem? (i := 29) rfl))) (by decide) (t := (.array .int)) (t' := (.array (.object "java/lang/String"))) (by decide) (by decide)))
  have f17_34 : Exa Z h17 b8 "[Ljava/lang/String;" := f16_35.wr W17
  have f17_35 : AO Z h17 b8 "java/lang/String" := f16_36.wr W17
  have f17_36 : Ary Z h17 b8 (.object "java/lang/String") 16 (fun _ => .null) := f16_37.other W17 ne8_a.symm
  have f17_37 : Fld Z h17 a "com/example/kenshinkit/kenshinkit/schema/OpenElements" "prefixes" "[Ljava/lang/String;" (.ref b8) := f16_38.other W17 (Or.inr (slot_ne (Or.inl (hw _ (List.mem_of_getElem? (i := 21) rfl))) (Or.inr (hw _ (List.mem_of_getElem? (i := 29) rfl))) (by decide) (t := (.array (.object "java/lang/String"))) (t' := (.array (.object "java/lang/String"))) (by decide) (by decide)))
  have f17_45 : Exa Z h17 b10 "[Ljava/lang/String;" := f16_46.wr W17
  have f17_46 : AO Z h17 b10 "java/lang/String" := f16_47.wr W17
  have f17_47 : Ary Z h17 b10 (.object "java/lang/String") 16 (fun _ => .null) := f16_48.other W17 ne10_a.symm
  have f17_48 : Fld Z h17 a "com/example/kenshinkit/kenshinkit/schema/OpenElements" "uris" "[Ljava/lang/String;" (.ref b10) := f16_49.other W17 (Or.inr (slot_ne (Or.inl (hw _ (List.mem_of_getElem? (i := 23) rfl))) (Or.inr (hw _ (List.mem_of_getElem? (i := 29) rfl))) (by decide) (t := (.array (.object "java/lang/String"))) (t' := (.array (.object "java/lang/String"))) (by decide) (by decide)))
  have f17_57 : Exa Z h17 b12 "[Ljava/lang/String;" := f16_58.wr W17
  have f17_58 : AO Z h17 b12 "java/lang/String" := f16_59.wr W17
  have f17_59 : Ary Z h17 b12 (.object "java/lang/String") 16 (fun _ => .null) := f16_60.other W17 ne12_a.symm
  have f17_60 : Fld Z h17 a "com/example/kenshinkit/kenshinkit/schema/OpenElements" "keptValues" "[Ljava/lang/String;" (.ref b12) := f16_61.other W17 (Or.inr (slot_ne (Or.inr (hw _ (List.mem_of_getElem? (i := 25) rfl))) (Or.inr (hw _ (List.mem_of_getElem? (i := 29) rfl))) (by decide) (t := (.array (.object "java/lang/String"))) (t' := (.array (.object "java/lang/String"))) (by decide) (by decide)))
  have f17_70 : Exa Z h17 b14 "[Ljava/lang/String;" := f16_71.wr W17
  have f17_71 : AO Z h17 b14 "java/lang/String" := f16_72.wr W17
  have f17_72 : Ary Z h17 b14 (.object "java/lang/String") 16 (fun _ => .null) := f16_73.other W17 ne14_a.symm
  have f17_73 : Fld Z h17 a "com/example/kenshinkit/kenshinkit/schema/OpenElements" "keptPrefixes" "[Ljava/lang/String;" (.ref b14) := f16_74.other W17 (Or.inr (slot_ne (Or.inr (hw _ (List.mem_of_getElem? (i := 27) rfl))) (Or.inr (hw _ (List.mem_of_getElem? (i := 29) rfl))) (by decide) (t := (.array (.object "java/lang/String"))) (t' := (.array (.object "java/lang/String"))) (by decide) (by decide)))
  have f17_84 : Exa Z h17 b16 "[Ljava/lang/String;" := A16.wr W17
  have f17_85 : AO Z h17 b16 "java/lang/String" := O16.wr W17
  have f17_86 : Ary Z h17 b16 (.object "java/lang/String") 16 (fun _ => .null) := B16'.other W17 ne16_a.symm
  have sz17 : n0 ≤ h17.size := Nat.le_trans sz16 (Keep.of_wr W17).1
  have K17 : Keep h0 h17 [a] := K16.wr W17 (Or.inl (List.mem_of_getElem? (i := 0) rfl))
  show Go p e below _ T17 (mkF m 74 #[.val (.ref a)] [])
  refine Go.st (T' := T17) (g' := (mkF m 75 #[.val (.ref a)] [(.ref a)])) (fun t_ k_ => XS.aloadN X17.here hx rfl (hb hby d1_74) rfl rfl k_) ?_
  refine Go.st (T' := T17) (g' := (mkF m 77 #[.val (.ref a)] [(.int (16 : Int32)), (.ref a)])) (fun t_ k_ => XS.bipush X17.here hx rfl (hb hby d1_75) k_) ?_
  refine goNewR X17 hx hZ hown (hw _ (List.mem_of_getElem? (i := 9) rfl)) (hw _ (List.mem_of_getElem? (i := 10) rfl)) (hb hby d1_77) (by decide) (cap := 16) (by decide) (by decide) (by decide) (by decide) (ad := "[Lcom/example/kenshinkit/kenshinkit/schema/SchemaType;") (by decide) fun T18 h18 b18 gb18 X18 E18 A18 B18 O18 => ?_
  have ge18 : n0 ≤ b18 := gb18 ▸ sz17
  have ne18_a : a ≠ b18 := gb18 ▸ Nat.ne_of_lt f17_0.lt
  have ne18_b2 : b2 ≠ b18 := gb18 ▸ Nat.ne_of_lt f17_9.lt
  have ne18_b4 : b4 ≠ b18 := gb18 ▸ Nat.ne_of_lt f17_17.lt
  have ne18_b6 : b6 ≠ b18 := gb18 ▸ Nat.ne_of_lt f17_25.lt
  have ne18_b8 : b8 ≠ b18 := gb18 ▸ Nat.ne_of_lt f17_34.lt
  have ne18_b10 : b10 ≠ b18 := gb18 ▸ Nat.ne_of_lt f17_45.lt
  have ne18_b12 : b12 ≠ b18 := gb18 ▸ Nat.ne_of_lt f17_57.lt
  have ne18_b14 : b14 ≠ b18 := gb18 ▸ Nat.ne_of_lt f17_70.lt
  have ne18_b16 : b16 ≠ b18 := gb18 ▸ Nat.ne_of_lt f17_84.lt
  have fr18 : h0.size ≤ b18 := gb18 ▸ K17.1
  have f18_0 : Exa Z h18 a "com/example/kenshinkit/kenshinkit/schema/OpenElements" := f17_0.ext E18
  have f18_1 : Fld Z h18 a "com/example/kenshinkit/kenshinkit/schema/OpenElements" "keptTypes" "[Lcom/example/kenshinkit/kenshinkit/schema/SchemaType;" u8 := f17_1.ext E18
  have f18_2 : Fld Z h18 a "com/example/kenshinkit/kenshinkit/schema/OpenElements" "depth" "I" (.int (0 : Int32)) := f17_2.ext E18
  have f18_3 : Fld Z h18 a "com/example/kenshinkit/kenshinkit/schema/OpenElements" "boundary" "I" (.int (0 : Int32)) := f17_3.ext E18
  have f18_4 : Fld Z h18 a "com/example/kenshinkit/kenshinkit/schema/OpenElements" "bindings" "I" (.int (0 : Int32)) := f17_4.ext E18
  have f18_9 : Exa Z h18 b2 "[Lcom/example/kenshinkit/kenshinkit/schema/SchemaType;" := f17_9.ext E18
  have f18_10 : AO Z h18 b2 "com/example/kenshinkit/kenshinkit/schema/SchemaType" := f17_10.ext E18
  have f18_11 : Ary Z h18 b2 (.object "com/example/kenshinkit/kenshinkit/schema/SchemaType") 64 (fun _ => .null) := f17_11.ext E18
  have f18_12 : Fld Z h18 a "com/example/kenshinkit/kenshinkit/schema/OpenElements" "types" "[Lcom/example/kenshinkit/kenshinkit/schema/SchemaType;" (.ref b2) := f17_12.ext E18
  have f18_17 : Exa Z h18 b4 "[I" := f17_17.ext E18
  have f18_18 : Ary Z h18 b4 .int 64 (fun _ => .int 0) := f17_18.ext E18
  have f18_19 : Fld Z h18 a "com/example/kenshinkit/kenshinkit/schema/OpenElements" "states" "[I" (.ref b4) := f17_19.ext E18
  have f18_25 : Exa Z h18 b6 "[I" := f17_25.ext E18
  have f18_26 : Ary Z h18 b6 .int 64 (fun _ => .int 0) := f17_26.ext E18
  have f18_27 : Fld Z h18 a "com/example/kenshinkit/kenshinkit/schema/OpenElements" "marks" "[I" (.ref b6) := f17_27.ext E18
  have f18_34 : Exa Z h18 b8 "[Ljava/lang/String;" := f17_34.ext E18
  have f18_35 : AO Z h18 b8 "java/lang/String" := f17_35.ext E18
  have f18_36 : Ary Z h18 b8 (.object "java/lang/String") 16 (fun _ => .null) := f17_36.ext E18
  have f18_37 : Fld Z h18 a "com/example/kenshinkit/kenshinkit/schema/OpenElements" "prefixes" "[Ljava/lang/String;" (.ref b8) := f17_37.ext E18
  have f18_45 : Exa Z h18 b10 "[Ljava/lang/String;" := f17_45.ext E18
  have f18_46 : AO Z h18 b10 "java/lang/String" := f17_46.ext E18
  have f18_47 : Ary Z h18 b10 (.object "java/lang/String") 16 (fun _ => .null) := f17_47.ext E18
  have f18_48 : Fld Z h18 a "com/example/kenshinkit/kenshinkit/schema/OpenElements" "uris" "[Ljava/lang/String;" (.ref b10) := f17_48.ext E18
  have f18_57 : Exa Z h18 b12 "[Ljava/lang/String;" := f17_57.ext E18
  have f18_58 : AO Z h18 b12 "java/lang/String" := f17_58.ext E18
  have f18_59 : Ary Z h18 b12 (.object "java/lang/String") 16 (fun _ => .null) := f17_59.ext E18
  have f18_60 : Fld Z h18 a "com/example/kenshinkit/kenshinkit/schema/OpenElements" "keptValues" "[Ljava/lang/String;" (.ref b12) := f17_60.ext E18
  have f18_70 : Exa Z h18 b14 "[Ljava/lang/String;" := f17_70.ext E18
  have f18_71 : AO Z h18 b14 "java/lang/String" := f17_71.ext E18
  have f18_72 : Ary Z h18 b14 (.object "java/lang/String") 16 (fun _ => .null) := f17_72.ext E18
  have f18_73 : Fld Z h18 a "com/example/kenshinkit/kenshinkit/schema/OpenElements" "keptPrefixes" "[Ljava/lang/String;" (.ref b14) := f17_73.ext E18
  have f18_84 : Exa Z h18 b16 "[Ljava/lang/String;" := f17_84.ext E18
  have f18_85 : AO Z h18 b16 "java/lang/String" := f17_85.ext E18
  have f18_86 : Ary Z h18 b16 (.object "java/lang/String") 16 (fun _ => .null) := f17_86.ext E18
  have f18_87 : Fld Z h18 a "com/example/kenshinkit/kenshinkit/schema/OpenElements" "keptNamespaces" "[Ljava/lang/String;" (.ref b16) := Fw17.ext E18
  have sz18 : n0 ≤ h18.size := Nat.le_trans sz17 E18.1
  have K18 : Keep h0 h18 [a] := K17.ext E18
  have B18' : Ary Z h18 b18 (.object "com/example/kenshinkit/kenshinkit/schema/SchemaType") 16 (fun _ => .null) := B18
  show Go p e below _ T18 (mkF m 80 #[.val (.ref a)] [(.ref b18), (.ref a)])
  refine goPut X18 hx hZ hown (host := "") (Or.inl (hw _ (List.mem_of_getElem? (i := 30) rfl))) Via.refl f18_1 f18_0 (Or.inr ⟨(hw _ (List.mem_of_getElem? (i := 31) rfl)), rfl, hnm⟩) (hw _ (List.mem_of_getElem? (i := 1) rfl)) (ty := (.array (.object "com/example/kenshinkit/kenshinkit/schema/SchemaType"))) (by decide) rfl rfl g13 (hb hby d1_80) fun T19 h19 X19 W19 => ?_
  have Fw19 := f18_1.same W19
  have f19_0 : Exa Z h19 a "com/example/kenshinkit/kenshinkit/schema/OpenElements" := f18_0.wr W19
  have f19_1 : Fld Z h19 a "com/example/kenshinkit/kenshinkit/schema/OpenElements" "depth" "I" (.int (0 : Int32)) := f18_2.other W19 (Or.inr (slot_ne (Or.inl (hw _ (List.mem_of_getElem? (i := 54) rfl))) (Or.inr (hw _ (List.mem_of_getElem? (i := 31) rfl))) (by decide) (t := .int) (t' := (.array (.object "com/example/kenshinkit/kenshinkit/schema/SchemaType"))) (by decide) (by decide)))
  have f19_2 : Fld Z h19 a "com/example/kenshinkit/kenshinkit/schema/OpenElements" "boundary" "I" (.int (0 : Int32)) := f18_3.other W19 (Or.inr (slot_ne (Or.inl (hw _ (List.mem_of_getElem? (i := 57) rfl))) (Or.inr (hw _ (List.mem_of_getElem? (i := 31) rfl))) (by decide) (t := .int) (t' := (.array (.object "com/example/kenshinkit/kenshinkit/schema/SchemaType"))) (by decide) (by decide)))
  have f19_3 : Fld Z h19 a "com/example/kenshinkit/kenshinkit/schema/OpenElements" "bindings" "I" (.int (0 : Int32)) := f18_4.other W19 (Or.inr (slot_ne (Or.inl (hw _ (List.mem_of_getElem? (i := 59) rfl))) (Or.inr (hw _ (List.mem_of_getElem? (i := 31) rfl))) (by decide) (t := .int) (t' := (.array (.object "com/example/kenshinkit/kenshinkit/schema/SchemaType"))) (by decide) (by decide)))
  have f19_8 : Exa Z h19 b2 "[Lcom/example/kenshinkit/kenshinkit/schema/SchemaType;" := f18_9.wr W19
  have f19_9 : AO Z h19 b2 "com/example/kenshinkit/kenshinkit/schema/SchemaType" := f18_10.wr W19
  have f19_10 : Ary Z h19 b2 (.object "com/example/kenshinkit/kenshinkit/schema/SchemaType") 64 (fun _ => .null) := f18_11.other W19 ne2_a.symm
  have f19_11 : Fld Z h19 a "com/example/kenshinkit/kenshinkit/schema/OpenElements" "types" "[Lcom/example/kenshinkit/kenshinkit/schema/SchemaType;" (.ref b2) := f18_12.other W19 (Or.inr (slot_ne (Or.inl (hw _ (List.mem_of_getElem? (i := 12) rfl))) (Or.inr (hw _ (List.mem_of_getElem? (i := 31) rfl))) (by decide) (t := (.array (.object "com/example/kenshinkit/kenshinkit/schema/SchemaType"))) (t' := (.array (.object "com/example/kenshinkit/kenshinkit/schema/SchemaType"))) (by decide) (by decide)))
  have f19_16 : Exa Z h19 b4 "[I" := f18_17.wr W19
  have f19_17 : Ary Z h19 b4 .int 64 (fun _ => .int 0) := f18_18.other W19 ne4_a.symm
  have f19_18 : Fld Z h19 a "com/example/kenshinkit/kenshinkit/schema/OpenElements" "states" "[I" (.ref b4) := f18_19.other W19 (Or.inr (slot_ne (Or.inl (hw _ (List.mem_of_getElem? (i := 15) rfl))) (Or.inr (hw _ (List.mem_of_getElem? (i := 31) rfl))) (by decide) (t := (.array .int)) (t' := (.array (.object "com/example/kenshinkit/kenshinkit/schema/SchemaType"))) (by decide) (by decide)))
  have f19_24 : Exa Z h19 b6 "[I" := f18_25.wr W19
  have f19_25 : Ary Z h19 b6 .int 64 (fun _ => .int 0) := f18_26.other W19 ne6_a.symm
  have f19_26 : Fld Z h19 a "com/example/kenshinkit/kenshinkit/schema/OpenElements" "marks" "[I" (.ref b6) := f18_27.other W19 (Or.inr (slot_ne (Or.inl (hw _ (List.mem_of_getElem? (i := 17) rfl))) (Or.inr (hw _ (List.mem_of_getElem? (i := 31) rfl))) (by decide) (t := (.array .int)) (t' := (.array (.object "com/example/kenshinkit/kenshinkit/schema/SchemaType"))) (by decide) (by decide)))
  have f19_33 : Exa Z h19 b8 "[Ljava/lang/String;" := f18_34.wr W19
  have f19_34 : AO Z h19 b8 "java/lang/String" := f18_35.wr W19
  have f19_35 : Ary Z h19 b8 (.object "java/lang/String") 16 (fun _ => .null) := f18_36.other W19 ne8_a.symm
  have f19_36 : Fld Z h19 a "com/example/kenshinkit/kenshinkit/schema/OpenElements" "prefixes" "[Ljava/lang/String;" (.ref b8) := f18_37.other W19 (Or.inr (slot_ne (Or.inl (hw _ (List.mem_of_getElem? (i := 21) rfl))) (Or.inr (hw _ (List.mem_of_getElem? (i := 31) rfl))) (by decide) (t := (.array (.object "java/lang/String"))) (t' := (.array (.object "com/example/kenshinkit/kenshinkit/schema/SchemaType"))) (by decide) (by decide)))
  have f19_44 : Exa Z h19 b10 "[Ljava/lang/String;" := f18_45.wr W19
  have f19_45 : AO Z h19 b10 "java/lang/String" := f18_46.wr W19
  have f19_46 : Ary Z h19 b10 (.object "java/lang/String") 16 (fun _ => .null) := f18_47.other W19 ne10_a.symm
  have f19_47 : Fld Z h19 a "com/example/kenshinkit/kenshinkit/schema/OpenElements" "uris" "[Ljava/lang/String;" (.ref b10) := f18_48.other W19 (Or.inr (slot_ne (Or.inl (hw _ (List.mem_of_getElem? (i := 23) rfl))) (Or.inr (hw _ (List.mem_of_getElem? (i := 31) rfl))) (by decide) (t := (.array (.object "java/lang/String"))) (t' := (.array (.object "com/example/kenshinkit/kenshinkit/schema/SchemaType"))) (by decide) (by decide)))
  have f19_56 : Exa Z h19 b12 "[Ljava/lang/String;" := f18_57.wr W19
  have f19_57 : AO Z h19 b12 "java/lang/String" := f18_58.wr W19
  have f19_58 : Ary Z h19 b12 (.object "java/lang/String") 16 (fun _ => .null) := f18_59.other W19 ne12_a.symm
  have f19_59 : Fld Z h19 a "com/example/kenshinkit/kenshinkit/schema/OpenElements" "keptValues" "[Ljava/lang/String;" (.ref b12) := f18_60.other W19 (Or.inr (slot_ne (Or.inr (hw _ (List.mem_of_getElem? (i := 25) rfl))) (Or.inr (hw _ (List.mem_of_getElem? (i := 31) rfl))) (by decide) (t := (.array (.object "java/lang/String"))) (t' := (.array (.object "com/example/kenshinkit/kenshinkit/schema/SchemaType"))) (by decide) (by decide)))
  have f19_69 : Exa Z h19 b14 "[Ljava/lang/String;" := f18_70.wr W19
  have f19_70 : AO Z h19 b14 "java/lang/String" := f18_71.wr W19
  have f19_71 : Ary Z h19 b14 (.object "java/lang/String") 16 (fun _ => .null) := f18_72.other W19 ne14_a.symm
  have f19_72 : Fld Z h19 a "com/example/kenshinkit/kenshinkit/schema/OpenElements" "keptPrefixes" "[Ljava/lang/String;" (.ref b14) := f18_73.other W19 (Or.inr (slot_ne (Or.inr (hw _ (List.mem_of_getElem? (i := 27) rfl))) (Or.inr (hw _ (List.mem_of_getElem? (i := 31) rfl))) (by decide) (t := (.array (.object "java/lang/String"))) (t' := (.array (.object "com/example/kenshinkit/kenshinkit/schema/SchemaType"))) (by decide) (by decide)))
  have f19_83 : Exa Z h19 b16 "[Ljava/lang/String;" := f18_84.wr W19
  have f19_84 : AO Z h19 b16 "java/lang/String" := f18_85.wr W19
  have f19_85 : Ary Z h19 b16 (.object "java/lang/String") 16 (fun _ => .null) := f18_86.other W19 ne16_a.symm
  have f19_86 : Fld Z h19 a "com/example/kenshinkit/kenshinkit/schema/OpenElements" "keptNamespaces" "[Ljava/lang/String;" (.ref b16) := f18_87.other W19 (Or.inr (slot_ne (Or.inr (hw _ (List.mem_of_getElem? (i := 29) rfl))) (Or.inr (hw _ (List.mem_of_getElem? (i := 31) rfl))) (by decide) (t := (.array (.object "java/lang/String"))) (t' := (.array (.object "com/example/kenshinkit/kenshinkit/schema/SchemaType"))) (by decide) (by decide)))
  have f19_98 : Exa Z h19 b18 "[Lcom/example/kenshinkit/kenshinkit/schema/SchemaType;" := A18.wr W19
  have f19_99 : AO Z h19 b18 "com/example/kenshinkit/kenshinkit/schema/SchemaType" := O18.wr W19
  have f19_100 : Ary Z h19 b18 (.object "com/example/kenshinkit/kenshinkit/schema/SchemaType") 16 (fun _ => .null) := B18'.other W19 ne18_a.symm
  have sz19 : n0 ≤ h19.size := Nat.le_trans sz18 (Keep.of_wr W19).1
  have K19 : Keep h0 h19 [a] := K18.wr W19 (Or.inl (List.mem_of_getElem? (i := 0) rfl))
  show Go p e below _ T19 (mkF m 83 #[.val (.ref a)] [])
  refine goRetV X19 hx hlk hret (hb hby d1_83) (by decide) (by decide) ?_
  refine ⟨b2, b4, b6, rfl, K19, f19_0, f19_11, f19_18, f19_26, f19_1, f19_2, f19_3, f19_8, f19_16, f19_24, f19_9, f19_10, f19_17, f19_25, ne6_b4, ge2, ge4, ge6⟩
theorem d3_0 : decode prog_112_method_1_code 0 = .ok (.aload_n 0, 1) := by decide +kernel
theorem d3_1 : decode prog_112_method_1_code 1 = .ok (.invokespecial 1, 3) := by decide +kernel
theorem d3_4 : decode prog_112_method_1_code 4 = .ok (.aload_n 0, 1) := by decide +kernel
theorem d3_5 : decode prog_112_method_1_code 5 = .ok (.getstatic 7, 3) := by decide +kernel
theorem d3_8 : decode prog_112_method_1_code 8 = .ok (.putfield 13, 3) := by decide +kernel
theorem d3_11 : decode prog_112_method_1_code 11 = .ok (.aload_n 0, 1) := by decide +kernel
theorem d3_12 : decode prog_112_method_1_code 12 = .ok (.iconst 0, 1) := by decide +kernel
theorem d3_13 : decode prog_112_method_1_code 13 = .ok (.anewarray 18, 3) := by decide +kernel
theorem d3_16 : decode prog_112_method_1_code 16 = .ok (.putfield 20, 3) := by decide +kernel
theorem d3_19 : decode prog_112_method_1_code 19 = .ok (.return_, 1) := by decide +kernel
theorem pn_3 : plainFor (⟨"com/example/kenshinkit/kenshinkit/schema/ComplexType", "<init>", "()V"⟩ : MethodName) = true := plainFor_of_name (by first | (simp [plainName, overriddenIn]; done) | decide +kernel)
theorem ef_rm3 (m : MethodId) (x0 : Addr) : entryFrame m #[(.ref x0)] 1 = mkF m 0 #[.val (.ref x0)] [] := by first | (simp [entryFrame, mkF, argsToLocals, Value.category]; done) | rfl
def Q3 (Z : State) (n0 : Nat) (h0 : Heap) (a : Addr) (u1 : Value) (u2 : Value) (we : Addr) (v : Option Value) (h : Heap) : Prop := v = none ∧ Keep h0 h [a] ∧ Exa Z h a "com/example/kenshinkit/kenshinkit/schema/ComplexType"
set_option maxRecDepth 65536 in
set_option maxHeartbeats 40000000 in
theorem rm3 (l : Launch) (Z : State) (a0 : Array Value) (hw : ∀ d ∈ tables_1, d.before a0 Z = true) (ws : List Jvm.Cond) (n0 : Nat) (h0 : Heap) (a : Addr) (u1 : Value) (u2 : Value) (we : Addr) (sz0 : n0 ≤ h0.size) (g0 : Exa Z h0 a "com/example/kenshinkit/kenshinkit/schema/ComplexType") (g1 : Fld Z h0 a "com/example/kenshinkit/kenshinkit/schema/ComplexType" "content" "Lcom/example/kenshinkit/kenshinkit/schema/ComplexType$Content;" u1) (g2 : Fld Z h0 a "com/example/kenshinkit/kenshinkit/schema/ComplexType" "uses" "[Lcom/example/kenshinkit/kenshinkit/schema/AttributeUse;" u2) (g3 : n0 ≤ a) (g4 : Sta Z h0 "com/example/kenshinkit/kenshinkit/schema/ComplexType$Content" "EMPTY" "Lcom/example/kenshinkit/kenshinkit/schema/ComplexType$Content;" (.ref we)) :
    Con l (⟨"com/example/kenshinkit/kenshinkit/schema/ComplexType", "<init>", "()V"⟩ : MethodName) prog_112_method_1_code 1 none ({ frames := 1, cells := 1, slots := 0, locals := 14 } : Room) ws Z n0 #[(.ref a)] h0 (Q3 Z n0 h0 a u1 u2 we) := by
  refine Con.body pn_3 ?_
  intro p e s m below meth c s₁ hx hby hml hown hnm hret hlk hZ X0
  have hown : s.vm.findClass "com/example/kenshinkit/kenshinkit/schema/ComplexType" = some m.cls := hown
  have hnm : meth.name = "<init>" := hnm
  have K0 : Keep h0 h0 [a] := Keep.refl _ _
  rw [show entryFrame m #[(.ref a)] 1 = mkF m 0 #[.val (.ref a)] [] from ef_rm3 m a]
  show Go p e below (PostW s n0 (1 : Nat) (0 : Nat) (Q3 Z n0 h0 a u1 u2 we)) s₁ (mkF m 0 #[.val (.ref a)] [])
  refine Go.st (T' := s₁) (g' := (mkF m 1 #[.val (.ref a)] [(.ref a)])) (fun t_ k_ => XS.aloadN X0.here hx rfl (hb hby d3_0) rfl rfl k_) ?_
  refine goInit X0 hx hZ hown (hw _ (List.mem_of_getElem? (i := 38) rfl)) (hw _ (List.mem_of_getElem? (i := 7) rfl)) (hw _ (List.mem_of_getElem? (i := 8) rfl)) (by rw [hml]; rfl) (hb hby d3_1) (by decide) (W := 0) (Nat.le_of_eq rfl) (by decide) fun T1 X1 => ?_
  show Go p e below _ T1 (mkF m 4 #[.val (.ref a)] [])
  refine Go.st (T' := T1) (g' := (mkF m 5 #[.val (.ref a)] [(.ref a)])) (fun t_ k_ => XS.aloadN X1.here hx rfl (hb hby d3_4) rfl rfl k_) ?_
  refine goGetS X1 hx hZ hown (host := "") (Or.inl (hw _ (List.mem_of_getElem? (i := 39) rfl))) Via.refl g4 (hb hby d3_5) fun T2 X2 => ?_
  show Go p e below _ T2 (mkF m 8 #[.val (.ref a)] [(.ref we), (.ref a)])
  refine goPut X2 hx hZ hown (host := "") (Or.inl (hw _ (List.mem_of_getElem? (i := 42) rfl))) Via.refl g1 g0 (Or.inl (hw _ (List.mem_of_getElem? (i := 43) rfl))) (hw _ (List.mem_of_getElem? (i := 33) rfl)) (ty := (.object "com/example/kenshinkit/kenshinkit/schema/ComplexType$Content")) (by decide) rfl rfl g3 (hb hby d3_8) fun T3 h3 X3 W3 => ?_
  have Fw3 := g1.same W3
  have f3_0 : Exa Z h3 a "com/example/kenshinkit/kenshinkit/schema/ComplexType" := g0.wr W3
  have f3_1 : Fld Z h3 a "com/example/kenshinkit/kenshinkit/schema/ComplexType" "uses" "[Lcom/example/kenshinkit/kenshinkit/schema/AttributeUse;" u2 := g2.other W3 (Or.inr (slot_ne (Or.inl (hw _ (List.mem_of_getElem? (i := 47) rfl))) (Or.inl (hw _ (List.mem_of_getElem? (i := 43) rfl))) (by decide) (t := (.array (.object "com/example/kenshinkit/kenshinkit/schema/AttributeUse"))) (t' := (.object "com/example/kenshinkit/kenshinkit/schema/ComplexType$Content")) (by decide) (by decide)))
  have f3_3 : Sta Z h3 "com/example/kenshinkit/kenshinkit/schema/ComplexType$Content" "EMPTY" "Lcom/example/kenshinkit/kenshinkit/schema/ComplexType$Content;" (.ref we) := g4.wr W3
  have sz3 : n0 ≤ h3.size := Nat.le_trans sz0 (Keep.of_wr W3).1
  have K3 : Keep h0 h3 [a] := K0.wr W3 (Or.inl (List.mem_of_getElem? (i := 0) rfl))
  show Go p e below _ T3 (mkF m 11 #[.val (.ref a)] [])
  refine Go.st (T' := T3) (g' := (mkF m 12 #[.val (.ref a)] [(.ref a)])) (fun t_ k_ => XS.aloadN X3.here hx rfl (hb hby d3_11) rfl rfl k_) ?_
  refine Go.st (T' := T3) (g' := (mkF m 13 #[.val (.ref a)] [(.int (0 : Int32)), (.ref a)])) (fun t_ k_ => XS.iconst X3.here hx rfl (hb hby d3_12) k_) ?_
  refine goNewR X3 hx hZ hown (hw _ (List.mem_of_getElem? (i := 44) rfl)) (hw _ (List.mem_of_getElem? (i := 45) rfl)) (hb hby d3_13) (by decide) (cap := 0) (by decide) (by decide) (by decide) (by decide) (ad := "[Lcom/example/kenshinkit/kenshinkit/schema/AttributeUse;") (by decide) fun T4 h4 b4 gb4 X4 E4 A4 B4 O4 => ?_
  have ge4 : n0 ≤ b4 := gb4 ▸ sz3
  have ne4_a : a ≠ b4 := gb4 ▸ Nat.ne_of_lt f3_0.lt
  have fr4 : h0.size ≤ b4 := gb4 ▸ K3.1
  have f4_0 : Exa Z h4 a "com/example/kenshinkit/kenshinkit/schema/ComplexType" := f3_0.ext E4
  have f4_1 : Fld Z h4 a "com/example/kenshinkit/kenshinkit/schema/ComplexType" "uses" "[Lcom/example/kenshinkit/kenshinkit/schema/AttributeUse;" u2 := f3_1.ext E4
  have f4_3 : Sta Z h4 "com/example/kenshinkit/kenshinkit/schema/ComplexType$Content" "EMPTY" "Lcom/example/kenshinkit/kenshinkit/schema/ComplexType$Content;" (.ref we) := f3_3.ext E4
  have f4_4 : Fld Z h4 a "com/example/kenshinkit/kenshinkit/schema/ComplexType" "content" "Lcom/example/kenshinkit/kenshinkit/schema/ComplexType$Content;" (.ref we) := Fw3.ext E4
  have sz4 : n0 ≤ h4.size := Nat.le_trans sz3 E4.1
  have K4 : Keep h0 h4 [a] := K3.ext E4
  have B4' : Ary Z h4 b4 (.object "com/example/kenshinkit/kenshinkit/schema/AttributeUse") 0 (fun _ => .null) := B4
  show Go p e below _ T4 (mkF m 16 #[.val (.ref a)] [(.ref b4), (.ref a)])
  refine goPut X4 hx hZ hown (host := "") (Or.inl (hw _ (List.mem_of_getElem? (i := 46) rfl))) Via.refl f4_1 f4_0 (Or.inl (hw _ (List.mem_of_getElem? (i := 47) rfl))) (hw _ (List.mem_of_getElem? (i := 33) rfl)) (ty := (.array (.object "com/example/kenshinkit/kenshinkit/schema/AttributeUse"))) (by decide) rfl rfl g3 (hb hby d3_16) fun T5 h5 X5 W5 => ?_
  have Fw5 := f4_1.same W5
  have f5_0 : Exa Z h5 a "com/example/kenshinkit/kenshinkit/schema/ComplexType" := f4_0.wr W5
  have f5_2 : Sta Z h5 "com/example/kenshinkit/kenshinkit/schema/ComplexType$Content" "EMPTY" "Lcom/example/kenshinkit/kenshinkit/schema/ComplexType$Content;" (.ref we) := f4_3.wr W5
  have f5_3 : Fld Z h5 a "com/example/kenshinkit/kenshinkit/schema/ComplexType" "content" "Lcom/example/kenshinkit/kenshinkit/schema/ComplexType$Content;" (.ref we) := f4_4.other W5 (Or.inr (slot_ne (Or.inl (hw _ (List.mem_of_getElem? (i := 43) rfl))) (Or.inl (hw _ (List.mem_of_getElem? (i := 47) rfl))) (by decide) (t := (.object "com/example/kenshinkit/kenshinkit/schema/ComplexType$Content")) (t' := (.array (.object "com/example/kenshinkit/kenshinkit/schema/AttributeUse"))) (by decide) (by decide)))
  have f5_7 : Exa Z h5 b4 "[Lcom/example/kenshinkit/kenshinkit/schema/AttributeUse;" := A4.wr W5
  have f5_8 : AO Z h5 b4 "com/example/kenshinkit/kenshinkit/schema/AttributeUse" := O4.wr W5
  have f5_9 : Ary Z h5 b4 (.object "com/example/kenshinkit/kenshinkit/schema/AttributeUse") 0 (fun _ => .null) := B4'.other W5 ne4_a.symm
  have sz5 : n0 ≤ h5.size := Nat.le_trans sz4 (Keep.of_wr W5).1
  have K5 : Keep h0 h5 [a] := K4.wr W5 (Or.inl (List.mem_of_getElem? (i := 0) rfl))
  show Go p e below _ T5 (mkF m 19 #[.val (.ref a)] [])
  refine goRetV X5 hx hlk hret (hb hby d3_19) (by decide) (by decide) ?_
  refine ⟨rfl, K5, f5_0⟩
theorem d4_0 : decode prog_133_method_4_code 0 = .ok (.aload_n 0, 1) := by decide +kernel
theorem d4_1 : decode prog_133_method_4_code 1 = .ok (.getfield 43, 3) := by decide +kernel
theorem d4_4 : decode prog_133_method_4_code 4 = .ok (.aload_n 0, 1) := by decide +kernel
theorem d4_5 : decode prog_133_method_4_code 5 = .ok (.getfield 9, 3) := by decide +kernel
theorem d4_8 : decode prog_133_method_4_code 8 = .ok (.arraylength, 1) := by decide +kernel
theorem d4_9 : decode prog_133_method_4_code 9 = .ok (.if_icmp .ne 57, 3) := by decide +kernel
theorem d4_66 : decode prog_133_method_4_code 66 = .ok (.aload_n 0, 1) := by decide +kernel
theorem d4_67 : decode prog_133_method_4_code 67 = .ok (.getfield 9, 3) := by decide +kernel
theorem d4_70 : decode prog_133_method_4_code 70 = .ok (.aload_n 0, 1) := by decide +kernel
theorem d4_71 : decode prog_133_method_4_code 71 = .ok (.getfield 43, 3) := by decide +kernel
theorem d4_74 : decode prog_133_method_4_code 74 = .ok (.aload_n 1, 1) := by decide +kernel
theorem d4_75 : decode prog_133_method_4_code 75 = .ok (.aastore, 1) := by decide +kernel
theorem d4_76 : decode prog_133_method_4_code 76 = .ok (.aload_n 0, 1) := by decide +kernel
theorem d4_77 : decode prog_133_method_4_code 77 = .ok (.getfield 15, 3) := by decide +kernel
theorem d4_80 : decode prog_133_method_4_code 80 = .ok (.aload_n 0, 1) := by decide +kernel
theorem d4_81 : decode prog_133_method_4_code 81 = .ok (.getfield 43, 3) := by decide +kernel
theorem d4_84 : decode prog_133_method_4_code 84 = .ok (.iconst 0, 1) := by decide +kernel
theorem d4_85 : decode prog_133_method_4_code 85 = .ok (.iastore, 1) := by decide +kernel
theorem d4_86 : decode prog_133_method_4_code 86 = .ok (.aload_n 0, 1) := by decide +kernel
theorem d4_87 : decode prog_133_method_4_code 87 = .ok (.getfield 19, 3) := by decide +kernel
theorem d4_90 : decode prog_133_method_4_code 90 = .ok (.aload_n 0, 1) := by decide +kernel
theorem d4_91 : decode prog_133_method_4_code 91 = .ok (.getfield 43, 3) := by decide +kernel
theorem d4_94 : decode prog_133_method_4_code 94 = .ok (.aload_n 0, 1) := by decide +kernel
theorem d4_95 : decode prog_133_method_4_code 95 = .ok (.getfield 50, 3) := by decide +kernel
theorem d4_98 : decode prog_133_method_4_code 98 = .ok (.iastore, 1) := by decide +kernel
theorem d4_99 : decode prog_133_method_4_code 99 = .ok (.aload_n 0, 1) := by decide +kernel
theorem d4_100 : decode prog_133_method_4_code 100 = .ok (.dup, 1) := by decide +kernel
theorem d4_101 : decode prog_133_method_4_code 101 = .ok (.getfield 43, 3) := by decide +kernel
theorem d4_104 : decode prog_133_method_4_code 104 = .ok (.iconst 1, 1) := by decide +kernel
theorem d4_105 : decode prog_133_method_4_code 105 = .ok (.iadd, 1) := by decide +kernel
theorem d4_106 : decode prog_133_method_4_code 106 = .ok (.putfield 43, 3) := by decide +kernel
theorem d4_109 : decode prog_133_method_4_code 109 = .ok (.aload_n 0, 1) := by decide +kernel
theorem d4_110 : decode prog_133_method_4_code 110 = .ok (.aload_n 0, 1) := by decide +kernel
theorem d4_111 : decode prog_133_method_4_code 111 = .ok (.getfield 47, 3) := by decide +kernel
theorem d4_114 : decode prog_133_method_4_code 114 = .ok (.putfield 50, 3) := by decide +kernel
theorem d4_117 : decode prog_133_method_4_code 117 = .ok (.return_, 1) := by decide +kernel
theorem pn_4 : plainFor (⟨"com/example/kenshinkit/kenshinkit/schema/OpenElements", "push", "(Lcom/example/kenshinkit/kenshinkit/schema/SchemaType;)V"⟩ : MethodName) = true := plainFor_of_name (by first | (simp [plainName, overriddenIn]; done) | decide +kernel)
theorem ef_rm4 (m : MethodId) (x0 : Addr) (x1 : Addr) : entryFrame m #[(.ref x0), (.ref x1)] 2 = mkF m 0 #[.val (.ref x0), .val (.ref x1)] [] := by first | (simp [entryFrame, mkF, argsToLocals, Value.category]; done) | rfl
def Q4 (Z : State) (n0 : Nat) (h0 : Heap) (a : Addr) (y : Addr) (tA : Addr) (sA : Addr) (mA : Addr) (w : Int32) (wb : Int32) (wd : Int32) (ft : Nat → Value) (fs : Nat → Int32) (fm : Nat → Int32) (v : Option Value) (h : Heap) : Prop := v = none ∧ Keep h0 h [a, tA, sA, mA] ∧ Exa Z h a "com/example/kenshinkit/kenshinkit/schema/OpenElements" ∧ Fld Z h a "com/example/kenshinkit/kenshinkit/schema/OpenElements" "types" "[Lcom/example/kenshinkit/kenshinkit/schema/SchemaType;" (.ref tA) ∧ Fld Z h a "com/example/kenshinkit/kenshinkit/schema/OpenElements" "states" "[I" (.ref sA) ∧ Fld Z h a "com/example/kenshinkit/kenshinkit/schema/OpenElements" "marks" "[I" (.ref mA) ∧ Fld Z h a "com/example/kenshinkit/kenshinkit/schema/OpenElements" "depth" "I" (.int (w + (1 : Int32))) ∧ Fld Z h a "com/example/kenshinkit/kenshinkit/schema/OpenElements" "boundary" "I" (.int wd) ∧ Fld Z h a "com/example/kenshinkit/kenshinkit/schema/OpenElements" "bindings" "I" (.int wd) ∧ Exa Z h tA "[Lcom/example/kenshinkit/kenshinkit/schema/SchemaType;" ∧ Exa Z h sA "[I" ∧ Exa Z h mA "[I" ∧ AO Z h tA "com/example/kenshinkit/kenshinkit/schema/SchemaType" ∧ Ary Z h tA (.object "com/example/kenshinkit/kenshinkit/schema/SchemaType") 64 (fun i => if i = (w).toNatClampNeg then (.ref y) else ft i) ∧ Ary Z h sA .int 64 (fun i => .int (if i = (w).toNatClampNeg then (0 : Int32) else fs i)) ∧ Ary Z h mA .int 64 (fun i => .int (if i = (w).toNatClampNeg then wb else fm i))
set_option maxRecDepth 65536 in
set_option maxHeartbeats 40000000 in
theorem rm4 (l : Launch) (Z : State) (a0 : Array Value) (hw : ∀ d ∈ tables_1, d.before a0 Z = true) (ws : List Jvm.Cond) (n0 : Nat) (h0 : Heap) (a : Addr) (y : Addr) (tA : Addr) (sA : Addr) (mA : Addr) (w : Int32) (wb : Int32) (wd : Int32) (ft : Nat → Value) (fs : Nat → Int32) (fm : Nat → Int32) (sz0 : n0 ≤ h0.size) (g0 : Exa Z h0 a "com/example/kenshinkit/kenshinkit/schema/OpenElements") (g1 : Exa Z h0 y "com/example/kenshinkit/kenshinkit/schema/ComplexType") (g2 : Fld Z h0 a "com/example/kenshinkit/kenshinkit/schema/OpenElements" "types" "[Lcom/example/kenshinkit/kenshinkit/schema/SchemaType;" (.ref tA)) (g3 : Fld Z h0 a "com/example/kenshinkit/kenshinkit/schema/OpenElements" "states" "[I" (.ref sA)) (g4 : Fld Z h0 a "com/example/kenshinkit/kenshinkit/schema/OpenElements" "marks" "[I" (.ref mA)) (g5 : Fld Z h0 a "com/example/kenshinkit/kenshinkit/schema/OpenElements" "depth" "I" (.int w)) (g6 : Fld Z h0 a "com/example/kenshinkit/kenshinkit/schema/OpenElements" "boundary" "I" (.int wb)) (g7 : Fld Z h0 a "com/example/kenshinkit/kenshinkit/schema/OpenElements" "bindings" "I" (.int wd)) (g8 : Exa Z h0 tA "[Lcom/example/kenshinkit/kenshinkit/schema/SchemaType;") (g9 : Exa Z h0 sA "[I") (g10 : Exa Z h0 mA "[I") (g11 : AO Z h0 tA "com/example/kenshinkit/kenshinkit/schema/SchemaType") (g12 : Ary Z h0 tA (.object "com/example/kenshinkit/kenshinkit/schema/SchemaType") 64 ft) (g13 : Ary Z h0 sA .int 64 (fun i => .int (fs i))) (g14 : Ary Z h0 mA .int 64 (fun i => .int (fm i))) (g15 : sA ≠ mA) (g16 : n0 ≤ a) (g17 : n0 ≤ tA) (g18 : n0 ≤ sA) (g19 : n0 ≤ mA) (hin : ¬ (w < 0 ∨ 64 ≤ w.toNatClampNeg)) (hlt : ¬ w = (64 : Int32)) :
    Con l (⟨"com/example/kenshinkit/kenshinkit/schema/OpenElements", "push", "(Lcom/example/kenshinkit/kenshinkit/schema/SchemaType;)V"⟩ : MethodName) prog_133_method_4_code 2 none ({ frames := 0, cells := 0, slots := 0, locals := 0 } : Room) ws Z n0 #[(.ref a), (.ref y)] h0 (Q4 Z n0 h0 a y tA sA mA w wb wd ft fs fm) := by
  refine Con.body pn_4 ?_
  intro p e s m below meth c s₁ hx hby hml hown hnm hret hlk hZ X0
  have hown : s.vm.findClass "com/example/kenshinkit/kenshinkit/schema/OpenElements" = some m.cls := hown
  have hnm : meth.name = "push" := hnm
  have K0 : Keep h0 h0 [a, tA, sA, mA] := Keep.refl _ _
  rw [show entryFrame m #[(.ref a), (.ref y)] 2 = mkF m 0 #[.val (.ref a), .val (.ref y)] [] from ef_rm4 m a y]
  show Go p e below (PostW s n0 (0 : Nat) (0 : Nat) (Q4 Z n0 h0 a y tA sA mA w wb wd ft fs fm)) s₁ (mkF m 0 #[.val (.ref a), .val (.ref y)] [])
  refine Go.st (T' := s₁) (g' := (mkF m 1 #[.val (.ref a), .val (.ref y)] [(.ref a)])) (fun t_ k_ => XS.aloadN X0.here hx rfl (hb hby d4_0) rfl rfl k_) ?_
  refine goGet X0 hx hZ hown (host := "") (Or.inl (hw _ (List.mem_of_getElem? (i := 53) rfl))) Via.refl g5 (hb hby d4_1) fun T1 X1 => ?_
  show Go p e below _ T1 (mkF m 4 #[.val (.ref a), .val (.ref y)] [(.int w)])
  refine Go.st (T' := T1) (g' := (mkF m 5 #[.val (.ref a), .val (.ref y)] [(.ref a), (.int w)])) (fun t_ k_ => XS.aloadN X1.here hx rfl (hb hby d4_4) rfl rfl k_) ?_
  refine goGet X1 hx hZ hown (host := "") (Or.inl (hw _ (List.mem_of_getElem? (i := 11) rfl))) Via.refl g2 (hb hby d4_5) fun T2 X2 => ?_
  show Go p e below _ T2 (mkF m 8 #[.val (.ref a), .val (.ref y)] [(.ref tA), (.int w)])
  refine goLen X2 hx hZ g12 (hb hby d4_8) ?_
  show Go p e below _ T2 (mkF m 9 #[.val (.ref a), .val (.ref y)] [(.int (64 : Int32)), (.int w)])
  have hc9 : ¬ (w = (64 : Int32)) := hlt
  refine Go.st (T' := T2) (g' := (mkF m 66 #[.val (.ref a), .val (.ref y)] [])) (fun t_ k_ => XS.icmpYes X2.here hx rfl (pc0 := 9) (pc' := 66) rfl (hb hby d4_9) rfl (feq hc9).2 (by decide) (by decide) k_) ?_
  refine Go.st (T' := T2) (g' := (mkF m 67 #[.val (.ref a), .val (.ref y)] [(.ref a)])) (fun t_ k_ => XS.aloadN X2.here hx rfl (hb hby d4_66) rfl rfl k_) ?_
  refine goGet X2 hx hZ hown (host := "") (Or.inl (hw _ (List.mem_of_getElem? (i := 11) rfl))) Via.refl g2 (hb hby d4_67) fun T3 X3 => ?_
  show Go p e below _ T3 (mkF m 70 #[.val (.ref a), .val (.ref y)] [(.ref tA)])
  refine Go.st (T' := T3) (g' := (mkF m 71 #[.val (.ref a), .val (.ref y)] [(.ref a), (.ref tA)])) (fun t_ k_ => XS.aloadN X3.here hx rfl (hb hby d4_70) rfl rfl k_) ?_
  refine goGet X3 hx hZ hown (host := "") (Or.inl (hw _ (List.mem_of_getElem? (i := 53) rfl))) Via.refl g5 (hb hby d4_71) fun T4 X4 => ?_
  show Go p e below _ T4 (mkF m 74 #[.val (.ref a), .val (.ref y)] [(.int w), (.ref tA)])
  refine Go.st (T' := T4) (g' := (mkF m 75 #[.val (.ref a), .val (.ref y)] [(.ref y), (.int w), (.ref tA)])) (fun t_ k_ => XS.aloadN X4.here hx rfl (hb hby d4_74) rfl rfl k_) ?_
  refine goStR X4 hx hZ g12 rfl g11 (Ins.of_exa g1 (hw _ (List.mem_of_getElem? (i := 55) rfl))) (j := w) hin g17 (hb hby d4_75) fun T5 h5 X5 W5 A5 => ?_
  have f5_0 : Exa Z h5 a "com/example/kenshinkit/kenshinkit/schema/OpenElements" := g0.wr W5
  have f5_1 : Exa Z h5 y "com/example/kenshinkit/kenshinkit/schema/ComplexType" := g1.wr W5
  have f5_2 : Fld Z h5 a "com/example/kenshinkit/kenshinkit/schema/OpenElements" "types" "[Lcom/example/kenshinkit/kenshinkit/schema/SchemaType;" (.ref tA) := g2.other W5 (Or.inl (ne_exa g0 g8 (by decide)))
  have f5_3 : Fld Z h5 a "com/example/kenshinkit/kenshinkit/schema/OpenElements" "states" "[I" (.ref sA) := g3.other W5 (Or.inl (ne_exa g0 g8 (by decide)))
  have f5_4 : Fld Z h5 a "com/example/kenshinkit/kenshinkit/schema/OpenElements" "marks" "[I" (.ref mA) := g4.other W5 (Or.inl (ne_exa g0 g8 (by decide)))
  have f5_5 : Fld Z h5 a "com/example/kenshinkit/kenshinkit/schema/OpenElements" "depth" "I" (.int w) := g5.other W5 (Or.inl (ne_exa g0 g8 (by decide)))
  have f5_6 : Fld Z h5 a "com/example/kenshinkit/kenshinkit/schema/OpenElements" "boundary" "I" (.int wb) := g6.other W5 (Or.inl (ne_exa g0 g8 (by decide)))
  have f5_7 : Fld Z h5 a "com/example/kenshinkit/kenshinkit/schema/OpenElements" "bindings" "I" (.int wd) := g7.other W5 (Or.inl (ne_exa g0 g8 (by decide)))
  have f5_8 : Exa Z h5 tA "[Lcom/example/kenshinkit/kenshinkit/schema/SchemaType;" := g8.wr W5
  have f5_9 : Exa Z h5 sA "[I" := g9.wr W5
  have f5_10 : Exa Z h5 mA "[I" := g10.wr W5
  have f5_11 : AO Z h5 tA "com/example/kenshinkit/kenshinkit/schema/SchemaType" := g11.wr W5
  have f5_12 : Ary Z h5 sA .int 64 (fun i => .int (fs i)) := g13.other W5 (ne_exa g9 g8 (by decide))
  have f5_13 : Ary Z h5 mA .int 64 (fun i => .int (fm i)) := g14.other W5 (ne_exa g10 g8 (by decide))
  have sz5 : n0 ≤ h5.size := Nat.le_trans sz0 (Keep.of_wr W5).1
  have K5 : Keep h0 h5 [a, tA, sA, mA] := K0.wr W5 (Or.inl (List.mem_of_getElem? (i := 1) rfl))
  have AA6 : Ary Z h5 tA (.object "com/example/kenshinkit/kenshinkit/schema/SchemaType") 64 (fun i => if i = (w).toNatClampNeg then (.ref y) else ft i) := A5
  show Go p e below _ T5 (mkF m 76 #[.val (.ref a), .val (.ref y)] [])
  refine Go.st (T' := T5) (g' := (mkF m 77 #[.val (.ref a), .val (.ref y)] [(.ref a)])) (fun t_ k_ => XS.aloadN X5.here hx rfl (hb hby d4_76) rfl rfl k_) ?_
  refine goGet X5 hx hZ hown (host := "") (Or.inl (hw _ (List.mem_of_getElem? (i := 14) rfl))) Via.refl f5_3 (hb hby d4_77) fun T7 X7 => ?_
  show Go p e below _ T7 (mkF m 80 #[.val (.ref a), .val (.ref y)] [(.ref sA)])
  refine Go.st (T' := T7) (g' := (mkF m 81 #[.val (.ref a), .val (.ref y)] [(.ref a), (.ref sA)])) (fun t_ k_ => XS.aloadN X7.here hx rfl (hb hby d4_80) rfl rfl k_) ?_
  refine goGet X7 hx hZ hown (host := "") (Or.inl (hw _ (List.mem_of_getElem? (i := 53) rfl))) Via.refl f5_5 (hb hby d4_81) fun T8 X8 => ?_
  show Go p e below _ T8 (mkF m 84 #[.val (.ref a), .val (.ref y)] [(.int w), (.ref sA)])
  refine Go.st (T' := T8) (g' := (mkF m 85 #[.val (.ref a), .val (.ref y)] [(.int (0 : Int32)), (.int w), (.ref sA)])) (fun t_ k_ => XS.iconst X8.here hx rfl (hb hby d4_84) k_) ?_
  refine goStI X8 hx hZ (f := (fun i => (fs i))) f5_12 (j := w) hin g18 (hb hby d4_85) fun T9 h9 X9 W9 A9 => ?_
  have f9_0 : Exa Z h9 a "com/example/kenshinkit/kenshinkit/schema/OpenElements" := f5_0.wr W9
  have f9_1 : Exa Z h9 y "com/example/kenshinkit/kenshinkit/schema/ComplexType" := f5_1.wr W9
  have f9_2 : Fld Z h9 a "com/example/kenshinkit/kenshinkit/schema/OpenElements" "types" "[Lcom/example/kenshinkit/kenshinkit/schema/SchemaType;" (.ref tA) := f5_2.other W9 (Or.inl (ne_exa f5_0 f5_9 (by decide)))
  have f9_3 : Fld Z h9 a "com/example/kenshinkit/kenshinkit/schema/OpenElements" "states" "[I" (.ref sA) := f5_3.other W9 (Or.inl (ne_exa f5_0 f5_9 (by decide)))
  have f9_4 : Fld Z h9 a "com/example/kenshinkit/kenshinkit/schema/OpenElements" "marks" "[I" (.ref mA) := f5_4.other W9 (Or.inl (ne_exa f5_0 f5_9 (by decide)))
  have f9_5 : Fld Z h9 a "com/example/kenshinkit/kenshinkit/schema/OpenElements" "depth" "I" (.int w) := f5_5.other W9 (Or.inl (ne_exa f5_0 f5_9 (by decide)))
  have f9_6 : Fld Z h9 a "com/example/kenshinkit/kenshinkit/schema/OpenElements" "boundary" "I" (.int wb) := f5_6.other W9 (Or.inl (ne_exa f5_0 f5_9 (by decide)))
  have f9_7 : Fld Z h9 a "com/example/kenshinkit/kenshinkit/schema/OpenElements" "bindings" "I" (.int wd) := f5_7.other W9 (Or.inl (ne_exa f5_0 f5_9 (by decide)))
  have f9_8 : Exa Z h9 tA "[Lcom/example/kenshinkit/kenshinkit/schema/SchemaType;" := f5_8.wr W9
  have f9_9 : Exa Z h9 sA "[I" := f5_9.wr W9
  have f9_10 : Exa Z h9 mA "[I" := f5_10.wr W9
  have f9_11 : AO Z h9 tA "com/example/kenshinkit/kenshinkit/schema/SchemaType" := f5_11.wr W9
  have f9_12 : Ary Z h9 mA .int 64 (fun i => .int (fm i)) := f5_13.other W9 g15.symm
  have f9_18 : Ary Z h9 tA (.object "com/example/kenshinkit/kenshinkit/schema/SchemaType") 64 (fun i => if i = (w).toNatClampNeg then (.ref y) else ft i) := AA6.other W9 (ne_exa f5_8 f5_9 (by decide))
  have sz9 : n0 ≤ h9.size := Nat.le_trans sz5 (Keep.of_wr W9).1
  have K9 : Keep h0 h9 [a, tA, sA, mA] := K5.wr W9 (Or.inl (List.mem_of_getElem? (i := 2) rfl))
  have AA10 : Ary Z h9 sA .int 64 (fun i => .int (if i = (w).toNatClampNeg then (0 : Int32) else fs i)) := A9
  show Go p e below _ T9 (mkF m 86 #[.val (.ref a), .val (.ref y)] [])
  refine Go.st (T' := T9) (g' := (mkF m 87 #[.val (.ref a), .val (.ref y)] [(.ref a)])) (fun t_ k_ => XS.aloadN X9.here hx rfl (hb hby d4_86) rfl rfl k_) ?_
  refine goGet X9 hx hZ hown (host := "") (Or.inl (hw _ (List.mem_of_getElem? (i := 16) rfl))) Via.refl f9_4 (hb hby d4_87) fun T11 X11 => ?_
  show Go p e below _ T11 (mkF m 90 #[.val (.ref a), .val (.ref y)] [(.ref mA)])
  refine Go.st (T' := T11) (g' := (mkF m 91 #[.val (.ref a), .val (.ref y)] [(.ref a), (.ref mA)])) (fun t_ k_ => XS.aloadN X11.here hx rfl (hb hby d4_90) rfl rfl k_) ?_
  refine goGet X11 hx hZ hown (host := "") (Or.inl (hw _ (List.mem_of_getElem? (i := 53) rfl))) Via.refl f9_5 (hb hby d4_91) fun T12 X12 => ?_
  show Go p e below _ T12 (mkF m 94 #[.val (.ref a), .val (.ref y)] [(.int w), (.ref mA)])
  refine Go.st (T' := T12) (g' := (mkF m 95 #[.val (.ref a), .val (.ref y)] [(.ref a), (.int w), (.ref mA)])) (fun t_ k_ => XS.aloadN X12.here hx rfl (hb hby d4_94) rfl rfl k_) ?_
  refine goGet X12 hx hZ hown (host := "") (Or.inl (hw _ (List.mem_of_getElem? (i := 56) rfl))) Via.refl f9_6 (hb hby d4_95) fun T13 X13 => ?_
  show Go p e below _ T13 (mkF m 98 #[.val (.ref a), .val (.ref y)] [(.int wb), (.int w), (.ref mA)])
  refine goStI X13 hx hZ (f := (fun i => (fm i))) f9_12 (j := w) hin g19 (hb hby d4_98) fun T14 h14 X14 W14 A14 => ?_
  have f14_0 : Exa Z h14 a "com/example/kenshinkit/kenshinkit/schema/OpenElements" := f9_0.wr W14
  have f14_1 : Exa Z h14 y "com/example/kenshinkit/kenshinkit/schema/ComplexType" := f9_1.wr W14
  have f14_2 : Fld Z h14 a "com/example/kenshinkit/kenshinkit/schema/OpenElements" "types" "[Lcom/example/kenshinkit/kenshinkit/schema/SchemaType;" (.ref tA) := f9_2.other W14 (Or.inl (ne_exa f9_0 f9_10 (by decide)))
  have f14_3 : Fld Z h14 a "com/example/kenshinkit/kenshinkit/schema/OpenElements" "states" "[I" (.ref sA) := f9_3.other W14 (Or.inl (ne_exa f9_0 f9_10 (by decide)))
  have f14_4 : Fld Z h14 a "com/example/kenshinkit/kenshinkit/schema/OpenElements" "marks" "[I" (.ref mA) := f9_4.other W14 (Or.inl (ne_exa f9_0 f9_10 (by decide)))
  have f14_5 : Fld Z h14 a "com/example/kenshinkit/kenshinkit/schema/OpenElements" "depth" "I" (.int w) := f9_5.other W14 (Or.inl (ne_exa f9_0 f9_10 (by decide)))
  have f14_6 : Fld Z h14 a "com/example/kenshinkit/kenshinkit/schema/OpenElements" "boundary" "I" (.int wb) := f9_6.other W14 (Or.inl (ne_exa f9_0 f9_10 (by decide)))
  have f14_7 : Fld Z h14 a "com/example/kenshinkit/kenshinkit/schema/OpenElements" "bindings" "I" (.int wd) := f9_7.other W14 (Or.inl (ne_exa f9_0 f9_10 (by decide)))
  have f14_8 : Exa Z h14 tA "[Lcom/example/kenshinkit/kenshinkit/schema/SchemaType;" := f9_8.wr W14
  have f14_9 : Exa Z h14 sA "[I" := f9_9.wr W14
  have f14_10 : Exa Z h14 mA "[I" := f9_10.wr W14
  have f14_11 : AO Z h14 tA "com/example/kenshinkit/kenshinkit/schema/SchemaType" := f9_11.wr W14
  have f14_17 : Ary Z h14 tA (.object "com/example/kenshinkit/kenshinkit/schema/SchemaType") 64 (fun i => if i = (w).toNatClampNeg then (.ref y) else ft i) := f9_18.other W14 (ne_exa f9_8 f9_10 (by decide))
  have f14_18 : Ary Z h14 sA .int 64 (fun i => .int (if i = (w).toNatClampNeg then (0 : Int32) else fs i)) := AA10.other W14 g15
  have sz14 : n0 ≤ h14.size := Nat.le_trans sz9 (Keep.of_wr W14).1
  have K14 : Keep h0 h14 [a, tA, sA, mA] := K9.wr W14 (Or.inl (List.mem_of_getElem? (i := 3) rfl))
  have AA15 : Ary Z h14 mA .int 64 (fun i => .int (if i = (w).toNatClampNeg then wb else fm i)) := A14
  show Go p e below _ T14 (mkF m 99 #[.val (.ref a), .val (.ref y)] [])
  refine Go.st (T' := T14) (g' := (mkF m 100 #[.val (.ref a), .val (.ref y)] [(.ref a)])) (fun t_ k_ => XS.aloadN X14.here hx rfl (hb hby d4_99) rfl rfl k_) ?_
  refine Go.st (T' := T14) (g' := (mkF m 101 #[.val (.ref a), .val (.ref y)] [(.ref a), (.ref a)])) (fun t_ k_ => XS.dup X14.here hx rfl (hb hby d4_100) rfl rfl k_) ?_
  refine goGet X14 hx hZ hown (host := "") (Or.inl (hw _ (List.mem_of_getElem? (i := 53) rfl))) Via.refl f14_5 (hb hby d4_101) fun T16 X16 => ?_
  show Go p e below _ T16 (mkF m 104 #[.val (.ref a), .val (.ref y)] [(.int w), (.ref a)])
  refine Go.st (T' := T16) (g' := (mkF m 105 #[.val (.ref a), .val (.ref y)] [(.int (1 : Int32)), (.int w), (.ref a)])) (fun t_ k_ => XS.iconst X16.here hx rfl (hb hby d4_104) k_) ?_
  refine Go.st (T' := T16) (g' := (mkF m 106 #[.val (.ref a), .val (.ref y)] [(.int (w + (1 : Int32))), (.ref a)])) (fun t_ k_ => XS.iadd X16.here hx rfl (hb hby d4_105) rfl k_) ?_
  refine goPut X16 hx hZ hown (host := "") (Or.inl (hw _ (List.mem_of_getElem? (i := 53) rfl))) Via.refl f14_5 f14_0 (Or.inl (hw _ (List.mem_of_getElem? (i := 54) rfl))) (hw _ (List.mem_of_getElem? (i := 1) rfl)) (ty := .int) (by decide) rfl rfl g16 (hb hby d4_106) fun T17 h17 X17 W17 => ?_
  have Fw17 := f14_5.same W17
  have f17_0 : Exa Z h17 a "com/example/kenshinkit/kenshinkit/schema/OpenElements" := f14_0.wr W17
  have f17_1 : Exa Z h17 y "com/example/kenshinkit/kenshinkit/schema/ComplexType" := f14_1.wr W17
  have f17_2 : Fld Z h17 a "com/example/kenshinkit/kenshinkit/schema/OpenElements" "types" "[Lcom/example/kenshinkit/kenshinkit/schema/SchemaType;" (.ref tA) := f14_2.other W17 (Or.inr (slot_ne (Or.inl (hw _ (List.mem_of_getElem? (i := 12) rfl))) (Or.inl (hw _ (List.mem_of_getElem? (i := 54) rfl))) (by decide) (t := (.array (.object "com/example/kenshinkit/kenshinkit/schema/SchemaType"))) (t' := .int) (by decide) (by decide)))
  have f17_3 : Fld Z h17 a "com/example/kenshinkit/kenshinkit/schema/OpenElements" "states" "[I" (.ref sA) := f14_3.other W17 (Or.inr (slot_ne (Or.inl (hw _ (List.mem_of_getElem? (i := 15) rfl))) (Or.inl (hw _ (List.mem_of_getElem? (i := 54) rfl))) (by decide) (t := (.array .int)) (t' := .int) (by decide) (by decide)))
  have f17_4 : Fld Z h17 a "com/example/kenshinkit/kenshinkit/schema/OpenElements" "marks" "[I" (.ref mA) := f14_4.other W17 (Or.inr (slot_ne (Or.inl (hw _ (List.mem_of_getElem? (i := 17) rfl))) (Or.inl (hw _ (List.mem_of_getElem? (i := 54) rfl))) (by decide) (t := (.array .int)) (t' := .int) (by decide) (by decide)))
  have f17_5 : Fld Z h17 a "com/example/kenshinkit/kenshinkit/schema/OpenElements" "boundary" "I" (.int wb) := f14_6.other W17 (Or.inr (slot_ne (Or.inl (hw _ (List.mem_of_getElem? (i := 57) rfl))) (Or.inl (hw _ (List.mem_of_getElem? (i := 54) rfl))) (by decide) (t := .int) (t' := .int) (by decide) (by decide)))
  have f17_6 : Fld Z h17 a "com/example/kenshinkit/kenshinkit/schema/OpenElements" "bindings" "I" (.int wd) := f14_7.other W17 (Or.inr (slot_ne (Or.inl (hw _ (List.mem_of_getElem? (i := 59) rfl))) (Or.inl (hw _ (List.mem_of_getElem? (i := 54) rfl))) (by decide) (t := .int) (t' := .int) (by decide) (by decide)))
  have f17_7 : Exa Z h17 tA "[Lcom/example/kenshinkit/kenshinkit/schema/SchemaType;" := f14_8.wr W17
  have f17_8 : Exa Z h17 sA "[I" := f14_9.wr W17
  have f17_9 : Exa Z h17 mA "[I" := f14_10.wr W17
  have f17_10 : AO Z h17 tA "com/example/kenshinkit/kenshinkit/schema/SchemaType" := f14_11.wr W17
  have f17_16 : Ary Z h17 tA (.object "com/example/kenshinkit/kenshinkit/schema/SchemaType") 64 (fun i => if i = (w).toNatClampNeg then (.ref y) else ft i) := f14_17.other W17 (ne_exa f14_8 f14_0 (by decide))
  have f17_17 : Ary Z h17 sA .int 64 (fun i => .int (if i = (w).toNatClampNeg then (0 : Int32) else fs i)) := f14_18.other W17 (ne_exa f14_9 f14_0 (by decide))
  have f17_18 : Ary Z h17 mA .int 64 (fun i => .int (if i = (w).toNatClampNeg then wb else fm i)) := AA15.other W17 (ne_exa f14_10 f14_0 (by decide))
  have sz17 : n0 ≤ h17.size := Nat.le_trans sz14 (Keep.of_wr W17).1
  have K17 : Keep h0 h17 [a, tA, sA, mA] := K14.wr W17 (Or.inl (List.mem_of_getElem? (i := 0) rfl))
  show Go p e below _ T17 (mkF m 109 #[.val (.ref a), .val (.ref y)] [])
  refine Go.st (T' := T17) (g' := (mkF m 110 #[.val (.ref a), .val (.ref y)] [(.ref a)])) (fun t_ k_ => XS.aloadN X17.here hx rfl (hb hby d4_109) rfl rfl k_) ?_
  refine Go.st (T' := T17) (g' := (mkF m 111 #[.val (.ref a), .val (.ref y)] [(.ref a), (.ref a)])) (fun t_ k_ => XS.aloadN X17.here hx rfl (hb hby d4_110) rfl rfl k_) ?_
  refine goGet X17 hx hZ hown (host := "") (Or.inl (hw _ (List.mem_of_getElem? (i := 58) rfl))) Via.refl f17_6 (hb hby d4_111) fun T18 X18 => ?_
  show Go p e below _ T18 (mkF m 114 #[.val (.ref a), .val (.ref y)] [(.int wd), (.ref a)])
  refine goPut X18 hx hZ hown (host := "") (Or.inl (hw _ (List.mem_of_getElem? (i := 56) rfl))) Via.refl f17_5 f17_0 (Or.inl (hw _ (List.mem_of_getElem? (i := 57) rfl))) (hw _ (List.mem_of_getElem? (i := 1) rfl)) (ty := .int) (by decide) rfl rfl g16 (hb hby d4_114) fun T19 h19 X19 W19 => ?_
  have Fw19 := f17_5.same W19
  have f19_0 : Exa Z h19 a "com/example/kenshinkit/kenshinkit/schema/OpenElements" := f17_0.wr W19
  have f19_1 : Exa Z h19 y "com/example/kenshinkit/kenshinkit/schema/ComplexType" := f17_1.wr W19
  have f19_2 : Fld Z h19 a "com/example/kenshinkit/kenshinkit/schema/OpenElements" "types" "[Lcom/example/kenshinkit/kenshinkit/schema/SchemaType;" (.ref tA) := f17_2.other W19 (Or.inr (slot_ne (Or.inl (hw _ (List.mem_of_getElem? (i := 12) rfl))) (Or.inl (hw _ (List.mem_of_getElem? (i := 57) rfl))) (by decide) (t := (.array (.object "com/example/kenshinkit/kenshinkit/schema/SchemaType"))) (t' := .int) (by decide) (by decide)))
  have f19_3 : Fld Z h19 a "com/example/kenshinkit/kenshinkit/schema/OpenElements" "states" "[I" (.ref sA) := f17_3.other W19 (Or.inr (slot_ne (Or.inl (hw _ (List.mem_of_getElem? (i := 15) rfl))) (Or.inl (hw _ (List.mem_of_getElem? (i := 57) rfl))) (by decide) (t := (.array .int)) (t' := .int) (by decide) (by decide)))
  have f19_4 : Fld Z h19 a "com/example/kenshinkit/kenshinkit/schema/OpenElements" "marks" "[I" (.ref mA) := f17_4.other W19 (Or.inr (slot_ne (Or.inl (hw _ (List.mem_of_getElem? (i := 17) rfl))) (Or.inl (hw _ (List.mem_of_getElem? (i := 57) rfl))) (by decide) (t := (.array .int)) (t' := .int) (by decide) (by decide)))
  have f19_5 : Fld Z h19 a "com/example/kenshinkit/kenshinkit/schema/OpenElements" "bindings" "I" (.int wd) := f17_6.other W19 (Or.inr (slot_ne (Or.inl (hw _ (List.mem_of_getElem? (i := 59) rfl))) (Or.inl (hw _ (List.mem_of_getElem? (i := 57) rfl))) (by decide) (t := .int) (t' := .int) (by decide) (by decide)))
  have f19_6 : Exa Z h19 tA "[Lcom/example/kenshinkit/kenshinkit/schema/SchemaType;" := f17_7.wr W19
  have f19_7 : Exa Z h19 sA "[I" := f17_8.wr W19
  have f19_8 : Exa Z h19 mA "[I" := f17_9.wr W19
  have f19_9 : AO Z h19 tA "com/example/kenshinkit/kenshinkit/schema/SchemaType" := f17_10.wr W19
  have f19_15 : Ary Z h19 tA (.object "com/example/kenshinkit/kenshinkit/schema/SchemaType") 64 (fun i => if i = (w).toNatClampNeg then (.ref y) else ft i) := f17_16.other W19 (ne_exa f17_7 f17_0 (by decide))
  have f19_16 : Ary Z h19 sA .int 64 (fun i => .int (if i = (w).toNatClampNeg then (0 : Int32) else fs i)) := f17_17.other W19 (ne_exa f17_8 f17_0 (by decide))
  have f19_17 : Ary Z h19 mA .int 64 (fun i => .int (if i = (w).toNatClampNeg then wb else fm i)) := f17_18.other W19 (ne_exa f17_9 f17_0 (by decide))
  have f19_18 : Fld Z h19 a "com/example/kenshinkit/kenshinkit/schema/OpenElements" "depth" "I" (.int (w + (1 : Int32))) := Fw17.other W19 (Or.inr (slot_ne (Or.inl (hw _ (List.mem_of_getElem? (i := 54) rfl))) (Or.inl (hw _ (List.mem_of_getElem? (i := 57) rfl))) (by decide) (t := .int) (t' := .int) (by decide) (by decide)))
  have sz19 : n0 ≤ h19.size := Nat.le_trans sz17 (Keep.of_wr W19).1
  have K19 : Keep h0 h19 [a, tA, sA, mA] := K17.wr W19 (Or.inl (List.mem_of_getElem? (i := 0) rfl))
  show Go p e below _ T19 (mkF m 117 #[.val (.ref a), .val (.ref y)] [])
  refine goRetV X19 hx hlk hret (hb hby d4_117) (by decide) (by decide) ?_
  refine ⟨rfl, K19, f19_0, f19_2, f19_3, f19_4, f19_18, Fw19, f19_5, f19_6, f19_7, f19_8, f19_9, f19_15, f19_16, f19_17⟩
theorem d5_0 : decode prog_133_method_9_code 0 = .ok (.aload_n 0, 1) := by decide +kernel
theorem d5_1 : decode prog_133_method_9_code 1 = .ok (.getfield 15, 3) := by decide +kernel
theorem d5_4 : decode prog_133_method_9_code 4 = .ok (.iload_n 1, 1) := by decide +kernel
theorem d5_5 : decode prog_133_method_9_code 5 = .ok (.iload_n 2, 1) := by decide +kernel
theorem d5_6 : decode prog_133_method_9_code 6 = .ok (.iastore, 1) := by decide +kernel
theorem d5_7 : decode prog_133_method_9_code 7 = .ok (.return_, 1) := by decide +kernel
theorem pn_5 : plainFor (⟨"com/example/kenshinkit/kenshinkit/schema/OpenElements", "setState", "(II)V"⟩ : MethodName) = true := plainFor_of_name (by first | (simp [plainName, overriddenIn]; done) | decide +kernel)
theorem ef_rm5 (m : MethodId) (x0 : Addr) (x1 : Int32) (x2 : Int32) : entryFrame m #[(.ref x0), (.int x1), (.int x2)] 3 = mkF m 0 #[.val (.ref x0), .val (.int x1), .val (.int x2)] [] := by first | (simp [entryFrame, mkF, argsToLocals, Value.category]; done) | rfl
def Q5 (Z : State) (n0 : Nat) (h0 : Heap) (a : Addr) (j : Int32) (q : Int32) (sA : Addr) (fs : Nat → Int32) (v : Option Value) (h : Heap) : Prop := v = none ∧ Keep h0 h [sA] ∧ Ary Z h sA .int 64 (fun i => .int (if i = (j).toNatClampNeg then q else fs i))
set_option maxRecDepth 65536 in
set_option maxHeartbeats 40000000 in
theorem rm5 (l : Launch) (Z : State) (a0 : Array Value) (hw : ∀ d ∈ tables_1, d.before a0 Z = true) (ws : List Jvm.Cond) (n0 : Nat) (h0 : Heap) (a : Addr) (j : Int32) (q : Int32) (sA : Addr) (fs : Nat → Int32) (sz0 : n0 ≤ h0.size) (g0 : Exa Z h0 a "com/example/kenshinkit/kenshinkit/schema/OpenElements") (g1 : Fld Z h0 a "com/example/kenshinkit/kenshinkit/schema/OpenElements" "states" "[I" (.ref sA)) (g2 : Exa Z h0 sA "[I") (g3 : Ary Z h0 sA .int 64 (fun i => .int (fs i))) (g4 : n0 ≤ sA) (hin : ¬ (j < 0 ∨ 64 ≤ j.toNatClampNeg)) :
    Con l (⟨"com/example/kenshinkit/kenshinkit/schema/OpenElements", "setState", "(II)V"⟩ : MethodName) prog_133_method_9_code 3 none ({ frames := 0, cells := 0, slots := 0, locals := 0 } : Room) ws Z n0 #[(.ref a), (.int j), (.int q)] h0 (Q5 Z n0 h0 a j q sA fs) := by
  refine Con.body pn_5 ?_
  intro p e s m below meth c s₁ hx hby hml hown hnm hret hlk hZ X0
  have hown : s.vm.findClass "com/example/kenshinkit/kenshinkit/schema/OpenElements" = some m.cls := hown
  have hnm : meth.name = "setState" := hnm
  have K0 : Keep h0 h0 [sA] := Keep.refl _ _
  rw [show entryFrame m #[(.ref a), (.int j), (.int q)] 3 = mkF m 0 #[.val (.ref a), .val (.int j), .val (.int q)] [] from ef_rm5 m a j q]
  show Go p e below (PostW s n0 (0 : Nat) (0 : Nat) (Q5 Z n0 h0 a j q sA fs)) s₁ (mkF m 0 #[.val (.ref a), .val (.int j), .val (.int q)] [])
  refine Go.st (T' := s₁) (g' := (mkF m 1 #[.val (.ref a), .val (.int j), .val (.int q)] [(.ref a)])) (fun t_ k_ => XS.aloadN X0.here hx rfl (hb hby d5_0) rfl rfl k_) ?_
  refine goGet X0 hx hZ hown (host := "") (Or.inl (hw _ (List.mem_of_getElem? (i := 14) rfl))) Via.refl g1 (hb hby d5_1) fun T1 X1 => ?_
  show Go p e below _ T1 (mkF m 4 #[.val (.ref a), .val (.int j), .val (.int q)] [(.ref sA)])
  refine Go.st (T' := T1) (g' := (mkF m 5 #[.val (.ref a), .val (.int j), .val (.int q)] [(.int j), (.ref sA)])) (fun t_ k_ => XS.iloadN X1.here hx rfl (hb hby d5_4) rfl k_) ?_
  refine Go.st (T' := T1) (g' := (mkF m 6 #[.val (.ref a), .val (.int j), .val (.int q)] [(.int q), (.int j), (.ref sA)])) (fun t_ k_ => XS.iloadN X1.here hx rfl (hb hby d5_5) rfl k_) ?_
  refine goStI X1 hx hZ (f := (fun i => (fs i))) g3 (j := j) hin g4 (hb hby d5_6) fun T2 h2 X2 W2 A2 => ?_
  have f2_0 : Exa Z h2 a "com/example/kenshinkit/kenshinkit/schema/OpenElements" := g0.wr W2
  have f2_1 : Fld Z h2 a "com/example/kenshinkit/kenshinkit/schema/OpenElements" "states" "[I" (.ref sA) := g1.other W2 (Or.inl (ne_exa g0 g2 (by decide)))
  have f2_2 : Exa Z h2 sA "[I" := g2.wr W2
  have sz2 : n0 ≤ h2.size := Nat.le_trans sz0 (Keep.of_wr W2).1
  have K2 : Keep h0 h2 [sA] := K0.wr W2 (Or.inl (List.mem_of_getElem? (i := 0) rfl))
  have AA3 : Ary Z h2 sA .int 64 (fun i => .int (if i = (j).toNatClampNeg then q else fs i)) := A2
  show Go p e below _ T2 (mkF m 7 #[.val (.ref a), .val (.int j), .val (.int q)] [])
  refine goRetV X2 hx hlk hret (hb hby d5_7) (by decide) (by decide) ?_
  refine ⟨rfl, K2, AA3⟩
theorem d6_0 : decode prog_133_method_5_code 0 = .ok (.aload_n 0, 1) := by decide +kernel
theorem d6_1 : decode prog_133_method_5_code 1 = .ok (.dup, 1) := by decide +kernel
theorem d6_2 : decode prog_133_method_5_code 2 = .ok (.getfield 43, 3) := by decide +kernel
theorem d6_5 : decode prog_133_method_5_code 5 = .ok (.iconst 1, 1) := by decide +kernel
theorem d6_6 : decode prog_133_method_5_code 6 = .ok (.isub, 1) := by decide +kernel
theorem d6_7 : decode prog_133_method_5_code 7 = .ok (.putfield 43, 3) := by decide +kernel
theorem d6_10 : decode prog_133_method_5_code 10 = .ok (.aload_n 0, 1) := by decide +kernel
theorem d6_11 : decode prog_133_method_5_code 11 = .ok (.aload_n 0, 1) := by decide +kernel
theorem d6_12 : decode prog_133_method_5_code 12 = .ok (.getfield 19, 3) := by decide +kernel
theorem d6_15 : decode prog_133_method_5_code 15 = .ok (.aload_n 0, 1) := by decide +kernel
theorem d6_16 : decode prog_133_method_5_code 16 = .ok (.getfield 43, 3) := by decide +kernel
theorem d6_19 : decode prog_133_method_5_code 19 = .ok (.iaload, 1) := by decide +kernel
theorem d6_20 : decode prog_133_method_5_code 20 = .ok (.putfield 47, 3) := by decide +kernel
theorem d6_23 : decode prog_133_method_5_code 23 = .ok (.aload_n 0, 1) := by decide +kernel
theorem d6_24 : decode prog_133_method_5_code 24 = .ok (.aload_n 0, 1) := by decide +kernel
theorem d6_25 : decode prog_133_method_5_code 25 = .ok (.getfield 47, 3) := by decide +kernel
theorem d6_28 : decode prog_133_method_5_code 28 = .ok (.putfield 50, 3) := by decide +kernel
theorem d6_31 : decode prog_133_method_5_code 31 = .ok (.return_, 1) := by decide +kernel
theorem pn_6 : plainFor (⟨"com/example/kenshinkit/kenshinkit/schema/OpenElements", "pop", "()V"⟩ : MethodName) = true := plainFor_of_name (by first | (simp [plainName, overriddenIn]; done) | decide +kernel)
theorem ef_rm6 (m : MethodId) (x0 : Addr) : entryFrame m #[(.ref x0)] 1 = mkF m 0 #[.val (.ref x0)] [] := by first | (simp [entryFrame, mkF, argsToLocals, Value.category]; done) | rfl
def Q6 (Z : State) (n0 : Nat) (h0 : Heap) (a : Addr) (tA : Addr) (sA : Addr) (mA : Addr) (w : Int32) (wb : Int32) (wd : Int32) (fm : Nat → Int32) (v : Option Value) (h : Heap) : Prop := v = none ∧ Keep h0 h [a] ∧ Exa Z h a "com/example/kenshinkit/kenshinkit/schema/OpenElements" ∧ Fld Z h a "com/example/kenshinkit/kenshinkit/schema/OpenElements" "depth" "I" (.int (w - (1 : Int32))) ∧ Fld Z h a "com/example/kenshinkit/kenshinkit/schema/OpenElements" "boundary" "I" (.int (fm (w - (1 : Int32)).toNatClampNeg)) ∧ Fld Z h a "com/example/kenshinkit/kenshinkit/schema/OpenElements" "bindings" "I" (.int (fm (w - (1 : Int32)).toNatClampNeg)) ∧ Fld Z h a "com/example/kenshinkit/kenshinkit/schema/OpenElements" "types" "[Lcom/example/kenshinkit/kenshinkit/schema/SchemaType;" (.ref tA) ∧ Fld Z h a "com/example/kenshinkit/kenshinkit/schema/OpenElements" "states" "[I" (.ref sA) ∧ Fld Z h a "com/example/kenshinkit/kenshinkit/schema/OpenElements" "marks" "[I" (.ref mA)
set_option maxRecDepth 65536 in
set_option maxHeartbeats 40000000 in
theorem rm6 (l : Launch) (Z : State) (a0 : Array Value) (hw : ∀ d ∈ tables_1, d.before a0 Z = true) (ws : List Jvm.Cond) (n0 : Nat) (h0 : Heap) (a : Addr) (tA : Addr) (sA : Addr) (mA : Addr) (w : Int32) (wb : Int32) (wd : Int32) (fm : Nat → Int32) (sz0 : n0 ≤ h0.size) (g0 : Exa Z h0 a "com/example/kenshinkit/kenshinkit/schema/OpenElements") (g1 : Fld Z h0 a "com/example/kenshinkit/kenshinkit/schema/OpenElements" "marks" "[I" (.ref mA)) (g2 : Fld Z h0 a "com/example/kenshinkit/kenshinkit/schema/OpenElements" "depth" "I" (.int w)) (g3 : Fld Z h0 a "com/example/kenshinkit/kenshinkit/schema/OpenElements" "boundary" "I" (.int wb)) (g4 : Fld Z h0 a "com/example/kenshinkit/kenshinkit/schema/OpenElements" "bindings" "I" (.int wd)) (g5 : Exa Z h0 mA "[I") (g6 : Ary Z h0 mA .int 64 (fun i => .int (fm i))) (g7 : n0 ≤ a) (g8 : Fld Z h0 a "com/example/kenshinkit/kenshinkit/schema/OpenElements" "types" "[Lcom/example/kenshinkit/kenshinkit/schema/SchemaType;" (.ref tA)) (g9 : Fld Z h0 a "com/example/kenshinkit/kenshinkit/schema/OpenElements" "states" "[I" (.ref sA)) (hin : ¬ (w - (1 : Int32) < 0 ∨ 64 ≤ (w - (1 : Int32)).toNatClampNeg)) :
    Con l (⟨"com/example/kenshinkit/kenshinkit/schema/OpenElements", "pop", "()V"⟩ : MethodName) prog_133_method_5_code 1 none ({ frames := 0, cells := 0, slots := 0, locals := 0 } : Room) ws Z n0 #[(.ref a)] h0 (Q6 Z n0 h0 a tA sA mA w wb wd fm) := by
  refine Con.body pn_6 ?_
  intro p e s m below meth c s₁ hx hby hml hown hnm hret hlk hZ X0
  have hown : s.vm.findClass "com/example/kenshinkit/kenshinkit/schema/OpenElements" = some m.cls := hown
  have hnm : meth.name = "pop" := hnm
  have K0 : Keep h0 h0 [a] := Keep.refl _ _
  rw [show entryFrame m #[(.ref a)] 1 = mkF m 0 #[.val (.ref a)] [] from ef_rm6 m a]
  show Go p e below (PostW s n0 (0 : Nat) (0 : Nat) (Q6 Z n0 h0 a tA sA mA w wb wd fm)) s₁ (mkF m 0 #[.val (.ref a)] [])
  refine Go.st (T' := s₁) (g' := (mkF m 1 #[.val (.ref a)] [(.ref a)])) (fun t_ k_ => XS.aloadN X0.here hx rfl (hb hby d6_0) rfl rfl k_) ?_
  refine Go.st (T' := s₁) (g' := (mkF m 2 #[.val (.ref a)] [(.ref a), (.ref a)])) (fun t_ k_ => XS.dup X0.here hx rfl (hb hby d6_1) rfl rfl k_) ?_
  refine goGet X0 hx hZ hown (host := "") (Or.inl (hw _ (List.mem_of_getElem? (i := 53) rfl))) Via.refl g2 (hb hby d6_2) fun T1 X1 => ?_
  show Go p e below _ T1 (mkF m 5 #[.val (.ref a)] [(.int w), (.ref a)])
  refine Go.st (T' := T1) (g' := (mkF m 6 #[.val (.ref a)] [(.int (1 : Int32)), (.int w), (.ref a)])) (fun t_ k_ => XS.iconst X1.here hx rfl (hb hby d6_5) k_) ?_
  refine Go.st (T' := T1) (g' := (mkF m 7 #[.val (.ref a)] [(.int (w - (1 : Int32))), (.ref a)])) (fun t_ k_ => XS.isub X1.here hx rfl (hb hby d6_6) rfl k_) ?_
  refine goPut X1 hx hZ hown (host := "") (Or.inl (hw _ (List.mem_of_getElem? (i := 53) rfl))) Via.refl g2 g0 (Or.inl (hw _ (List.mem_of_getElem? (i := 54) rfl))) (hw _ (List.mem_of_getElem? (i := 1) rfl)) (ty := .int) (by decide) rfl rfl g7 (hb hby d6_7) fun T2 h2 X2 W2 => ?_
  have Fw2 := g2.same W2
  have f2_0 : Exa Z h2 a "com/example/kenshinkit/kenshinkit/schema/OpenElements" := g0.wr W2
  have f2_1 : Fld Z h2 a "com/example/kenshinkit/kenshinkit/schema/OpenElements" "marks" "[I" (.ref mA) := g1.other W2 (Or.inr (slot_ne (Or.inl (hw _ (List.mem_of_getElem? (i := 17) rfl))) (Or.inl (hw _ (List.mem_of_getElem? (i := 54) rfl))) (by decide) (t := (.array .int)) (t' := .int) (by decide) (by decide)))
  have f2_2 : Fld Z h2 a "com/example/kenshinkit/kenshinkit/schema/OpenElements" "boundary" "I" (.int wb) := g3.other W2 (Or.inr (slot_ne (Or.inl (hw _ (List.mem_of_getElem? (i := 57) rfl))) (Or.inl (hw _ (List.mem_of_getElem? (i := 54) rfl))) (by decide) (t := .int) (t' := .int) (by decide) (by decide)))
  have f2_3 : Fld Z h2 a "com/example/kenshinkit/kenshinkit/schema/OpenElements" "bindings" "I" (.int wd) := g4.other W2 (Or.inr (slot_ne (Or.inl (hw _ (List.mem_of_getElem? (i := 59) rfl))) (Or.inl (hw _ (List.mem_of_getElem? (i := 54) rfl))) (by decide) (t := .int) (t' := .int) (by decide) (by decide)))
  have f2_4 : Exa Z h2 mA "[I" := g5.wr W2
  have f2_5 : Ary Z h2 mA .int 64 (fun i => .int (fm i)) := g6.other W2 (ne_exa g5 g0 (by decide))
  have f2_7 : Fld Z h2 a "com/example/kenshinkit/kenshinkit/schema/OpenElements" "types" "[Lcom/example/kenshinkit/kenshinkit/schema/SchemaType;" (.ref tA) := g8.other W2 (Or.inr (slot_ne (Or.inl (hw _ (List.mem_of_getElem? (i := 12) rfl))) (Or.inl (hw _ (List.mem_of_getElem? (i := 54) rfl))) (by decide) (t := (.array (.object "com/example/kenshinkit/kenshinkit/schema/SchemaType"))) (t' := .int) (by decide) (by decide)))
  have f2_8 : Fld Z h2 a "com/example/kenshinkit/kenshinkit/schema/OpenElements" "states" "[I" (.ref sA) := g9.other W2 (Or.inr (slot_ne (Or.inl (hw _ (List.mem_of_getElem? (i := 15) rfl))) (Or.inl (hw _ (List.mem_of_getElem? (i := 54) rfl))) (by decide) (t := (.array .int)) (t' := .int) (by decide) (by decide)))
  have sz2 : n0 ≤ h2.size := Nat.le_trans sz0 (Keep.of_wr W2).1
  have K2 : Keep h0 h2 [a] := K0.wr W2 (Or.inl (List.mem_of_getElem? (i := 0) rfl))
  show Go p e below _ T2 (mkF m 10 #[.val (.ref a)] [])
  refine Go.st (T' := T2) (g' := (mkF m 11 #[.val (.ref a)] [(.ref a)])) (fun t_ k_ => XS.aloadN X2.here hx rfl (hb hby d6_10) rfl rfl k_) ?_
  refine Go.st (T' := T2) (g' := (mkF m 12 #[.val (.ref a)] [(.ref a), (.ref a)])) (fun t_ k_ => XS.aloadN X2.here hx rfl (hb hby d6_11) rfl rfl k_) ?_
  refine goGet X2 hx hZ hown (host := "") (Or.inl (hw _ (List.mem_of_getElem? (i := 16) rfl))) Via.refl f2_1 (hb hby d6_12) fun T3 X3 => ?_
  show Go p e below _ T3 (mkF m 15 #[.val (.ref a)] [(.ref mA), (.ref a)])
  refine Go.st (T' := T3) (g' := (mkF m 16 #[.val (.ref a)] [(.ref a), (.ref mA), (.ref a)])) (fun t_ k_ => XS.aloadN X3.here hx rfl (hb hby d6_15) rfl rfl k_) ?_
  refine goGet X3 hx hZ hown (host := "") (Or.inl (hw _ (List.mem_of_getElem? (i := 53) rfl))) Via.refl Fw2 (hb hby d6_16) fun T4 X4 => ?_
  show Go p e below _ T4 (mkF m 19 #[.val (.ref a)] [(.int (w - (1 : Int32))), (.ref mA), (.ref a)])
  refine goLdI X4 hx hZ (f := (fun i => (fm i))) f2_5 (j := (w - (1 : Int32))) hin (hb hby d6_19) ?_
  show Go p e below _ T4 (mkF m 20 #[.val (.ref a)] [(.int (fm ((w - (1 : Int32))).toNatClampNeg)), (.ref a)])
  rw [show (fm ((w - (1 : Int32))).toNatClampNeg) = (fm (w - (1 : Int32)).toNatClampNeg) from rfl]
  show Go p e below _ T4 (mkF m 20 #[.val (.ref a)] [(.int (fm (w - (1 : Int32)).toNatClampNeg)), (.ref a)])
  refine goPut X4 hx hZ hown (host := "") (Or.inl (hw _ (List.mem_of_getElem? (i := 58) rfl))) Via.refl f2_3 f2_0 (Or.inl (hw _ (List.mem_of_getElem? (i := 59) rfl))) (hw _ (List.mem_of_getElem? (i := 1) rfl)) (ty := .int) (by decide) rfl rfl g7 (hb hby d6_20) fun T5 h5 X5 W5 => ?_
  have Fw5 := f2_3.same W5
  have f5_0 : Exa Z h5 a "com/example/kenshinkit/kenshinkit/schema/OpenElements" := f2_0.wr W5
  have f5_1 : Fld Z h5 a "com/example/kenshinkit/kenshinkit/schema/OpenElements" "marks" "[I" (.ref mA) := f2_1.other W5 (Or.inr (slot_ne (Or.inl (hw _ (List.mem_of_getElem? (i := 17) rfl))) (Or.inl (hw _ (List.mem_of_getElem? (i := 59) rfl))) (by decide) (t := (.array .int)) (t' := .int) (by decide) (by decide)))
  have f5_2 : Fld Z h5 a "com/example/kenshinkit/kenshinkit/schema/OpenElements" "boundary" "I" (.int wb) := f2_2.other W5 (Or.inr (slot_ne (Or.inl (hw _ (List.mem_of_getElem? (i := 57) rfl))) (Or.inl (hw _ (List.mem_of_getElem? (i := 59) rfl))) (by decide) (t := .int) (t' := .int) (by decide) (by decide)))
  have f5_3 : Exa Z h5 mA "[I" := f2_4.wr W5
  have f5_4 : Ary Z h5 mA .int 64 (fun i => .int (fm i)) := f2_5.other W5 (ne_exa f2_4 f2_0 (by decide))
  have f5_6 : Fld Z h5 a "com/example/kenshinkit/kenshinkit/schema/OpenElements" "types" "[Lcom/example/kenshinkit/kenshinkit/schema/SchemaType;" (.ref tA) := f2_7.other W5 (Or.inr (slot_ne (Or.inl (hw _ (List.mem_of_getElem? (i := 12) rfl))) (Or.inl (hw _ (List.mem_of_getElem? (i := 59) rfl))) (by decide) (t := (.array (.object "com/example/kenshinkit/kenshinkit/schema/SchemaType"))) (t' := .int) (by decide) (by decide)))
  have f5_7 : Fld Z h5 a "com/example/kenshinkit/kenshinkit/schema/OpenElements" "states" "[I" (.ref sA) := f2_8.other W5 (Or.inr (slot_ne (Or.inl (hw _ (List.mem_of_getElem? (i := 15) rfl))) (Or.inl (hw _ (List.mem_of_getElem? (i := 59) rfl))) (by decide) (t := (.array .int)) (t' := .int) (by decide) (by decide)))
  have f5_8 : Fld Z h5 a "com/example/kenshinkit/kenshinkit/schema/OpenElements" "depth" "I" (.int (w - (1 : Int32))) := Fw2.other W5 (Or.inr (slot_ne (Or.inl (hw _ (List.mem_of_getElem? (i := 54) rfl))) (Or.inl (hw _ (List.mem_of_getElem? (i := 59) rfl))) (by decide) (t := .int) (t' := .int) (by decide) (by decide)))
  have sz5 : n0 ≤ h5.size := Nat.le_trans sz2 (Keep.of_wr W5).1
  have K5 : Keep h0 h5 [a] := K2.wr W5 (Or.inl (List.mem_of_getElem? (i := 0) rfl))
  show Go p e below _ T5 (mkF m 23 #[.val (.ref a)] [])
  refine Go.st (T' := T5) (g' := (mkF m 24 #[.val (.ref a)] [(.ref a)])) (fun t_ k_ => XS.aloadN X5.here hx rfl (hb hby d6_23) rfl rfl k_) ?_
  refine Go.st (T' := T5) (g' := (mkF m 25 #[.val (.ref a)] [(.ref a), (.ref a)])) (fun t_ k_ => XS.aloadN X5.here hx rfl (hb hby d6_24) rfl rfl k_) ?_
  refine goGet X5 hx hZ hown (host := "") (Or.inl (hw _ (List.mem_of_getElem? (i := 58) rfl))) Via.refl Fw5 (hb hby d6_25) fun T6 X6 => ?_
  show Go p e below _ T6 (mkF m 28 #[.val (.ref a)] [(.int (fm (w - (1 : Int32)).toNatClampNeg)), (.ref a)])
  refine goPut X6 hx hZ hown (host := "") (Or.inl (hw _ (List.mem_of_getElem? (i := 56) rfl))) Via.refl f5_2 f5_0 (Or.inl (hw _ (List.mem_of_getElem? (i := 57) rfl))) (hw _ (List.mem_of_getElem? (i := 1) rfl)) (ty := .int) (by decide) rfl rfl g7 (hb hby d6_28) fun T7 h7 X7 W7 => ?_
  have Fw7 := f5_2.same W7
  have f7_0 : Exa Z h7 a "com/example/kenshinkit/kenshinkit/schema/OpenElements" := f5_0.wr W7
  have f7_1 : Fld Z h7 a "com/example/kenshinkit/kenshinkit/schema/OpenElements" "marks" "[I" (.ref mA) := f5_1.other W7 (Or.inr (slot_ne (Or.inl (hw _ (List.mem_of_getElem? (i := 17) rfl))) (Or.inl (hw _ (List.mem_of_getElem? (i := 57) rfl))) (by decide) (t := (.array .int)) (t' := .int) (by decide) (by decide)))
  have f7_2 : Exa Z h7 mA "[I" := f5_3.wr W7
  have f7_3 : Ary Z h7 mA .int 64 (fun i => .int (fm i)) := f5_4.other W7 (ne_exa f5_3 f5_0 (by decide))
  have f7_5 : Fld Z h7 a "com/example/kenshinkit/kenshinkit/schema/OpenElements" "types" "[Lcom/example/kenshinkit/kenshinkit/schema/SchemaType;" (.ref tA) := f5_6.other W7 (Or.inr (slot_ne (Or.inl (hw _ (List.mem_of_getElem? (i := 12) rfl))) (Or.inl (hw _ (List.mem_of_getElem? (i := 57) rfl))) (by decide) (t := (.array (.object "com/example/kenshinkit/kenshinkit/schema/SchemaType"))) (t' := .int) (by decide) (by decide)))
  have f7_6 : Fld Z h7 a "com/example/kenshinkit/kenshinkit/schema/OpenElements" "states" "[I" (.ref sA) := f5_7.other W7 (Or.inr (slot_ne (Or.inl (hw _ (List.mem_of_getElem? (i := 15) rfl))) (Or.inl (hw _ (List.mem_of_getElem? (i := 57) rfl))) (by decide) (t := (.array .int)) (t' := .int) (by decide) (by decide)))
  have f7_7 : Fld Z h7 a "com/example/kenshinkit/kenshinkit/schema/OpenElements" "depth" "I" (.int (w - (1 : Int32))) := f5_8.other W7 (Or.inr (slot_ne (Or.inl (hw _ (List.mem_of_getElem? (i := 54) rfl))) (Or.inl (hw _ (List.mem_of_getElem? (i := 57) rfl))) (by decide) (t := .int) (t' := .int) (by decide) (by decide)))
  have f7_8 : Fld Z h7 a "com/example/kenshinkit/kenshinkit/schema/OpenElements" "bindings" "I" (.int (fm (w - (1 : Int32)).toNatClampNeg)) := Fw5.other W7 (Or.inr (slot_ne (Or.inl (hw _ (List.mem_of_getElem? (i := 59) rfl))) (Or.inl (hw _ (List.mem_of_getElem? (i := 57) rfl))) (by decide) (t := .int) (t' := .int) (by decide) (by decide)))
  have sz7 : n0 ≤ h7.size := Nat.le_trans sz5 (Keep.of_wr W7).1
  have K7 : Keep h0 h7 [a] := K5.wr W7 (Or.inl (List.mem_of_getElem? (i := 0) rfl))
  show Go p e below _ T7 (mkF m 31 #[.val (.ref a)] [])
  refine goRetV X7 hx hlk hret (hb hby d6_31) (by decide) (by decide) ?_
  refine ⟨rfl, K7, f7_0, f7_7, Fw7, f7_8, f7_5, f7_6, f7_1⟩
theorem d7_0 : decode prog_133_method_6_code 0 = .ok (.aload_n 0, 1) := by decide +kernel
theorem d7_1 : decode prog_133_method_6_code 1 = .ok (.getfield 43, 3) := by decide +kernel
theorem d7_4 : decode prog_133_method_6_code 4 = .ok (.ireturn, 1) := by decide +kernel
theorem pn_7 : plainFor (⟨"com/example/kenshinkit/kenshinkit/schema/OpenElements", "depth", "()I"⟩ : MethodName) = true := plainFor_of_name (by first | (simp [plainName, overriddenIn]; done) | decide +kernel)
theorem ef_rm7 (m : MethodId) (x0 : Addr) : entryFrame m #[(.ref x0)] 1 = mkF m 0 #[.val (.ref x0)] [] := by first | (simp [entryFrame, mkF, argsToLocals, Value.category]; done) | rfl
def Q7 (Z : State) (n0 : Nat) (h0 : Heap) (a : Addr) (w : Int32) (v : Option Value) (h : Heap) : Prop := v = some (.int w) ∧ h = h0
set_option maxRecDepth 65536 in
set_option maxHeartbeats 40000000 in
theorem rm7 (l : Launch) (Z : State) (a0 : Array Value) (hw : ∀ d ∈ tables_1, d.before a0 Z = true) (ws : List Jvm.Cond) (n0 : Nat) (h0 : Heap) (a : Addr) (w : Int32) (sz0 : n0 ≤ h0.size) (g0 : Fld Z h0 a "com/example/kenshinkit/kenshinkit/schema/OpenElements" "depth" "I" (.int w)) :
    Con l (⟨"com/example/kenshinkit/kenshinkit/schema/OpenElements", "depth", "()I"⟩ : MethodName) prog_133_method_6_code 1 (some .int) ({ frames := 0, cells := 0, slots := 0, locals := 0 } : Room) ws Z n0 #[(.ref a)] h0 (Q7 Z n0 h0 a w) := by
  refine Con.body pn_7 ?_
  intro p e s m below meth c s₁ hx hby hml hown hnm hret hlk hZ X0
  have hown : s.vm.findClass "com/example/kenshinkit/kenshinkit/schema/OpenElements" = some m.cls := hown
  have hnm : meth.name = "depth" := hnm
  rw [show entryFrame m #[(.ref a)] 1 = mkF m 0 #[.val (.ref a)] [] from ef_rm7 m a]
  show Go p e below (PostW s n0 (0 : Nat) (0 : Nat) (Q7 Z n0 h0 a w)) s₁ (mkF m 0 #[.val (.ref a)] [])
  refine Go.st (T' := s₁) (g' := (mkF m 1 #[.val (.ref a)] [(.ref a)])) (fun t_ k_ => XS.aloadN X0.here hx rfl (hb hby d7_0) rfl rfl k_) ?_
  refine goGet X0 hx hZ hown (host := "") (Or.inl (hw _ (List.mem_of_getElem? (i := 53) rfl))) Via.refl g0 (hb hby d7_1) fun T1 X1 => ?_
  show Go p e below _ T1 (mkF m 4 #[.val (.ref a)] [(.int w)])
  refine goRetI X1 hx hlk hret (hb hby d7_4) (by decide) (by decide) ?_
  refine ⟨rfl, rfl⟩
theorem d8_0 : decode prog_133_method_7_code 0 = .ok (.aload_n 0, 1) := by decide +kernel
theorem d8_1 : decode prog_133_method_7_code 1 = .ok (.getfield 9, 3) := by decide +kernel
theorem d8_4 : decode prog_133_method_7_code 4 = .ok (.iload_n 1, 1) := by decide +kernel
theorem d8_5 : decode prog_133_method_7_code 5 = .ok (.aaload, 1) := by decide +kernel
theorem d8_6 : decode prog_133_method_7_code 6 = .ok (.areturn, 1) := by decide +kernel
theorem pn_8 : plainFor (⟨"com/example/kenshinkit/kenshinkit/schema/OpenElements", "type", "(I)Lcom/example/kenshinkit/kenshinkit/schema/SchemaType;"⟩ : MethodName) = true := plainFor_of_name (by first | (simp [plainName, overriddenIn]; done) | decide +kernel)
theorem ef_rm8 (m : MethodId) (x0 : Addr) (x1 : Int32) : entryFrame m #[(.ref x0), (.int x1)] 2 = mkF m 0 #[.val (.ref x0), .val (.int x1)] [] := by first | (simp [entryFrame, mkF, argsToLocals, Value.category]; done) | rfl
def Q8 (Z : State) (n0 : Nat) (h0 : Heap) (a : Addr) (j : Int32) (tA : Addr) (ft : Nat → Value) (y : Addr) (v : Option Value) (h : Heap) : Prop := v = some (.ref y) ∧ h = h0
set_option maxRecDepth 65536 in
set_option maxHeartbeats 40000000 in
theorem rm8 (l : Launch) (Z : State) (a0 : Array Value) (hw : ∀ d ∈ tables_1, d.before a0 Z = true) (ws : List Jvm.Cond) (n0 : Nat) (h0 : Heap) (a : Addr) (j : Int32) (tA : Addr) (ft : Nat → Value) (y : Addr) (sz0 : n0 ≤ h0.size) (g0 : Fld Z h0 a "com/example/kenshinkit/kenshinkit/schema/OpenElements" "types" "[Lcom/example/kenshinkit/kenshinkit/schema/SchemaType;" (.ref tA)) (g1 : Ary Z h0 tA (.object "com/example/kenshinkit/kenshinkit/schema/SchemaType") 64 ft) (hin : ¬ (j < 0 ∨ 64 ≤ j.toNatClampNeg)) (hy : ft j.toNatClampNeg = .ref y) :
    Con l (⟨"com/example/kenshinkit/kenshinkit/schema/OpenElements", "type", "(I)Lcom/example/kenshinkit/kenshinkit/schema/SchemaType;"⟩ : MethodName) prog_133_method_7_code 2 (some (.object "com/example/kenshinkit/kenshinkit/schema/SchemaType")) ({ frames := 0, cells := 0, slots := 0, locals := 0 } : Room) ws Z n0 #[(.ref a), (.int j)] h0 (Q8 Z n0 h0 a j tA ft y) := by
  refine Con.body pn_8 ?_
  intro p e s m below meth c s₁ hx hby hml hown hnm hret hlk hZ X0
  have hown : s.vm.findClass "com/example/kenshinkit/kenshinkit/schema/OpenElements" = some m.cls := hown
  have hnm : meth.name = "type" := hnm
  rw [show entryFrame m #[(.ref a), (.int j)] 2 = mkF m 0 #[.val (.ref a), .val (.int j)] [] from ef_rm8 m a j]
  show Go p e below (PostW s n0 (0 : Nat) (0 : Nat) (Q8 Z n0 h0 a j tA ft y)) s₁ (mkF m 0 #[.val (.ref a), .val (.int j)] [])
  refine Go.st (T' := s₁) (g' := (mkF m 1 #[.val (.ref a), .val (.int j)] [(.ref a)])) (fun t_ k_ => XS.aloadN X0.here hx rfl (hb hby d8_0) rfl rfl k_) ?_
  refine goGet X0 hx hZ hown (host := "") (Or.inl (hw _ (List.mem_of_getElem? (i := 11) rfl))) Via.refl g0 (hb hby d8_1) fun T1 X1 => ?_
  show Go p e below _ T1 (mkF m 4 #[.val (.ref a), .val (.int j)] [(.ref tA)])
  refine Go.st (T' := T1) (g' := (mkF m 5 #[.val (.ref a), .val (.int j)] [(.int j), (.ref tA)])) (fun t_ k_ => XS.iloadN X1.here hx rfl (hb hby d8_4) rfl k_) ?_
  refine goLdR X1 hx hZ g1 rfl (j := j) hin (hb hby d8_5) ?_
  rw [show (ft (j).toNatClampNeg) = (.ref y) from hy]
  show Go p e below _ T1 (mkF m 6 #[.val (.ref a), .val (.int j)] [(.ref y)])
  refine goRetA X1 hx hlk hret rfl (hb hby d8_6) (by decide) (by decide) ?_
  refine ⟨rfl, rfl⟩
theorem d9_0 : decode prog_133_method_8_code 0 = .ok (.aload_n 0, 1) := by decide +kernel
theorem d9_1 : decode prog_133_method_8_code 1 = .ok (.getfield 15, 3) := by decide +kernel
theorem d9_4 : decode prog_133_method_8_code 4 = .ok (.iload_n 1, 1) := by decide +kernel
theorem d9_5 : decode prog_133_method_8_code 5 = .ok (.iaload, 1) := by decide +kernel
theorem d9_6 : decode prog_133_method_8_code 6 = .ok (.ireturn, 1) := by decide +kernel
theorem pn_9 : plainFor (⟨"com/example/kenshinkit/kenshinkit/schema/OpenElements", "state", "(I)I"⟩ : MethodName) = true := plainFor_of_name (by first | (simp [plainName, overriddenIn]; done) | decide +kernel)
theorem ef_rm9 (m : MethodId) (x0 : Addr) (x1 : Int32) : entryFrame m #[(.ref x0), (.int x1)] 2 = mkF m 0 #[.val (.ref x0), .val (.int x1)] [] := by first | (simp [entryFrame, mkF, argsToLocals, Value.category]; done) | rfl
def Q9 (Z : State) (n0 : Nat) (h0 : Heap) (a : Addr) (j : Int32) (q : Int32) (sA : Addr) (fs : Nat → Int32) (v : Option Value) (h : Heap) : Prop := v = some (.int q) ∧ h = h0
set_option maxRecDepth 65536 in
set_option maxHeartbeats 40000000 in
theorem rm9 (l : Launch) (Z : State) (a0 : Array Value) (hw : ∀ d ∈ tables_1, d.before a0 Z = true) (ws : List Jvm.Cond) (n0 : Nat) (h0 : Heap) (a : Addr) (j : Int32) (q : Int32) (sA : Addr) (fs : Nat → Int32) (sz0 : n0 ≤ h0.size) (g0 : Fld Z h0 a "com/example/kenshinkit/kenshinkit/schema/OpenElements" "states" "[I" (.ref sA)) (g1 : Ary Z h0 sA .int 64 (fun i => .int (fs i))) (hin : ¬ (j < 0 ∨ 64 ≤ j.toNatClampNeg)) (hq : fs j.toNatClampNeg = q) :
    Con l (⟨"com/example/kenshinkit/kenshinkit/schema/OpenElements", "state", "(I)I"⟩ : MethodName) prog_133_method_8_code 2 (some .int) ({ frames := 0, cells := 0, slots := 0, locals := 0 } : Room) ws Z n0 #[(.ref a), (.int j)] h0 (Q9 Z n0 h0 a j q sA fs) := by
  refine Con.body pn_9 ?_
  intro p e s m below meth c s₁ hx hby hml hown hnm hret hlk hZ X0
  have hown : s.vm.findClass "com/example/kenshinkit/kenshinkit/schema/OpenElements" = some m.cls := hown
  have hnm : meth.name = "state" := hnm
  rw [show entryFrame m #[(.ref a), (.int j)] 2 = mkF m 0 #[.val (.ref a), .val (.int j)] [] from ef_rm9 m a j]
  show Go p e below (PostW s n0 (0 : Nat) (0 : Nat) (Q9 Z n0 h0 a j q sA fs)) s₁ (mkF m 0 #[.val (.ref a), .val (.int j)] [])
  refine Go.st (T' := s₁) (g' := (mkF m 1 #[.val (.ref a), .val (.int j)] [(.ref a)])) (fun t_ k_ => XS.aloadN X0.here hx rfl (hb hby d9_0) rfl rfl k_) ?_
  refine goGet X0 hx hZ hown (host := "") (Or.inl (hw _ (List.mem_of_getElem? (i := 14) rfl))) Via.refl g0 (hb hby d9_1) fun T1 X1 => ?_
  show Go p e below _ T1 (mkF m 4 #[.val (.ref a), .val (.int j)] [(.ref sA)])
  refine Go.st (T' := T1) (g' := (mkF m 5 #[.val (.ref a), .val (.int j)] [(.int j), (.ref sA)])) (fun t_ k_ => XS.iloadN X1.here hx rfl (hb hby d9_4) rfl k_) ?_
  refine goLdI X1 hx hZ (f := (fun i => (fs i))) g1 (j := j) hin (hb hby d9_5) ?_
  show Go p e below _ T1 (mkF m 6 #[.val (.ref a), .val (.int j)] [(.int (fs (j).toNatClampNeg))])
  rw [show (fs (j).toNatClampNeg) = q from hq]
  show Go p e below _ T1 (mkF m 6 #[.val (.ref a), .val (.int j)] [(.int q)])
  refine goRetI X1 hx hlk hret (hb hby d9_6) (by decide) (by decide) ?_
  refine ⟨rfl, rfl⟩
theorem pn_0 : plainFor x = true := plainFor_of_name (by first | (simp [plainName, overriddenIn]; done) | decide +kernel)
theorem pd_0f51a560 : parseMethodDescriptor "()V" = some ⟨[], none⟩ := by decide +kernel
theorem pd_b9a6f732 : parseMethodDescriptor "(Lcom/example/kenshinkit/kenshinkit/schema/SchemaType;)V" = some ⟨[(.object "com/example/kenshinkit/kenshinkit/schema/SchemaType")], none⟩ := by decide +kernel
theorem pd_688a590a : parseMethodDescriptor "(II)V" = some ⟨[.int, .int], none⟩ := by decide +kernel
theorem pd_8259a895 : parseMethodDescriptor "()I" = some ⟨[], some .int⟩ := by decide +kernel
theorem pd_f72ca27d : parseMethodDescriptor "(I)Lcom/example/kenshinkit/kenshinkit/schema/SchemaType;" = some ⟨[.int], some (.object "com/example/kenshinkit/kenshinkit/schema/SchemaType")⟩ := by decide +kernel
theorem pd_70cf885d : parseMethodDescriptor "(I)I" = some ⟨[.int], some .int⟩ := by decide +kernel
theorem ef_rm0 (m : MethodId) (x0 : Int32) (x1 : Int32) (x2 : Int32) : entryFrame m #[(.int x0), (.int x1), (.int x2)] maxLocals = mkF m 0 #[.val (.int x0), .val (.int x1), .val (.int x2), .unset, .unset, .unset, .unset, .unset, .unset, .unset] [] := by first | (simp [entryFrame, mkF, argsToLocals, Value.category, maxLocals]; done) | rfl
def Q0 (Z : State) (n0 : Nat) (h0 : Heap) (p1 : Int32) (p2 : Int32) (p3 : Int32) (we : Addr) (v : Option Value) (h : Heap) : Prop := v = some (.int (1 : Int32))
set_option maxRecDepth 65536 in
set_option maxHeartbeats 40000000 in
theorem rm0 (l : Launch) (Z : State) (a0 : Array Value) (hw : ∀ d ∈ tables_1, d.before a0 Z = true) (ws : List Jvm.Cond) (n0 : Nat) (h0 : Heap) (p1 : Int32) (p2 : Int32) (p3 : Int32) (we : Addr) (sz0 : n0 ≤ h0.size) (g0 : Sta Z h0 "com/example/kenshinkit/kenshinkit/schema/ComplexType$Content" "EMPTY" "Lcom/example/kenshinkit/kenshinkit/schema/ComplexType$Content;" (.ref we)) :
    Con l x code maxLocals ret room_1 ws Z n0 #[(.int p1), (.int p2), (.int p3)] h0 (Q0 Z n0 h0 p1 p2 p3 we) := by
  refine Con.body pn_0 ?_
  intro p e s m below meth c s₁ hx hby hml hown hnm hret hlk hZ X0
  have hown : s.vm.findClass "com/example/kenshinkit/kenshinkit/schema/OpenElementsPopPinLaw" = some m.cls := hown
  have hnm : meth.name = "law" := hnm
  have hml : c.maxLocals = 10 := hml
  have hret : meth.sig.returnType = some .boolean := hret
  rw [show entryFrame m #[(.int p1), (.int p2), (.int p3)] maxLocals = mkF m 0 #[.val (.int p1), .val (.int p2), .val (.int p3), .unset, .unset, .unset, .unset, .unset, .unset, .unset] [] from ef_rm0 m p1 p2 p3]
  show Go p e below (PostW s n0 room_1.cells room_1.slots (Q0 Z n0 h0 p1 p2 p3 we)) s₁ (mkF m 0 #[.val (.int p1), .val (.int p2), .val (.int p3), .unset, .unset, .unset, .unset, .unset, .unset, .unset] [])
  refine Go.st (T' := s₁) (g' := (mkF m 1 #[.val (.int p1), .val (.int p2), .val (.int p3), .unset, .unset, .unset, .unset, .unset, .unset, .unset] [(.int p1)])) (fun t_ k_ => XS.iloadN X0.here hx rfl (hb hby at_0) rfl k_) ?_
  refine Go.st (T' := s₁) (g' := (mkF m 2 #[.val (.int p1), .val (.int p2), .val (.int p3), .unset, .unset, .unset, .unset, .unset, .unset, .unset] [(.int (1 : Int32)), (.int p1)])) (fun t_ k_ => XS.iconst X0.here hx rfl (hb hby at_1) k_) ?_
  refine Go.st (T' := s₁) (g' := (mkF m 3 #[.val (.int p1), .val (.int p2), .val (.int p3), .unset, .unset, .unset, .unset, .unset, .unset, .unset] [(.int (p1 &&& (1 : Int32)))])) (fun t_ k_ => XS.iand X0.here hx rfl (hb hby at_2) rfl k_) ?_
  by_cases hc3 : (p1 &&& (1 : Int32)) = (0 : Int32)
  · skip
    refine Go.st (T' := s₁) (g' := (mkF m 10 #[.val (.int p1), .val (.int p2), .val (.int p3), .unset, .unset, .unset, .unset, .unset, .unset, .unset] [])) (fun t_ k_ => XS.ifYes X0.here hx rfl (pc0 := 3) (pc' := 10) rfl (hb hby at_3) rfl ((if0 _ _).trans (teq hc3).1) (by decide) (by decide) k_) ?_
    refine Go.st (T' := s₁) (g' := (mkF m 11 #[.val (.int p1), .val (.int p2), .val (.int p3), .unset, .unset, .unset, .unset, .unset, .unset, .unset] [(.int (0 : Int32))])) (fun t_ k_ => XS.iconst X0.here hx rfl (hb hby at_10) k_) ?_
    refine Go.st (T' := s₁) (g' := (mkF m 12 #[.val (.int p1), .val (.int p2), .val (.int p3), .val (.int (0 : Int32)), .unset, .unset, .unset, .unset, .unset, .unset] [])) (fun t_ k_ => XS.istoreN X0.here hx rfl (hb hby at_11) rfl (l' := #[.val (.int p1), .val (.int p2), .val (.int p3), .val (.int (0 : Int32)), .unset, .unset, .unset, .unset, .unset, .unset]) rfl k_) ?_
    refine Go.st (T' := s₁) (g' := (mkF m 13 #[.val (.int p1), .val (.int p2), .val (.int p3), .val (.int (0 : Int32)), .unset, .unset, .unset, .unset, .unset, .unset] [(.int (0 : Int32))])) (fun t_ k_ => XS.iloadN X0.here hx rfl (hb hby at_12) rfl k_) ?_
    refine Go.st (T' := s₁) (g' := (mkF m 20 #[.val (.int p1), .val (.int p2), .val (.int p3), .val (.int (0 : Int32)), .unset, .unset, .unset, .unset, .unset, .unset] [])) (fun t_ k_ => XS.ifYes X0.here hx rfl (pc0 := 13) (pc' := 20) rfl (hb hby at_13) rfl (by decide) (by decide) (by decide) k_) ?_
    refine Go.st (T' := s₁) (g' := (mkF m 21 #[.val (.int p1), .val (.int p2), .val (.int p3), .val (.int (0 : Int32)), .unset, .unset, .unset, .unset, .unset, .unset] [(.int (1 : Int32))])) (fun t_ k_ => XS.iconst X0.here hx rfl (hb hby at_20) k_) ?_
    refine Go.st (T' := s₁) (g' := (mkF m 23 #[.val (.int p1), .val (.int p2), .val (.int p3), .val (.int (0 : Int32)), .val (.int (1 : Int32)), .unset, .unset, .unset, .unset, .unset] [])) (fun t_ k_ => XS.istore X0.here hx rfl (hb hby at_21) rfl (l' := #[.val (.int p1), .val (.int p2), .val (.int p3), .val (.int (0 : Int32)), .val (.int (1 : Int32)), .unset, .unset, .unset, .unset, .unset]) rfl k_) ?_
    refine goNew X0 hx hZ hown (hw _ (List.mem_of_getElem? (i := 0) rfl)) (hw _ (List.mem_of_getElem? (i := 1) rfl)) (hw _ (List.mem_of_getElem? (i := 2) rfl)) (hb hby at_23) (by decide) (by decide) fun T1 h1 ao gb1 X1 E1 A1 D1 => ?_
    have ge1 : n0 ≤ ao := gb1 ▸ sz0
    have f1_0 : Sta Z h1 "com/example/kenshinkit/kenshinkit/schema/ComplexType$Content" "EMPTY" "Lcom/example/kenshinkit/kenshinkit/schema/ComplexType$Content;" (.ref we) := g0.ext E1
    have sz1 : n0 ≤ h1.size := Nat.le_trans sz0 E1.1
    have F1_types : Fld Z h1 ao "com/example/kenshinkit/kenshinkit/schema/OpenElements" "types" "[Lcom/example/kenshinkit/kenshinkit/schema/SchemaType;" .null := D1 (Or.inl (hw _ (List.mem_of_getElem? (i := 12) rfl))) (ty := (.array (.object "com/example/kenshinkit/kenshinkit/schema/SchemaType"))) (by decide)
    have F1_states : Fld Z h1 ao "com/example/kenshinkit/kenshinkit/schema/OpenElements" "states" "[I" .null := D1 (Or.inl (hw _ (List.mem_of_getElem? (i := 15) rfl))) (ty := (.array .int)) (by decide)
    have F1_marks : Fld Z h1 ao "com/example/kenshinkit/kenshinkit/schema/OpenElements" "marks" "[I" .null := D1 (Or.inl (hw _ (List.mem_of_getElem? (i := 17) rfl))) (ty := (.array .int)) (by decide)
    have F1_prefixes : Fld Z h1 ao "com/example/kenshinkit/kenshinkit/schema/OpenElements" "prefixes" "[Ljava/lang/String;" .null := D1 (Or.inl (hw _ (List.mem_of_getElem? (i := 21) rfl))) (ty := (.array (.object "java/lang/String"))) (by decide)
    have F1_uris : Fld Z h1 ao "com/example/kenshinkit/kenshinkit/schema/OpenElements" "uris" "[Ljava/lang/String;" .null := D1 (Or.inl (hw _ (List.mem_of_getElem? (i := 23) rfl))) (ty := (.array (.object "java/lang/String"))) (by decide)
    have F1_keptValues : Fld Z h1 ao "com/example/kenshinkit/kenshinkit/schema/OpenElements" "keptValues" "[Ljava/lang/String;" .null := D1 (Or.inr (hw _ (List.mem_of_getElem? (i := 25) rfl))) (ty := (.array (.object "java/lang/String"))) (by decide)
    have F1_keptPrefixes : Fld Z h1 ao "com/example/kenshinkit/kenshinkit/schema/OpenElements" "keptPrefixes" "[Ljava/lang/String;" .null := D1 (Or.inr (hw _ (List.mem_of_getElem? (i := 27) rfl))) (ty := (.array (.object "java/lang/String"))) (by decide)
    have F1_keptNamespaces : Fld Z h1 ao "com/example/kenshinkit/kenshinkit/schema/OpenElements" "keptNamespaces" "[Ljava/lang/String;" .null := D1 (Or.inr (hw _ (List.mem_of_getElem? (i := 29) rfl))) (ty := (.array (.object "java/lang/String"))) (by decide)
    have F1_keptTypes : Fld Z h1 ao "com/example/kenshinkit/kenshinkit/schema/OpenElements" "keptTypes" "[Lcom/example/kenshinkit/kenshinkit/schema/SchemaType;" .null := D1 (Or.inr (hw _ (List.mem_of_getElem? (i := 31) rfl))) (ty := (.array (.object "com/example/kenshinkit/kenshinkit/schema/SchemaType"))) (by decide)
    have F1_depth : Fld Z h1 ao "com/example/kenshinkit/kenshinkit/schema/OpenElements" "depth" "I" (.int (0 : Int32)) := D1 (Or.inl (hw _ (List.mem_of_getElem? (i := 54) rfl))) (ty := .int) (by decide)
    have F1_boundary : Fld Z h1 ao "com/example/kenshinkit/kenshinkit/schema/OpenElements" "boundary" "I" (.int (0 : Int32)) := D1 (Or.inl (hw _ (List.mem_of_getElem? (i := 57) rfl))) (ty := .int) (by decide)
    have F1_bindings : Fld Z h1 ao "com/example/kenshinkit/kenshinkit/schema/OpenElements" "bindings" "I" (.int (0 : Int32)) := D1 (Or.inl (hw _ (List.mem_of_getElem? (i := 59) rfl))) (ty := .int) (by decide)
    show Go p e below _ T1 (mkF m 26 #[.val (.int p1), .val (.int p2), .val (.int p3), .val (.int (0 : Int32)), .val (.int (1 : Int32)), .unset, .unset, .unset, .unset, .unset] [(.ref ao)])
    refine Go.st (T' := T1) (g' := (mkF m 27 #[.val (.int p1), .val (.int p2), .val (.int p3), .val (.int (0 : Int32)), .val (.int (1 : Int32)), .unset, .unset, .unset, .unset, .unset] [(.ref ao), (.ref ao)])) (fun t_ k_ => XS.dup X1.here hx rfl (hb hby at_26) rfl rfl k_) ?_
    refine goCtor X1 hx hZ (y := (⟨"com/example/kenshinkit/kenshinkit/schema/OpenElements", "<init>", "()V"⟩ : MethodName)) rfl hown (hw _ (List.mem_of_getElem? (i := 3) rfl)) (hw _ (List.mem_of_getElem? (i := 4) rfl)) (hw _ (List.mem_of_getElem? (i := 2) rfl)) (hw _ (List.mem_of_getElem? (i := 5) rfl)) (by decide) (rm1 l Z a0 hw [] n0 h1 ao .null .null .null .null .null .null .null .null .null sz1 A1 F1_types F1_states F1_marks F1_prefixes F1_uris F1_keptValues F1_keptPrefixes F1_keptNamespaces F1_keptTypes F1_depth F1_boundary F1_bindings ge1) 1 (by decide) (by decide) (by rw [hml]; rfl) ao [] [(.ref ao)] (lenOf pd_0f51a560 rfl) rfl rfl rfl (hb hby at_27) (by decide) (by decide) fun v2 T2 h2 X2 hq2 => ?_
    obtain ⟨tA, sA, mA, rfl, K2c, p2_0, p2_1, p2_2, p2_3, p2_4, p2_5, p2_6, p2_7, p2_8, p2_9, p2_10, p2_11, p2_12, p2_13, p2_14, p2_15, p2_16, p2_17⟩ := hq2
    have f2_0 : Sta Z h2 "com/example/kenshinkit/kenshinkit/schema/ComplexType$Content" "EMPTY" "Lcom/example/kenshinkit/kenshinkit/schema/ComplexType$Content;" (.ref we) := sta_keep f1_0 K2c (allS ⟨_, A1⟩ all0)
    have f2_2 : Exa Z h2 ao "com/example/kenshinkit/kenshinkit/schema/OpenElements" := A1.keep K2c
    have sz2 : n0 ≤ h2.size := Nat.le_trans sz1 K2c.1
    show Go p e below _ T2 (mkF m 30 #[.val (.int p1), .val (.int p2), .val (.int p3), .val (.int (0 : Int32)), .val (.int (1 : Int32)), .unset, .unset, .unset, .unset, .unset] [(.ref ao)])
    refine Go.st (T' := T2) (g' := (mkF m 32 #[.val (.int p1), .val (.int p2), .val (.int p3), .val (.int (0 : Int32)), .val (.int (1 : Int32)), .val (.ref ao), .unset, .unset, .unset, .unset] [])) (fun t_ k_ => XS.astore X2.here hx rfl (hb hby at_30) rfl rfl (l' := #[.val (.int p1), .val (.int p2), .val (.int p3), .val (.int (0 : Int32)), .val (.int (1 : Int32)), .val (.ref ao), .unset, .unset, .unset, .unset]) rfl k_) ?_
    refine goNew X2 hx hZ hown (hw _ (List.mem_of_getElem? (i := 32) rfl)) (hw _ (List.mem_of_getElem? (i := 33) rfl)) (hw _ (List.mem_of_getElem? (i := 34) rfl)) (hb hby at_32) (by decide) (by decide) fun T3 h3 oA gb3 X3 E3 A3 D3 => ?_
    have ge3 : n0 ≤ oA := gb3 ▸ sz2
    have ne3_ao : ao ≠ oA := gb3 ▸ Nat.ne_of_lt p2_0.lt
    have ne3_tA : tA ≠ oA := gb3 ▸ Nat.ne_of_lt p2_7.lt
    have ne3_sA : sA ≠ oA := gb3 ▸ Nat.ne_of_lt p2_8.lt
    have ne3_mA : mA ≠ oA := gb3 ▸ Nat.ne_of_lt p2_9.lt
    have f3_0 : Sta Z h3 "com/example/kenshinkit/kenshinkit/schema/ComplexType$Content" "EMPTY" "Lcom/example/kenshinkit/kenshinkit/schema/ComplexType$Content;" (.ref we) := f2_0.ext E3
    have f3_2 : Exa Z h3 ao "com/example/kenshinkit/kenshinkit/schema/OpenElements" := p2_0.ext E3
    have f3_3 : Fld Z h3 ao "com/example/kenshinkit/kenshinkit/schema/OpenElements" "types" "[Lcom/example/kenshinkit/kenshinkit/schema/SchemaType;" (.ref tA) := p2_1.ext E3
    have f3_4 : Fld Z h3 ao "com/example/kenshinkit/kenshinkit/schema/OpenElements" "states" "[I" (.ref sA) := p2_2.ext E3
    have f3_5 : Fld Z h3 ao "com/example/kenshinkit/kenshinkit/schema/OpenElements" "marks" "[I" (.ref mA) := p2_3.ext E3
    have f3_6 : Fld Z h3 ao "com/example/kenshinkit/kenshinkit/schema/OpenElements" "depth" "I" (.int (0 : Int32)) := p2_4.ext E3
    have f3_7 : Fld Z h3 ao "com/example/kenshinkit/kenshinkit/schema/OpenElements" "boundary" "I" (.int (0 : Int32)) := p2_5.ext E3
    have f3_8 : Fld Z h3 ao "com/example/kenshinkit/kenshinkit/schema/OpenElements" "bindings" "I" (.int (0 : Int32)) := p2_6.ext E3
    have f3_9 : Exa Z h3 tA "[Lcom/example/kenshinkit/kenshinkit/schema/SchemaType;" := p2_7.ext E3
    have f3_10 : Exa Z h3 sA "[I" := p2_8.ext E3
    have f3_11 : Exa Z h3 mA "[I" := p2_9.ext E3
    have f3_12 : AO Z h3 tA "com/example/kenshinkit/kenshinkit/schema/SchemaType" := p2_10.ext E3
    have f3_13 : Ary Z h3 tA (.object "com/example/kenshinkit/kenshinkit/schema/SchemaType") 64 (fun _ => .null) := p2_11.ext E3
    have f3_14 : Ary Z h3 sA .int 64 (fun _ => .int 0) := p2_12.ext E3
    have f3_15 : Ary Z h3 mA .int 64 (fun _ => .int 0) := p2_13.ext E3
    have sz3 : n0 ≤ h3.size := Nat.le_trans sz2 E3.1
    have F3_content : Fld Z h3 oA "com/example/kenshinkit/kenshinkit/schema/ComplexType" "content" "Lcom/example/kenshinkit/kenshinkit/schema/ComplexType$Content;" .null := D3 (Or.inl (hw _ (List.mem_of_getElem? (i := 43) rfl))) (ty := (.object "com/example/kenshinkit/kenshinkit/schema/ComplexType$Content")) (by decide)
    have F3_uses : Fld Z h3 oA "com/example/kenshinkit/kenshinkit/schema/ComplexType" "uses" "[Lcom/example/kenshinkit/kenshinkit/schema/AttributeUse;" .null := D3 (Or.inl (hw _ (List.mem_of_getElem? (i := 47) rfl))) (ty := (.array (.object "com/example/kenshinkit/kenshinkit/schema/AttributeUse"))) (by decide)
    show Go p e below _ T3 (mkF m 35 #[.val (.int p1), .val (.int p2), .val (.int p3), .val (.int (0 : Int32)), .val (.int (1 : Int32)), .val (.ref ao), .unset, .unset, .unset, .unset] [(.ref oA)])
    refine Go.st (T' := T3) (g' := (mkF m 36 #[.val (.int p1), .val (.int p2), .val (.int p3), .val (.int (0 : Int32)), .val (.int (1 : Int32)), .val (.ref ao), .unset, .unset, .unset, .unset] [(.ref oA), (.ref oA)])) (fun t_ k_ => XS.dup X3.here hx rfl (hb hby at_35) rfl rfl k_) ?_
    refine goCtor X3 hx hZ (y := (⟨"com/example/kenshinkit/kenshinkit/schema/ComplexType", "<init>", "()V"⟩ : MethodName)) rfl hown (hw _ (List.mem_of_getElem? (i := 35) rfl)) (hw _ (List.mem_of_getElem? (i := 36) rfl)) (hw _ (List.mem_of_getElem? (i := 34) rfl)) (hw _ (List.mem_of_getElem? (i := 37) rfl)) (by decide) (rm3 l Z a0 hw [] n0 h3 oA .null .null we sz3 A3 F3_content F3_uses ge3 f3_0) 1 (by decide) (by decide) (by rw [hml]; rfl) oA [] [(.ref oA)] (lenOf pd_0f51a560 rfl) rfl rfl rfl (hb hby at_36) (by decide) (by decide) fun v4 T4 h4 X4 hq4 => ?_
    obtain ⟨rfl, K4c, p4_0⟩ := hq4
    have f4_0 : Sta Z h4 "com/example/kenshinkit/kenshinkit/schema/ComplexType$Content" "EMPTY" "Lcom/example/kenshinkit/kenshinkit/schema/ComplexType$Content;" (.ref we) := sta_keep f3_0 K4c (allS ⟨_, A3⟩ all0)
    have f4_2 : Exa Z h4 ao "com/example/kenshinkit/kenshinkit/schema/OpenElements" := f3_2.keep K4c
    have f4_3 : Fld Z h4 ao "com/example/kenshinkit/kenshinkit/schema/OpenElements" "types" "[Lcom/example/kenshinkit/kenshinkit/schema/SchemaType;" (.ref tA) := f3_3.keep K4c (ninS ne3_ao nin0)
    have f4_4 : Fld Z h4 ao "com/example/kenshinkit/kenshinkit/schema/OpenElements" "states" "[I" (.ref sA) := f3_4.keep K4c (ninS ne3_ao nin0)
    have f4_5 : Fld Z h4 ao "com/example/kenshinkit/kenshinkit/schema/OpenElements" "marks" "[I" (.ref mA) := f3_5.keep K4c (ninS ne3_ao nin0)
    have f4_6 : Fld Z h4 ao "com/example/kenshinkit/kenshinkit/schema/OpenElements" "depth" "I" (.int (0 : Int32)) := f3_6.keep K4c (ninS ne3_ao nin0)
    have f4_7 : Fld Z h4 ao "com/example/kenshinkit/kenshinkit/schema/OpenElements" "boundary" "I" (.int (0 : Int32)) := f3_7.keep K4c (ninS ne3_ao nin0)
    have f4_8 : Fld Z h4 ao "com/example/kenshinkit/kenshinkit/schema/OpenElements" "bindings" "I" (.int (0 : Int32)) := f3_8.keep K4c (ninS ne3_ao nin0)
    have f4_9 : Exa Z h4 tA "[Lcom/example/kenshinkit/kenshinkit/schema/SchemaType;" := f3_9.keep K4c
    have f4_10 : Exa Z h4 sA "[I" := f3_10.keep K4c
    have f4_11 : Exa Z h4 mA "[I" := f3_11.keep K4c
    have f4_12 : AO Z h4 tA "com/example/kenshinkit/kenshinkit/schema/SchemaType" := f3_12.keep K4c
    have f4_13 : Ary Z h4 tA (.object "com/example/kenshinkit/kenshinkit/schema/SchemaType") 64 (fun _ => .null) := f3_13.keep K4c (ninS ne3_tA nin0)
    have f4_14 : Ary Z h4 sA .int 64 (fun _ => .int 0) := f3_14.keep K4c (ninS ne3_sA nin0)
    have f4_15 : Ary Z h4 mA .int 64 (fun _ => .int 0) := f3_15.keep K4c (ninS ne3_mA nin0)
    have f4_25 : Exa Z h4 oA "com/example/kenshinkit/kenshinkit/schema/ComplexType" := A3.keep K4c
    have sz4 : n0 ≤ h4.size := Nat.le_trans sz3 K4c.1
    show Go p e below _ T4 (mkF m 39 #[.val (.int p1), .val (.int p2), .val (.int p3), .val (.int (0 : Int32)), .val (.int (1 : Int32)), .val (.ref ao), .unset, .unset, .unset, .unset] [(.ref oA)])
    refine Go.st (T' := T4) (g' := (mkF m 41 #[.val (.int p1), .val (.int p2), .val (.int p3), .val (.int (0 : Int32)), .val (.int (1 : Int32)), .val (.ref ao), .val (.ref oA), .unset, .unset, .unset] [])) (fun t_ k_ => XS.astore X4.here hx rfl (hb hby at_39) rfl rfl (l' := #[.val (.int p1), .val (.int p2), .val (.int p3), .val (.int (0 : Int32)), .val (.int (1 : Int32)), .val (.ref ao), .val (.ref oA), .unset, .unset, .unset]) rfl k_) ?_
    refine goNew X4 hx hZ hown (hw _ (List.mem_of_getElem? (i := 32) rfl)) (hw _ (List.mem_of_getElem? (i := 33) rfl)) (hw _ (List.mem_of_getElem? (i := 34) rfl)) (hb hby at_41) (by decide) (by decide) fun T5 h5 oB gb5 X5 E5 A5 D5 => ?_
    have ge5 : n0 ≤ oB := gb5 ▸ sz4
    have ne5_ao : ao ≠ oB := gb5 ▸ Nat.ne_of_lt f4_2.lt
    have ne5_tA : tA ≠ oB := gb5 ▸ Nat.ne_of_lt f4_9.lt
    have ne5_sA : sA ≠ oB := gb5 ▸ Nat.ne_of_lt f4_10.lt
    have ne5_mA : mA ≠ oB := gb5 ▸ Nat.ne_of_lt f4_11.lt
    have ne5_oA : oA ≠ oB := gb5 ▸ Nat.ne_of_lt p4_0.lt
    have f5_0 : Sta Z h5 "com/example/kenshinkit/kenshinkit/schema/ComplexType$Content" "EMPTY" "Lcom/example/kenshinkit/kenshinkit/schema/ComplexType$Content;" (.ref we) := f4_0.ext E5
    have f5_2 : Exa Z h5 ao "com/example/kenshinkit/kenshinkit/schema/OpenElements" := f4_2.ext E5
    have f5_3 : Fld Z h5 ao "com/example/kenshinkit/kenshinkit/schema/OpenElements" "types" "[Lcom/example/kenshinkit/kenshinkit/schema/SchemaType;" (.ref tA) := f4_3.ext E5
    have f5_4 : Fld Z h5 ao "com/example/kenshinkit/kenshinkit/schema/OpenElements" "states" "[I" (.ref sA) := f4_4.ext E5
    have f5_5 : Fld Z h5 ao "com/example/kenshinkit/kenshinkit/schema/OpenElements" "marks" "[I" (.ref mA) := f4_5.ext E5
    have f5_6 : Fld Z h5 ao "com/example/kenshinkit/kenshinkit/schema/OpenElements" "depth" "I" (.int (0 : Int32)) := f4_6.ext E5
    have f5_7 : Fld Z h5 ao "com/example/kenshinkit/kenshinkit/schema/OpenElements" "boundary" "I" (.int (0 : Int32)) := f4_7.ext E5
    have f5_8 : Fld Z h5 ao "com/example/kenshinkit/kenshinkit/schema/OpenElements" "bindings" "I" (.int (0 : Int32)) := f4_8.ext E5
    have f5_9 : Exa Z h5 tA "[Lcom/example/kenshinkit/kenshinkit/schema/SchemaType;" := f4_9.ext E5
    have f5_10 : Exa Z h5 sA "[I" := f4_10.ext E5
    have f5_11 : Exa Z h5 mA "[I" := f4_11.ext E5
    have f5_12 : AO Z h5 tA "com/example/kenshinkit/kenshinkit/schema/SchemaType" := f4_12.ext E5
    have f5_13 : Ary Z h5 tA (.object "com/example/kenshinkit/kenshinkit/schema/SchemaType") 64 (fun _ => .null) := f4_13.ext E5
    have f5_14 : Ary Z h5 sA .int 64 (fun _ => .int 0) := f4_14.ext E5
    have f5_15 : Ary Z h5 mA .int 64 (fun _ => .int 0) := f4_15.ext E5
    have f5_25 : Exa Z h5 oA "com/example/kenshinkit/kenshinkit/schema/ComplexType" := p4_0.ext E5
    have sz5 : n0 ≤ h5.size := Nat.le_trans sz4 E5.1
    have F5_content : Fld Z h5 oB "com/example/kenshinkit/kenshinkit/schema/ComplexType" "content" "Lcom/example/kenshinkit/kenshinkit/schema/ComplexType$Content;" .null := D5 (Or.inl (hw _ (List.mem_of_getElem? (i := 43) rfl))) (ty := (.object "com/example/kenshinkit/kenshinkit/schema/ComplexType$Content")) (by decide)
    have F5_uses : Fld Z h5 oB "com/example/kenshinkit/kenshinkit/schema/ComplexType" "uses" "[Lcom/example/kenshinkit/kenshinkit/schema/AttributeUse;" .null := D5 (Or.inl (hw _ (List.mem_of_getElem? (i := 47) rfl))) (ty := (.array (.object "com/example/kenshinkit/kenshinkit/schema/AttributeUse"))) (by decide)
    show Go p e below _ T5 (mkF m 44 #[.val (.int p1), .val (.int p2), .val (.int p3), .val (.int (0 : Int32)), .val (.int (1 : Int32)), .val (.ref ao), .val (.ref oA), .unset, .unset, .unset] [(.ref oB)])
    refine Go.st (T' := T5) (g' := (mkF m 45 #[.val (.int p1), .val (.int p2), .val (.int p3), .val (.int (0 : Int32)), .val (.int (1 : Int32)), .val (.ref ao), .val (.ref oA), .unset, .unset, .unset] [(.ref oB), (.ref oB)])) (fun t_ k_ => XS.dup X5.here hx rfl (hb hby at_44) rfl rfl k_) ?_
    refine goCtor X5 hx hZ (y := (⟨"com/example/kenshinkit/kenshinkit/schema/ComplexType", "<init>", "()V"⟩ : MethodName)) rfl hown (hw _ (List.mem_of_getElem? (i := 35) rfl)) (hw _ (List.mem_of_getElem? (i := 36) rfl)) (hw _ (List.mem_of_getElem? (i := 34) rfl)) (hw _ (List.mem_of_getElem? (i := 37) rfl)) (by decide) (rm3 l Z a0 hw [] n0 h5 oB .null .null we sz5 A5 F5_content F5_uses ge5 f5_0) 1 (by decide) (by decide) (by rw [hml]; rfl) oB [] [(.ref oB)] (lenOf pd_0f51a560 rfl) rfl rfl rfl (hb hby at_45) (by decide) (by decide) fun v6 T6 h6 X6 hq6 => ?_
    obtain ⟨rfl, K6c, p6_0⟩ := hq6
    have f6_0 : Sta Z h6 "com/example/kenshinkit/kenshinkit/schema/ComplexType$Content" "EMPTY" "Lcom/example/kenshinkit/kenshinkit/schema/ComplexType$Content;" (.ref we) := sta_keep f5_0 K6c (allS ⟨_, A5⟩ all0)
    have f6_2 : Exa Z h6 ao "com/example/kenshinkit/kenshinkit/schema/OpenElements" := f5_2.keep K6c
    have f6_3 : Fld Z h6 ao "com/example/kenshinkit/kenshinkit/schema/OpenElements" "types" "[Lcom/example/kenshinkit/kenshinkit/schema/SchemaType;" (.ref tA) := f5_3.keep K6c (ninS ne5_ao nin0)
    have f6_4 : Fld Z h6 ao "com/example/kenshinkit/kenshinkit/schema/OpenElements" "states" "[I" (.ref sA) := f5_4.keep K6c (ninS ne5_ao nin0)
    have f6_5 : Fld Z h6 ao "com/example/kenshinkit/kenshinkit/schema/OpenElements" "marks" "[I" (.ref mA) := f5_5.keep K6c (ninS ne5_ao nin0)
    have f6_6 : Fld Z h6 ao "com/example/kenshinkit/kenshinkit/schema/OpenElements" "depth" "I" (.int (0 : Int32)) := f5_6.keep K6c (ninS ne5_ao nin0)
    have f6_7 : Fld Z h6 ao "com/example/kenshinkit/kenshinkit/schema/OpenElements" "boundary" "I" (.int (0 : Int32)) := f5_7.keep K6c (ninS ne5_ao nin0)
    have f6_8 : Fld Z h6 ao "com/example/kenshinkit/kenshinkit/schema/OpenElements" "bindings" "I" (.int (0 : Int32)) := f5_8.keep K6c (ninS ne5_ao nin0)
    have f6_9 : Exa Z h6 tA "[Lcom/example/kenshinkit/kenshinkit/schema/SchemaType;" := f5_9.keep K6c
    have f6_10 : Exa Z h6 sA "[I" := f5_10.keep K6c
    have f6_11 : Exa Z h6 mA "[I" := f5_11.keep K6c
    have f6_12 : AO Z h6 tA "com/example/kenshinkit/kenshinkit/schema/SchemaType" := f5_12.keep K6c
    have f6_13 : Ary Z h6 tA (.object "com/example/kenshinkit/kenshinkit/schema/SchemaType") 64 (fun _ => .null) := f5_13.keep K6c (ninS ne5_tA nin0)
    have f6_14 : Ary Z h6 sA .int 64 (fun _ => .int 0) := f5_14.keep K6c (ninS ne5_sA nin0)
    have f6_15 : Ary Z h6 mA .int 64 (fun _ => .int 0) := f5_15.keep K6c (ninS ne5_mA nin0)
    have f6_25 : Exa Z h6 oA "com/example/kenshinkit/kenshinkit/schema/ComplexType" := f5_25.keep K6c
    have f6_32 : Exa Z h6 oB "com/example/kenshinkit/kenshinkit/schema/ComplexType" := A5.keep K6c
    have sz6 : n0 ≤ h6.size := Nat.le_trans sz5 K6c.1
    show Go p e below _ T6 (mkF m 48 #[.val (.int p1), .val (.int p2), .val (.int p3), .val (.int (0 : Int32)), .val (.int (1 : Int32)), .val (.ref ao), .val (.ref oA), .unset, .unset, .unset] [(.ref oB)])
    refine Go.st (T' := T6) (g' := (mkF m 50 #[.val (.int p1), .val (.int p2), .val (.int p3), .val (.int (0 : Int32)), .val (.int (1 : Int32)), .val (.ref ao), .val (.ref oA), .val (.ref oB), .unset, .unset] [])) (fun t_ k_ => XS.astore X6.here hx rfl (hb hby at_48) rfl rfl (l' := #[.val (.int p1), .val (.int p2), .val (.int p3), .val (.int (0 : Int32)), .val (.int (1 : Int32)), .val (.ref ao), .val (.ref oA), .val (.ref oB), .unset, .unset]) rfl k_) ?_
    refine Go.st (T' := T6) (g' := (mkF m 52 #[.val (.int p1), .val (.int p2), .val (.int p3), .val (.int (0 : Int32)), .val (.int (1 : Int32)), .val (.ref ao), .val (.ref oA), .val (.ref oB), .unset, .unset] [(.ref ao)])) (fun t_ k_ => XS.aload X6.here hx rfl (hb hby at_50) rfl rfl k_) ?_
    refine Go.st (T' := T6) (g' := (mkF m 54 #[.val (.int p1), .val (.int p2), .val (.int p3), .val (.int (0 : Int32)), .val (.int (1 : Int32)), .val (.ref ao), .val (.ref oA), .val (.ref oB), .unset, .unset] [(.ref oA), (.ref ao)])) (fun t_ k_ => XS.aload X6.here hx rfl (hb hby at_52) rfl rfl k_) ?_
    refine goVirtS X6 hx hZ (y := (⟨"com/example/kenshinkit/kenshinkit/schema/OpenElements", "push", "(Lcom/example/kenshinkit/kenshinkit/schema/SchemaType;)V"⟩ : MethodName)) hown (hw _ (List.mem_of_getElem? (i := 48) rfl)) (hw _ (List.mem_of_getElem? (i := 49) rfl)) (hw _ (List.mem_of_getElem? (i := 51) rfl)) (hw _ (List.mem_of_getElem? (i := 50) rfl)) (hw _ (List.mem_of_getElem? (i := 2) rfl)) (hw _ (List.mem_of_getElem? (i := 52) rfl)) (by decide) f6_2 (rm4 l Z a0 hw [] n0 h6 ao oA tA sA mA (0 : Int32) (0 : Int32) (0 : Int32) (fun _ => .null) (fun _ => 0) (fun _ => 0) sz6 f6_2 f6_25 f6_3 f6_4 f6_5 f6_6 f6_7 f6_8 f6_9 f6_10 f6_11 f6_12 f6_13 f6_14 f6_15 p2_14 ge1 p2_15 p2_16 p2_17 (by decide) (by decide)) 0 (by decide) (by decide) (by rw [hml]; rfl) [(.ref oA)] [] (lenOf pd_b9a6f732 rfl) rfl rfl rfl (hb hby at_54) (by decide) (by decide) fun v7 T7 h7 X7 hq7 => ?_
    obtain ⟨rfl, K7c, p7_0, p7_1, p7_2, p7_3, p7_4, p7_5, p7_6, p7_7, p7_8, p7_9, p7_10, p7_11, p7_12, p7_13⟩ := hq7
    have f7_0 : Sta Z h7 "com/example/kenshinkit/kenshinkit/schema/ComplexType$Content" "EMPTY" "Lcom/example/kenshinkit/kenshinkit/schema/ComplexType$Content;" (.ref we) := sta_keep f6_0 K7c (allS ⟨_, f6_2⟩ (allS ⟨_, f6_9⟩ (allS ⟨_, f6_10⟩ (allS ⟨_, f6_11⟩ all0))))
    have f7_2 : Exa Z h7 ao "com/example/kenshinkit/kenshinkit/schema/OpenElements" := f6_2.keep K7c
    have f7_3 : Exa Z h7 tA "[Lcom/example/kenshinkit/kenshinkit/schema/SchemaType;" := f6_9.keep K7c
    have f7_4 : Exa Z h7 sA "[I" := f6_10.keep K7c
    have f7_5 : Exa Z h7 mA "[I" := f6_11.keep K7c
    have f7_6 : AO Z h7 tA "com/example/kenshinkit/kenshinkit/schema/SchemaType" := f6_12.keep K7c
    have f7_16 : Exa Z h7 oA "com/example/kenshinkit/kenshinkit/schema/ComplexType" := f6_25.keep K7c
    have f7_23 : Exa Z h7 oB "com/example/kenshinkit/kenshinkit/schema/ComplexType" := p6_0.keep K7c
    have sz7 : n0 ≤ h7.size := Nat.le_trans sz6 K7c.1
    show Go p e below _ T7 (mkF m 57 #[.val (.int p1), .val (.int p2), .val (.int p3), .val (.int (0 : Int32)), .val (.int (1 : Int32)), .val (.ref ao), .val (.ref oA), .val (.ref oB), .unset, .unset] [])
    refine Go.st (T' := T7) (g' := (mkF m 59 #[.val (.int p1), .val (.int p2), .val (.int p3), .val (.int (0 : Int32)), .val (.int (1 : Int32)), .val (.ref ao), .val (.ref oA), .val (.ref oB), .unset, .unset] [(.ref ao)])) (fun t_ k_ => XS.aload X7.here hx rfl (hb hby at_57) rfl rfl k_) ?_
    refine Go.st (T' := T7) (g' := (mkF m 60 #[.val (.int p1), .val (.int p2), .val (.int p3), .val (.int (0 : Int32)), .val (.int (1 : Int32)), .val (.ref ao), .val (.ref oA), .val (.ref oB), .unset, .unset] [(.int (0 : Int32)), (.ref ao)])) (fun t_ k_ => XS.iconst X7.here hx rfl (hb hby at_59) k_) ?_
    refine Go.st (T' := T7) (g' := (mkF m 61 #[.val (.int p1), .val (.int p2), .val (.int p3), .val (.int (0 : Int32)), .val (.int (1 : Int32)), .val (.ref ao), .val (.ref oA), .val (.ref oB), .unset, .unset] [(.int p2), (.int (0 : Int32)), (.ref ao)])) (fun t_ k_ => XS.iloadN X7.here hx rfl (hb hby at_60) rfl k_) ?_
    refine goVirtS X7 hx hZ (y := (⟨"com/example/kenshinkit/kenshinkit/schema/OpenElements", "setState", "(II)V"⟩ : MethodName)) hown (hw _ (List.mem_of_getElem? (i := 60) rfl)) (hw _ (List.mem_of_getElem? (i := 61) rfl)) (hw _ (List.mem_of_getElem? (i := 63) rfl)) (hw _ (List.mem_of_getElem? (i := 62) rfl)) (hw _ (List.mem_of_getElem? (i := 2) rfl)) (hw _ (List.mem_of_getElem? (i := 64) rfl)) (by decide) p7_0 (rm5 l Z a0 hw [] n0 h7 ao (0 : Int32) p2 sA (fun i => (if i = ((0 : Int32)).toNatClampNeg then (0 : Int32) else (fun _ => 0) i)) sz7 p7_0 p7_2 p7_8 p7_12 p2_16 (by decide)) 0 (by decide) (by decide) (by rw [hml]; rfl) [(.int (0 : Int32)), (.int p2)] [] (lenOf pd_688a590a rfl) rfl rfl rfl (hb hby at_61) (by decide) (by decide) fun v8 T8 h8 X8 hq8 => ?_
    obtain ⟨rfl, K8c, p8_0⟩ := hq8
    have f8_0 : Sta Z h8 "com/example/kenshinkit/kenshinkit/schema/ComplexType$Content" "EMPTY" "Lcom/example/kenshinkit/kenshinkit/schema/ComplexType$Content;" (.ref we) := sta_keep f7_0 K8c (allS ⟨_, p7_8⟩ all0)
    have f8_2 : Exa Z h8 ao "com/example/kenshinkit/kenshinkit/schema/OpenElements" := p7_0.keep K8c
    have f8_3 : Exa Z h8 tA "[Lcom/example/kenshinkit/kenshinkit/schema/SchemaType;" := p7_7.keep K8c
    have f8_4 : Exa Z h8 sA "[I" := p7_8.keep K8c
    have f8_5 : Exa Z h8 mA "[I" := p7_9.keep K8c
    have f8_6 : AO Z h8 tA "com/example/kenshinkit/kenshinkit/schema/SchemaType" := p7_10.keep K8c
    have f8_16 : Exa Z h8 oA "com/example/kenshinkit/kenshinkit/schema/ComplexType" := f7_16.keep K8c
    have f8_23 : Exa Z h8 oB "com/example/kenshinkit/kenshinkit/schema/ComplexType" := f7_23.keep K8c
    have f8_24 : Fld Z h8 ao "com/example/kenshinkit/kenshinkit/schema/OpenElements" "types" "[Lcom/example/kenshinkit/kenshinkit/schema/SchemaType;" (.ref tA) := p7_1.keep K8c (ninS (ne_exa p7_0 p7_8 (by decide)) nin0)
    have f8_25 : Fld Z h8 ao "com/example/kenshinkit/kenshinkit/schema/OpenElements" "states" "[I" (.ref sA) := p7_2.keep K8c (ninS (ne_exa p7_0 p7_8 (by decide)) nin0)
    have f8_26 : Fld Z h8 ao "com/example/kenshinkit/kenshinkit/schema/OpenElements" "marks" "[I" (.ref mA) := p7_3.keep K8c (ninS (ne_exa p7_0 p7_8 (by decide)) nin0)
    have f8_27 : Fld Z h8 ao "com/example/kenshinkit/kenshinkit/schema/OpenElements" "depth" "I" (.int ((0 : Int32) + (1 : Int32))) := p7_4.keep K8c (ninS (ne_exa p7_0 p7_8 (by decide)) nin0)
    have f8_28 : Fld Z h8 ao "com/example/kenshinkit/kenshinkit/schema/OpenElements" "boundary" "I" (.int (0 : Int32)) := p7_5.keep K8c (ninS (ne_exa p7_0 p7_8 (by decide)) nin0)
    have f8_29 : Fld Z h8 ao "com/example/kenshinkit/kenshinkit/schema/OpenElements" "bindings" "I" (.int (0 : Int32)) := p7_6.keep K8c (ninS (ne_exa p7_0 p7_8 (by decide)) nin0)
    have f8_30 : Ary Z h8 tA (.object "com/example/kenshinkit/kenshinkit/schema/SchemaType") 64 (fun i => if i = ((0 : Int32)).toNatClampNeg then (.ref oA) else (fun _ => .null) i) := p7_11.keep K8c (ninS (ne_exa p7_7 p7_8 (by decide)) nin0)
    have f8_31 : Ary Z h8 mA .int 64 (fun i => .int (if i = ((0 : Int32)).toNatClampNeg then (0 : Int32) else (fun _ => 0) i)) := p7_13.keep K8c (ninS p2_14.symm nin0)
    have sz8 : n0 ≤ h8.size := Nat.le_trans sz7 K8c.1
    show Go p e below _ T8 (mkF m 64 #[.val (.int p1), .val (.int p2), .val (.int p3), .val (.int (0 : Int32)), .val (.int (1 : Int32)), .val (.ref ao), .val (.ref oA), .val (.ref oB), .unset, .unset] [])
    refine Go.st (T' := T8) (g' := (mkF m 65 #[.val (.int p1), .val (.int p2), .val (.int p3), .val (.int (0 : Int32)), .val (.int (1 : Int32)), .val (.ref ao), .val (.ref oA), .val (.ref oB), .unset, .unset] [(.int (0 : Int32))])) (fun t_ k_ => XS.iloadN X8.here hx rfl (hb hby at_64) rfl k_) ?_
    refine Go.st (T' := T8) (g' := (mkF m 82 #[.val (.int p1), .val (.int p2), .val (.int p3), .val (.int (0 : Int32)), .val (.int (1 : Int32)), .val (.ref ao), .val (.ref oA), .val (.ref oB), .unset, .unset] [])) (fun t_ k_ => XS.ifYes X8.here hx rfl (pc0 := 65) (pc' := 82) rfl (hb hby at_65) rfl (by decide) (by decide) (by decide) k_) ?_
    refine Go.st (T' := T8) (g' := (mkF m 84 #[.val (.int p1), .val (.int p2), .val (.int p3), .val (.int (0 : Int32)), .val (.int (1 : Int32)), .val (.ref ao), .val (.ref oA), .val (.ref oB), .unset, .unset] [(.ref ao)])) (fun t_ k_ => XS.aload X8.here hx rfl (hb hby at_82) rfl rfl k_) ?_
    refine goVirtS X8 hx hZ (y := (⟨"com/example/kenshinkit/kenshinkit/schema/OpenElements", "pop", "()V"⟩ : MethodName)) hown (hw _ (List.mem_of_getElem? (i := 65) rfl)) (hw _ (List.mem_of_getElem? (i := 66) rfl)) (hw _ (List.mem_of_getElem? (i := 68) rfl)) (hw _ (List.mem_of_getElem? (i := 67) rfl)) (hw _ (List.mem_of_getElem? (i := 2) rfl)) (hw _ (List.mem_of_getElem? (i := 69) rfl)) (by decide) f8_2 (rm6 l Z a0 hw [] n0 h8 ao tA sA mA ((0 : Int32) + (1 : Int32)) (0 : Int32) (0 : Int32) (fun i => (if i = ((0 : Int32)).toNatClampNeg then (0 : Int32) else (fun _ => 0) i)) sz8 f8_2 f8_26 f8_27 f8_28 f8_29 f8_5 f8_31 ge1 f8_24 f8_25 (by decide)) 0 (by decide) (by decide) (by rw [hml]; rfl) [] [] (lenOf pd_0f51a560 rfl) rfl rfl rfl (hb hby at_84) (by decide) (by decide) fun v9 T9 h9 X9 hq9 => ?_
    obtain ⟨rfl, K9c, p9_0, p9_1, p9_2, p9_3, p9_4, p9_5, p9_6⟩ := hq9
    have f9_0 : Sta Z h9 "com/example/kenshinkit/kenshinkit/schema/ComplexType$Content" "EMPTY" "Lcom/example/kenshinkit/kenshinkit/schema/ComplexType$Content;" (.ref we) := sta_keep f8_0 K9c (allS ⟨_, f8_2⟩ all0)
    have f9_2 : Exa Z h9 ao "com/example/kenshinkit/kenshinkit/schema/OpenElements" := f8_2.keep K9c
    have f9_3 : Exa Z h9 tA "[Lcom/example/kenshinkit/kenshinkit/schema/SchemaType;" := f8_3.keep K9c
    have f9_4 : Exa Z h9 sA "[I" := f8_4.keep K9c
    have f9_5 : Exa Z h9 mA "[I" := f8_5.keep K9c
    have f9_6 : AO Z h9 tA "com/example/kenshinkit/kenshinkit/schema/SchemaType" := f8_6.keep K9c
    have f9_16 : Exa Z h9 oA "com/example/kenshinkit/kenshinkit/schema/ComplexType" := f8_16.keep K9c
    have f9_23 : Exa Z h9 oB "com/example/kenshinkit/kenshinkit/schema/ComplexType" := f8_23.keep K9c
    have f9_24 : Ary Z h9 tA (.object "com/example/kenshinkit/kenshinkit/schema/SchemaType") 64 (fun i => if i = ((0 : Int32)).toNatClampNeg then (.ref oA) else (fun _ => .null) i) := f8_30.keep K9c (ninS (ne_exa f8_3 f8_2 (by decide)) nin0)
    have f9_25 : Ary Z h9 mA .int 64 (fun i => .int (if i = ((0 : Int32)).toNatClampNeg then (0 : Int32) else (fun _ => 0) i)) := f8_31.keep K9c (ninS (ne_exa f8_5 f8_2 (by decide)) nin0)
    have f9_26 : Ary Z h9 sA .int 64 (fun i => .int (if i = ((0 : Int32)).toNatClampNeg then p2 else (fun i => (if i = ((0 : Int32)).toNatClampNeg then (0 : Int32) else (fun _ => 0) i)) i)) := p8_0.keep K9c (ninS (ne_exa f8_4 f8_2 (by decide)) nin0)
    have sz9 : n0 ≤ h9.size := Nat.le_trans sz8 K9c.1
    show Go p e below _ T9 (mkF m 87 #[.val (.int p1), .val (.int p2), .val (.int p3), .val (.int (0 : Int32)), .val (.int (1 : Int32)), .val (.ref ao), .val (.ref oA), .val (.ref oB), .unset, .unset] [])
    refine Go.st (T' := T9) (g' := (mkF m 89 #[.val (.int p1), .val (.int p2), .val (.int p3), .val (.int (0 : Int32)), .val (.int (1 : Int32)), .val (.ref ao), .val (.ref oA), .val (.ref oB), .unset, .unset] [(.ref ao)])) (fun t_ k_ => XS.aload X9.here hx rfl (hb hby at_87) rfl rfl k_) ?_
    refine goVirtS X9 hx hZ (y := (⟨"com/example/kenshinkit/kenshinkit/schema/OpenElements", "depth", "()I"⟩ : MethodName)) hown (hw _ (List.mem_of_getElem? (i := 70) rfl)) (hw _ (List.mem_of_getElem? (i := 71) rfl)) (hw _ (List.mem_of_getElem? (i := 73) rfl)) (hw _ (List.mem_of_getElem? (i := 72) rfl)) (hw _ (List.mem_of_getElem? (i := 2) rfl)) (hw _ (List.mem_of_getElem? (i := 74) rfl)) (by decide) p9_0 (rm7 l Z a0 hw [] n0 h9 ao (((0 : Int32) + (1 : Int32)) - (1 : Int32)) sz9 p9_1) 0 (by decide) (by decide) (by rw [hml]; rfl) [] [] (lenOf pd_8259a895 rfl) rfl rfl rfl (hb hby at_89) (by decide) (by decide) fun v10 T10 h10 X10 hq10 => ?_
    obtain ⟨rfl, eh10⟩ := hq10
    rw [eh10] at X10
    show Go p e below _ T10 (mkF m 92 #[.val (.int p1), .val (.int p2), .val (.int p3), .val (.int (0 : Int32)), .val (.int (1 : Int32)), .val (.ref ao), .val (.ref oA), .val (.ref oB), .unset, .unset] [(.int (((0 : Int32) + (1 : Int32)) - (1 : Int32)))])
    refine Go.st (T' := T10) (g' := (mkF m 94 #[.val (.int p1), .val (.int p2), .val (.int p3), .val (.int (0 : Int32)), .val (.int (1 : Int32)), .val (.ref ao), .val (.ref oA), .val (.ref oB), .unset, .unset] [(.int (1 : Int32)), (.int (((0 : Int32) + (1 : Int32)) - (1 : Int32)))])) (fun t_ k_ => XS.iload X10.here hx rfl (hb hby at_92) rfl k_) ?_
    refine Go.st (T' := T10) (g' := (mkF m 95 #[.val (.int p1), .val (.int p2), .val (.int p3), .val (.int (0 : Int32)), .val (.int (1 : Int32)), .val (.ref ao), .val (.ref oA), .val (.ref oB), .unset, .unset] [(.int (1 : Int32)), (.int (1 : Int32)), (.int (((0 : Int32) + (1 : Int32)) - (1 : Int32)))])) (fun t_ k_ => XS.iconst X10.here hx rfl (hb hby at_94) k_) ?_
    refine Go.st (T' := T10) (g' := (mkF m 96 #[.val (.int p1), .val (.int p2), .val (.int p3), .val (.int (0 : Int32)), .val (.int (1 : Int32)), .val (.ref ao), .val (.ref oA), .val (.ref oB), .unset, .unset] [(.int ((1 : Int32) - (1 : Int32))), (.int (((0 : Int32) + (1 : Int32)) - (1 : Int32)))])) (fun t_ k_ => XS.isub X10.here hx rfl (hb hby at_95) rfl k_) ?_
    have hc96 : (((0 : Int32) + (1 : Int32)) - (1 : Int32)) = ((1 : Int32) - (1 : Int32)) := rfl
    refine Go.st (T' := T10) (g' := (mkF m 99 #[.val (.int p1), .val (.int p2), .val (.int p3), .val (.int (0 : Int32)), .val (.int (1 : Int32)), .val (.ref ao), .val (.ref oA), .val (.ref oB), .unset, .unset] [])) (fun t_ k_ => XS.icmpNo X10.here hx rfl (hb hby at_96) rfl (teq hc96).2 k_) ?_
    refine Go.st (T' := T10) (g' := (mkF m 100 #[.val (.int p1), .val (.int p2), .val (.int p3), .val (.int (0 : Int32)), .val (.int (1 : Int32)), .val (.ref ao), .val (.ref oA), .val (.ref oB), .unset, .unset] [(.int (1 : Int32))])) (fun t_ k_ => XS.iconst X10.here hx rfl (hb hby at_99) k_) ?_
    refine Go.st (T' := T10) (g' := (mkF m 104 #[.val (.int p1), .val (.int p2), .val (.int p3), .val (.int (0 : Int32)), .val (.int (1 : Int32)), .val (.ref ao), .val (.ref oA), .val (.ref oB), .unset, .unset] [(.int (1 : Int32))])) (fun t_ k_ => XS.goto X10.here hx rfl (pc0 := 100) (pc' := 104) rfl (hb hby at_100) (by decide) (by decide) k_) ?_
    refine Go.st (T' := T10) (g' := (mkF m 106 #[.val (.int p1), .val (.int p2), .val (.int p3), .val (.int (0 : Int32)), .val (.int (1 : Int32)), .val (.ref ao), .val (.ref oA), .val (.ref oB), .val (.int (1 : Int32)), .unset] [])) (fun t_ k_ => XS.istore X10.here hx rfl (hb hby at_104) rfl (l' := #[.val (.int p1), .val (.int p2), .val (.int p3), .val (.int (0 : Int32)), .val (.int (1 : Int32)), .val (.ref ao), .val (.ref oA), .val (.ref oB), .val (.int (1 : Int32)), .unset]) rfl k_) ?_
    refine Go.st (T' := T10) (g' := (mkF m 107 #[.val (.int p1), .val (.int p2), .val (.int p3), .val (.int (0 : Int32)), .val (.int (1 : Int32)), .val (.ref ao), .val (.ref oA), .val (.ref oB), .val (.int (1 : Int32)), .unset] [(.int (0 : Int32))])) (fun t_ k_ => XS.iloadN X10.here hx rfl (hb hby at_106) rfl k_) ?_
    refine Go.st (T' := T10) (g' := (mkF m 143 #[.val (.int p1), .val (.int p2), .val (.int p3), .val (.int (0 : Int32)), .val (.int (1 : Int32)), .val (.ref ao), .val (.ref oA), .val (.ref oB), .val (.int (1 : Int32)), .unset] [])) (fun t_ k_ => XS.ifYes X10.here hx rfl (pc0 := 107) (pc' := 143) rfl (hb hby at_107) rfl (by decide) (by decide) (by decide) k_) ?_
    refine Go.st (T' := T10) (g' := (mkF m 144 #[.val (.int p1), .val (.int p2), .val (.int p3), .val (.int (0 : Int32)), .val (.int (1 : Int32)), .val (.ref ao), .val (.ref oA), .val (.ref oB), .val (.int (1 : Int32)), .unset] [(.int (0 : Int32))])) (fun t_ k_ => XS.iloadN X10.here hx rfl (hb hby at_143) rfl k_) ?_
    refine Go.st (T' := T10) (g' := (mkF m 152 #[.val (.int p1), .val (.int p2), .val (.int p3), .val (.int (0 : Int32)), .val (.int (1 : Int32)), .val (.ref ao), .val (.ref oA), .val (.ref oB), .val (.int (1 : Int32)), .unset] [])) (fun t_ k_ => XS.ifYes X10.here hx rfl (pc0 := 144) (pc' := 152) rfl (hb hby at_144) rfl (by decide) (by decide) (by decide) k_) ?_
    refine Go.st (T' := T10) (g' := (mkF m 154 #[.val (.int p1), .val (.int p2), .val (.int p3), .val (.int (0 : Int32)), .val (.int (1 : Int32)), .val (.ref ao), .val (.ref oA), .val (.ref oB), .val (.int (1 : Int32)), .unset] [(.ref oB)])) (fun t_ k_ => XS.aload X10.here hx rfl (hb hby at_152) rfl rfl k_) ?_
    refine Go.st (T' := T10) (g' := (mkF m 156 #[.val (.int p1), .val (.int p2), .val (.int p3), .val (.int (0 : Int32)), .val (.int (1 : Int32)), .val (.ref ao), .val (.ref oA), .val (.ref oB), .val (.int (1 : Int32)), .val (.ref oB)] [])) (fun t_ k_ => XS.astore X10.here hx rfl (hb hby at_154) rfl rfl (l' := #[.val (.int p1), .val (.int p2), .val (.int p3), .val (.int (0 : Int32)), .val (.int (1 : Int32)), .val (.ref ao), .val (.ref oA), .val (.ref oB), .val (.int (1 : Int32)), .val (.ref oB)]) rfl k_) ?_
    refine Go.st (T' := T10) (g' := (mkF m 158 #[.val (.int p1), .val (.int p2), .val (.int p3), .val (.int (0 : Int32)), .val (.int (1 : Int32)), .val (.ref ao), .val (.ref oA), .val (.ref oB), .val (.int (1 : Int32)), .val (.ref oB)] [(.ref ao)])) (fun t_ k_ => XS.aload X10.here hx rfl (hb hby at_156) rfl rfl k_) ?_
    refine Go.st (T' := T10) (g' := (mkF m 160 #[.val (.int p1), .val (.int p2), .val (.int p3), .val (.int (0 : Int32)), .val (.int (1 : Int32)), .val (.ref ao), .val (.ref oA), .val (.ref oB), .val (.int (1 : Int32)), .val (.ref oB)] [(.ref oB), (.ref ao)])) (fun t_ k_ => XS.aload X10.here hx rfl (hb hby at_158) rfl rfl k_) ?_
    refine goVirtS X10 hx hZ (y := (⟨"com/example/kenshinkit/kenshinkit/schema/OpenElements", "push", "(Lcom/example/kenshinkit/kenshinkit/schema/SchemaType;)V"⟩ : MethodName)) hown (hw _ (List.mem_of_getElem? (i := 48) rfl)) (hw _ (List.mem_of_getElem? (i := 49) rfl)) (hw _ (List.mem_of_getElem? (i := 51) rfl)) (hw _ (List.mem_of_getElem? (i := 50) rfl)) (hw _ (List.mem_of_getElem? (i := 2) rfl)) (hw _ (List.mem_of_getElem? (i := 52) rfl)) (by decide) p9_0 (rm4 l Z a0 hw [] n0 h9 ao oB tA sA mA (((0 : Int32) + (1 : Int32)) - (1 : Int32)) ((fun i => (if i = ((0 : Int32)).toNatClampNeg then (0 : Int32) else (fun _ => 0) i)) (((0 : Int32) + (1 : Int32)) - (1 : Int32)).toNatClampNeg) ((fun i => (if i = ((0 : Int32)).toNatClampNeg then (0 : Int32) else (fun _ => 0) i)) (((0 : Int32) + (1 : Int32)) - (1 : Int32)).toNatClampNeg) (fun i => if i = ((0 : Int32)).toNatClampNeg then (.ref oA) else (fun _ => .null) i) (fun i => (if i = ((0 : Int32)).toNatClampNeg then p2 else (fun i => (if i = ((0 : Int32)).toNatClampNeg then (0 : Int32) else (fun _ => 0) i)) i)) (fun i => (if i = ((0 : Int32)).toNatClampNeg then (0 : Int32) else (fun _ => 0) i)) sz9 p9_0 f9_23 p9_4 p9_5 p9_6 p9_1 p9_2 p9_3 f9_3 f9_4 f9_5 f9_6 f9_24 f9_26 f9_25 p2_14 ge1 p2_15 p2_16 p2_17 (by decide) (by decide)) 0 (by decide) (by decide) (by rw [hml]; rfl) [(.ref oB)] [] (lenOf pd_b9a6f732 rfl) rfl rfl rfl (hb hby at_160) (by decide) (by decide) fun v11 T11 h11 X11 hq11 => ?_
    obtain ⟨rfl, K11c, p11_0, p11_1, p11_2, p11_3, p11_4, p11_5, p11_6, p11_7, p11_8, p11_9, p11_10, p11_11, p11_12, p11_13⟩ := hq11
    have f11_0 : Sta Z h11 "com/example/kenshinkit/kenshinkit/schema/ComplexType$Content" "EMPTY" "Lcom/example/kenshinkit/kenshinkit/schema/ComplexType$Content;" (.ref we) := sta_keep f9_0 K11c (allS ⟨_, p9_0⟩ (allS ⟨_, f9_3⟩ (allS ⟨_, f9_4⟩ (allS ⟨_, f9_5⟩ all0))))
    have f11_2 : Exa Z h11 ao "com/example/kenshinkit/kenshinkit/schema/OpenElements" := p9_0.keep K11c
    have f11_3 : Exa Z h11 tA "[Lcom/example/kenshinkit/kenshinkit/schema/SchemaType;" := f9_3.keep K11c
    have f11_4 : Exa Z h11 sA "[I" := f9_4.keep K11c
    have f11_5 : Exa Z h11 mA "[I" := f9_5.keep K11c
    have f11_6 : AO Z h11 tA "com/example/kenshinkit/kenshinkit/schema/SchemaType" := f9_6.keep K11c
    have f11_16 : Exa Z h11 oA "com/example/kenshinkit/kenshinkit/schema/ComplexType" := f9_16.keep K11c
    have f11_23 : Exa Z h11 oB "com/example/kenshinkit/kenshinkit/schema/ComplexType" := f9_23.keep K11c
    have sz11 : n0 ≤ h11.size := Nat.le_trans sz9 K11c.1
    show Go p e below _ T11 (mkF m 163 #[.val (.int p1), .val (.int p2), .val (.int p3), .val (.int (0 : Int32)), .val (.int (1 : Int32)), .val (.ref ao), .val (.ref oA), .val (.ref oB), .val (.int (1 : Int32)), .val (.ref oB)] [])
    refine Go.st (T' := T11) (g' := (mkF m 165 #[.val (.int p1), .val (.int p2), .val (.int p3), .val (.int (0 : Int32)), .val (.int (1 : Int32)), .val (.ref ao), .val (.ref oA), .val (.ref oB), .val (.int (1 : Int32)), .val (.ref oB)] [(.int (1 : Int32))])) (fun t_ k_ => XS.iload X11.here hx rfl (hb hby at_163) rfl k_) ?_
    refine Go.st (T' := T11) (g' := (mkF m 168 #[.val (.int p1), .val (.int p2), .val (.int p3), .val (.int (0 : Int32)), .val (.int (1 : Int32)), .val (.ref ao), .val (.ref oA), .val (.ref oB), .val (.int (1 : Int32)), .val (.ref oB)] [])) (fun t_ k_ => XS.ifNo X11.here hx rfl (hb hby at_165) rfl (by decide) k_) ?_
    refine Go.st (T' := T11) (g' := (mkF m 170 #[.val (.int p1), .val (.int p2), .val (.int p3), .val (.int (0 : Int32)), .val (.int (1 : Int32)), .val (.ref ao), .val (.ref oA), .val (.ref oB), .val (.int (1 : Int32)), .val (.ref oB)] [(.ref ao)])) (fun t_ k_ => XS.aload X11.here hx rfl (hb hby at_168) rfl rfl k_) ?_
    refine goVirtS X11 hx hZ (y := (⟨"com/example/kenshinkit/kenshinkit/schema/OpenElements", "depth", "()I"⟩ : MethodName)) hown (hw _ (List.mem_of_getElem? (i := 70) rfl)) (hw _ (List.mem_of_getElem? (i := 71) rfl)) (hw _ (List.mem_of_getElem? (i := 73) rfl)) (hw _ (List.mem_of_getElem? (i := 72) rfl)) (hw _ (List.mem_of_getElem? (i := 2) rfl)) (hw _ (List.mem_of_getElem? (i := 74) rfl)) (by decide) p11_0 (rm7 l Z a0 hw [] n0 h11 ao ((((0 : Int32) + (1 : Int32)) - (1 : Int32)) + (1 : Int32)) sz11 p11_4) 0 (by decide) (by decide) (by rw [hml]; rfl) [] [] (lenOf pd_8259a895 rfl) rfl rfl rfl (hb hby at_170) (by decide) (by decide) fun v12 T12 h12 X12 hq12 => ?_
    obtain ⟨rfl, eh12⟩ := hq12
    rw [eh12] at X12
    show Go p e below _ T12 (mkF m 173 #[.val (.int p1), .val (.int p2), .val (.int p3), .val (.int (0 : Int32)), .val (.int (1 : Int32)), .val (.ref ao), .val (.ref oA), .val (.ref oB), .val (.int (1 : Int32)), .val (.ref oB)] [(.int ((((0 : Int32) + (1 : Int32)) - (1 : Int32)) + (1 : Int32)))])
    refine Go.st (T' := T12) (g' := (mkF m 175 #[.val (.int p1), .val (.int p2), .val (.int p3), .val (.int (0 : Int32)), .val (.int (1 : Int32)), .val (.ref ao), .val (.ref oA), .val (.ref oB), .val (.int (1 : Int32)), .val (.ref oB)] [(.int (1 : Int32)), (.int ((((0 : Int32) + (1 : Int32)) - (1 : Int32)) + (1 : Int32)))])) (fun t_ k_ => XS.iload X12.here hx rfl (hb hby at_173) rfl k_) ?_
    have hc175 : ((((0 : Int32) + (1 : Int32)) - (1 : Int32)) + (1 : Int32)) = (1 : Int32) := rfl
    refine Go.st (T' := T12) (g' := (mkF m 178 #[.val (.int p1), .val (.int p2), .val (.int p3), .val (.int (0 : Int32)), .val (.int (1 : Int32)), .val (.ref ao), .val (.ref oA), .val (.ref oB), .val (.int (1 : Int32)), .val (.ref oB)] [])) (fun t_ k_ => XS.icmpNo X12.here hx rfl (hb hby at_175) rfl (teq hc175).2 k_) ?_
    refine Go.st (T' := T12) (g' := (mkF m 180 #[.val (.int p1), .val (.int p2), .val (.int p3), .val (.int (0 : Int32)), .val (.int (1 : Int32)), .val (.ref ao), .val (.ref oA), .val (.ref oB), .val (.int (1 : Int32)), .val (.ref oB)] [(.ref ao)])) (fun t_ k_ => XS.aload X12.here hx rfl (hb hby at_178) rfl rfl k_) ?_
    refine Go.st (T' := T12) (g' := (mkF m 182 #[.val (.int p1), .val (.int p2), .val (.int p3), .val (.int (0 : Int32)), .val (.int (1 : Int32)), .val (.ref ao), .val (.ref oA), .val (.ref oB), .val (.int (1 : Int32)), .val (.ref oB)] [(.int (1 : Int32)), (.ref ao)])) (fun t_ k_ => XS.iload X12.here hx rfl (hb hby at_180) rfl k_) ?_
    refine Go.st (T' := T12) (g' := (mkF m 183 #[.val (.int p1), .val (.int p2), .val (.int p3), .val (.int (0 : Int32)), .val (.int (1 : Int32)), .val (.ref ao), .val (.ref oA), .val (.ref oB), .val (.int (1 : Int32)), .val (.ref oB)] [(.int (1 : Int32)), (.int (1 : Int32)), (.ref ao)])) (fun t_ k_ => XS.iconst X12.here hx rfl (hb hby at_182) k_) ?_
    refine Go.st (T' := T12) (g' := (mkF m 184 #[.val (.int p1), .val (.int p2), .val (.int p3), .val (.int (0 : Int32)), .val (.int (1 : Int32)), .val (.ref ao), .val (.ref oA), .val (.ref oB), .val (.int (1 : Int32)), .val (.ref oB)] [(.int ((1 : Int32) - (1 : Int32))), (.ref ao)])) (fun t_ k_ => XS.isub X12.here hx rfl (hb hby at_183) rfl k_) ?_
    refine goVirtS X12 hx hZ (y := (⟨"com/example/kenshinkit/kenshinkit/schema/OpenElements", "type", "(I)Lcom/example/kenshinkit/kenshinkit/schema/SchemaType;"⟩ : MethodName)) hown (hw _ (List.mem_of_getElem? (i := 75) rfl)) (hw _ (List.mem_of_getElem? (i := 76) rfl)) (hw _ (List.mem_of_getElem? (i := 78) rfl)) (hw _ (List.mem_of_getElem? (i := 77) rfl)) (hw _ (List.mem_of_getElem? (i := 2) rfl)) (hw _ (List.mem_of_getElem? (i := 79) rfl)) (by decide) p11_0 (rm8 l Z a0 hw [] n0 h11 ao ((1 : Int32) - (1 : Int32)) tA (fun i => if i = ((((0 : Int32) + (1 : Int32)) - (1 : Int32))).toNatClampNeg then (.ref oB) else (fun i => if i = ((0 : Int32)).toNatClampNeg then (.ref oA) else (fun _ => .null) i) i) oB sz11 p11_1 p11_11 (by decide) (rfl)) 0 (by decide) (by decide) (by rw [hml]; rfl) [(.int ((1 : Int32) - (1 : Int32)))] [] (lenOf pd_f72ca27d rfl) rfl rfl rfl (hb hby at_184) (by decide) (by decide) fun v13 T13 h13 X13 hq13 => ?_
    obtain ⟨rfl, eh13⟩ := hq13
    rw [eh13] at X13
    show Go p e below _ T13 (mkF m 187 #[.val (.int p1), .val (.int p2), .val (.int p3), .val (.int (0 : Int32)), .val (.int (1 : Int32)), .val (.ref ao), .val (.ref oA), .val (.ref oB), .val (.int (1 : Int32)), .val (.ref oB)] [(.ref oB)])
    refine Go.st (T' := T13) (g' := (mkF m 189 #[.val (.int p1), .val (.int p2), .val (.int p3), .val (.int (0 : Int32)), .val (.int (1 : Int32)), .val (.ref ao), .val (.ref oA), .val (.ref oB), .val (.int (1 : Int32)), .val (.ref oB)] [(.ref oB), (.ref oB)])) (fun t_ k_ => XS.aload X13.here hx rfl (hb hby at_187) rfl rfl k_) ?_
    refine Go.st (T' := T13) (g' := (mkF m 192 #[.val (.int p1), .val (.int p2), .val (.int p3), .val (.int (0 : Int32)), .val (.int (1 : Int32)), .val (.ref ao), .val (.ref oA), .val (.ref oB), .val (.int (1 : Int32)), .val (.ref oB)] [])) (fun t_ k_ => XS.acmpNo X13.here hx rfl (hb hby at_189) rfl (acT rfl).2 k_) ?_
    refine Go.st (T' := T13) (g' := (mkF m 194 #[.val (.int p1), .val (.int p2), .val (.int p3), .val (.int (0 : Int32)), .val (.int (1 : Int32)), .val (.ref ao), .val (.ref oA), .val (.ref oB), .val (.int (1 : Int32)), .val (.ref oB)] [(.ref ao)])) (fun t_ k_ => XS.aload X13.here hx rfl (hb hby at_192) rfl rfl k_) ?_
    refine Go.st (T' := T13) (g' := (mkF m 196 #[.val (.int p1), .val (.int p2), .val (.int p3), .val (.int (0 : Int32)), .val (.int (1 : Int32)), .val (.ref ao), .val (.ref oA), .val (.ref oB), .val (.int (1 : Int32)), .val (.ref oB)] [(.int (1 : Int32)), (.ref ao)])) (fun t_ k_ => XS.iload X13.here hx rfl (hb hby at_194) rfl k_) ?_
    refine Go.st (T' := T13) (g' := (mkF m 197 #[.val (.int p1), .val (.int p2), .val (.int p3), .val (.int (0 : Int32)), .val (.int (1 : Int32)), .val (.ref ao), .val (.ref oA), .val (.ref oB), .val (.int (1 : Int32)), .val (.ref oB)] [(.int (1 : Int32)), (.int (1 : Int32)), (.ref ao)])) (fun t_ k_ => XS.iconst X13.here hx rfl (hb hby at_196) k_) ?_
    refine Go.st (T' := T13) (g' := (mkF m 198 #[.val (.int p1), .val (.int p2), .val (.int p3), .val (.int (0 : Int32)), .val (.int (1 : Int32)), .val (.ref ao), .val (.ref oA), .val (.ref oB), .val (.int (1 : Int32)), .val (.ref oB)] [(.int ((1 : Int32) - (1 : Int32))), (.ref ao)])) (fun t_ k_ => XS.isub X13.here hx rfl (hb hby at_197) rfl k_) ?_
    refine goVirtS X13 hx hZ (y := (⟨"com/example/kenshinkit/kenshinkit/schema/OpenElements", "state", "(I)I"⟩ : MethodName)) hown (hw _ (List.mem_of_getElem? (i := 80) rfl)) (hw _ (List.mem_of_getElem? (i := 81) rfl)) (hw _ (List.mem_of_getElem? (i := 83) rfl)) (hw _ (List.mem_of_getElem? (i := 82) rfl)) (hw _ (List.mem_of_getElem? (i := 2) rfl)) (hw _ (List.mem_of_getElem? (i := 84) rfl)) (by decide) p11_0 (rm9 l Z a0 hw [] n0 h11 ao ((1 : Int32) - (1 : Int32)) (0 : Int32) sA (fun i => (if i = ((((0 : Int32) + (1 : Int32)) - (1 : Int32))).toNatClampNeg then (0 : Int32) else (fun i => (if i = ((0 : Int32)).toNatClampNeg then p2 else (fun i => (if i = ((0 : Int32)).toNatClampNeg then (0 : Int32) else (fun _ => 0) i)) i)) i)) sz11 p11_2 p11_12 (by decide) (rfl)) 0 (by decide) (by decide) (by rw [hml]; rfl) [(.int ((1 : Int32) - (1 : Int32)))] [] (lenOf pd_70cf885d rfl) rfl rfl rfl (hb hby at_198) (by decide) (by decide) fun v14 T14 h14 X14 hq14 => ?_
    obtain ⟨rfl, eh14⟩ := hq14
    rw [eh14] at X14
    show Go p e below _ T14 (mkF m 201 #[.val (.int p1), .val (.int p2), .val (.int p3), .val (.int (0 : Int32)), .val (.int (1 : Int32)), .val (.ref ao), .val (.ref oA), .val (.ref oB), .val (.int (1 : Int32)), .val (.ref oB)] [(.int (0 : Int32))])
    refine Go.st (T' := T14) (g' := (mkF m 204 #[.val (.int p1), .val (.int p2), .val (.int p3), .val (.int (0 : Int32)), .val (.int (1 : Int32)), .val (.ref ao), .val (.ref oA), .val (.ref oB), .val (.int (1 : Int32)), .val (.ref oB)] [])) (fun t_ k_ => XS.ifNo X14.here hx rfl (hb hby at_201) rfl (by decide) k_) ?_
    refine Go.st (T' := T14) (g' := (mkF m 205 #[.val (.int p1), .val (.int p2), .val (.int p3), .val (.int (0 : Int32)), .val (.int (1 : Int32)), .val (.ref ao), .val (.ref oA), .val (.ref oB), .val (.int (1 : Int32)), .val (.ref oB)] [(.int (1 : Int32))])) (fun t_ k_ => XS.iconst X14.here hx rfl (hb hby at_204) k_) ?_
    refine Go.st (T' := T14) (g' := (mkF m 209 #[.val (.int p1), .val (.int p2), .val (.int p3), .val (.int (0 : Int32)), .val (.int (1 : Int32)), .val (.ref ao), .val (.ref oA), .val (.ref oB), .val (.int (1 : Int32)), .val (.ref oB)] [(.int (1 : Int32))])) (fun t_ k_ => XS.goto X14.here hx rfl (pc0 := 205) (pc' := 209) rfl (hb hby at_205) (by decide) (by decide) k_) ?_
    refine Go.st (T' := T14) (g' := (mkF m 211 #[.val (.int p1), .val (.int p2), .val (.int p3), .val (.int (0 : Int32)), .val (.int (1 : Int32)), .val (.ref ao), .val (.ref oA), .val (.ref oB), .val (.int (1 : Int32)), .val (.ref oB)] [])) (fun t_ k_ => XS.istore X14.here hx rfl (hb hby at_209) rfl (l' := #[.val (.int p1), .val (.int p2), .val (.int p3), .val (.int (0 : Int32)), .val (.int (1 : Int32)), .val (.ref ao), .val (.ref oA), .val (.ref oB), .val (.int (1 : Int32)), .val (.ref oB)]) rfl k_) ?_
    refine Go.st (T' := T14) (g' := (mkF m 212 #[.val (.int p1), .val (.int p2), .val (.int p3), .val (.int (0 : Int32)), .val (.int (1 : Int32)), .val (.ref ao), .val (.ref oA), .val (.ref oB), .val (.int (1 : Int32)), .val (.ref oB)] [(.int (0 : Int32))])) (fun t_ k_ => XS.iloadN X14.here hx rfl (hb hby at_211) rfl k_) ?_
    refine Go.st (T' := T14) (g' := (mkF m 248 #[.val (.int p1), .val (.int p2), .val (.int p3), .val (.int (0 : Int32)), .val (.int (1 : Int32)), .val (.ref ao), .val (.ref oA), .val (.ref oB), .val (.int (1 : Int32)), .val (.ref oB)] [])) (fun t_ k_ => XS.ifYes X14.here hx rfl (pc0 := 212) (pc' := 248) rfl (hb hby at_212) rfl (by decide) (by decide) (by decide) k_) ?_
    refine Go.st (T' := T14) (g' := (mkF m 250 #[.val (.int p1), .val (.int p2), .val (.int p3), .val (.int (0 : Int32)), .val (.int (1 : Int32)), .val (.ref ao), .val (.ref oA), .val (.ref oB), .val (.int (1 : Int32)), .val (.ref oB)] [(.ref ao)])) (fun t_ k_ => XS.aload X14.here hx rfl (hb hby at_248) rfl rfl k_) ?_
    refine goVirtS X14 hx hZ (y := (⟨"com/example/kenshinkit/kenshinkit/schema/OpenElements", "pop", "()V"⟩ : MethodName)) hown (hw _ (List.mem_of_getElem? (i := 65) rfl)) (hw _ (List.mem_of_getElem? (i := 66) rfl)) (hw _ (List.mem_of_getElem? (i := 68) rfl)) (hw _ (List.mem_of_getElem? (i := 67) rfl)) (hw _ (List.mem_of_getElem? (i := 2) rfl)) (hw _ (List.mem_of_getElem? (i := 69) rfl)) (by decide) p11_0 (rm6 l Z a0 hw [] n0 h11 ao tA sA mA ((((0 : Int32) + (1 : Int32)) - (1 : Int32)) + (1 : Int32)) ((fun i => (if i = ((0 : Int32)).toNatClampNeg then (0 : Int32) else (fun _ => 0) i)) (((0 : Int32) + (1 : Int32)) - (1 : Int32)).toNatClampNeg) ((fun i => (if i = ((0 : Int32)).toNatClampNeg then (0 : Int32) else (fun _ => 0) i)) (((0 : Int32) + (1 : Int32)) - (1 : Int32)).toNatClampNeg) (fun i => (if i = ((((0 : Int32) + (1 : Int32)) - (1 : Int32))).toNatClampNeg then ((fun i => (if i = ((0 : Int32)).toNatClampNeg then (0 : Int32) else (fun _ => 0) i)) (((0 : Int32) + (1 : Int32)) - (1 : Int32)).toNatClampNeg) else (fun i => (if i = ((0 : Int32)).toNatClampNeg then (0 : Int32) else (fun _ => 0) i)) i)) sz11 p11_0 p11_3 p11_4 p11_5 p11_6 p11_9 p11_13 ge1 p11_1 p11_2 (by decide)) 0 (by decide) (by decide) (by rw [hml]; rfl) [] [] (lenOf pd_0f51a560 rfl) rfl rfl rfl (hb hby at_250) (by decide) (by decide) fun v15 T15 h15 X15 hq15 => ?_
    obtain ⟨rfl, K15c, p15_0, p15_1, p15_2, p15_3, p15_4, p15_5, p15_6⟩ := hq15
    have f15_0 : Sta Z h15 "com/example/kenshinkit/kenshinkit/schema/ComplexType$Content" "EMPTY" "Lcom/example/kenshinkit/kenshinkit/schema/ComplexType$Content;" (.ref we) := sta_keep f11_0 K15c (allS ⟨_, p11_0⟩ all0)
    have f15_2 : Exa Z h15 ao "com/example/kenshinkit/kenshinkit/schema/OpenElements" := p11_0.keep K15c
    have f15_3 : Exa Z h15 tA "[Lcom/example/kenshinkit/kenshinkit/schema/SchemaType;" := p11_7.keep K15c
    have f15_4 : Exa Z h15 sA "[I" := p11_8.keep K15c
    have f15_5 : Exa Z h15 mA "[I" := p11_9.keep K15c
    have f15_6 : AO Z h15 tA "com/example/kenshinkit/kenshinkit/schema/SchemaType" := p11_10.keep K15c
    have f15_16 : Exa Z h15 oA "com/example/kenshinkit/kenshinkit/schema/ComplexType" := f11_16.keep K15c
    have f15_23 : Exa Z h15 oB "com/example/kenshinkit/kenshinkit/schema/ComplexType" := f11_23.keep K15c
    have f15_24 : Ary Z h15 tA (.object "com/example/kenshinkit/kenshinkit/schema/SchemaType") 64 (fun i => if i = ((((0 : Int32) + (1 : Int32)) - (1 : Int32))).toNatClampNeg then (.ref oB) else (fun i => if i = ((0 : Int32)).toNatClampNeg then (.ref oA) else (fun _ => .null) i) i) := p11_11.keep K15c (ninS (ne_exa p11_7 p11_0 (by decide)) nin0)
    have f15_25 : Ary Z h15 sA .int 64 (fun i => .int (if i = ((((0 : Int32) + (1 : Int32)) - (1 : Int32))).toNatClampNeg then (0 : Int32) else (fun i => (if i = ((0 : Int32)).toNatClampNeg then p2 else (fun i => (if i = ((0 : Int32)).toNatClampNeg then (0 : Int32) else (fun _ => 0) i)) i)) i)) := p11_12.keep K15c (ninS (ne_exa p11_8 p11_0 (by decide)) nin0)
    have f15_26 : Ary Z h15 mA .int 64 (fun i => .int (if i = ((((0 : Int32) + (1 : Int32)) - (1 : Int32))).toNatClampNeg then ((fun i => (if i = ((0 : Int32)).toNatClampNeg then (0 : Int32) else (fun _ => 0) i)) (((0 : Int32) + (1 : Int32)) - (1 : Int32)).toNatClampNeg) else (fun i => (if i = ((0 : Int32)).toNatClampNeg then (0 : Int32) else (fun _ => 0) i)) i)) := p11_13.keep K15c (ninS (ne_exa p11_9 p11_0 (by decide)) nin0)
    have sz15 : n0 ≤ h15.size := Nat.le_trans sz11 K15c.1
    show Go p e below _ T15 (mkF m 253 #[.val (.int p1), .val (.int p2), .val (.int p3), .val (.int (0 : Int32)), .val (.int (1 : Int32)), .val (.ref ao), .val (.ref oA), .val (.ref oB), .val (.int (1 : Int32)), .val (.ref oB)] [])
    refine Go.st (T' := T15) (g' := (mkF m 255 #[.val (.int p1), .val (.int p2), .val (.int p3), .val (.int (0 : Int32)), .val (.int (1 : Int32)), .val (.ref ao), .val (.ref oA), .val (.ref oB), .val (.int (1 : Int32)), .val (.ref oB)] [(.int (1 : Int32))])) (fun t_ k_ => XS.iload X15.here hx rfl (hb hby at_253) rfl k_) ?_
    refine Go.st (T' := T15) (g' := (mkF m 258 #[.val (.int p1), .val (.int p2), .val (.int p3), .val (.int (0 : Int32)), .val (.int (1 : Int32)), .val (.ref ao), .val (.ref oA), .val (.ref oB), .val (.int (1 : Int32)), .val (.ref oB)] [])) (fun t_ k_ => XS.ifNo X15.here hx rfl (hb hby at_255) rfl (by decide) k_) ?_
    refine Go.st (T' := T15) (g' := (mkF m 260 #[.val (.int p1), .val (.int p2), .val (.int p3), .val (.int (0 : Int32)), .val (.int (1 : Int32)), .val (.ref ao), .val (.ref oA), .val (.ref oB), .val (.int (1 : Int32)), .val (.ref oB)] [(.ref ao)])) (fun t_ k_ => XS.aload X15.here hx rfl (hb hby at_258) rfl rfl k_) ?_
    refine goVirtS X15 hx hZ (y := (⟨"com/example/kenshinkit/kenshinkit/schema/OpenElements", "depth", "()I"⟩ : MethodName)) hown (hw _ (List.mem_of_getElem? (i := 70) rfl)) (hw _ (List.mem_of_getElem? (i := 71) rfl)) (hw _ (List.mem_of_getElem? (i := 73) rfl)) (hw _ (List.mem_of_getElem? (i := 72) rfl)) (hw _ (List.mem_of_getElem? (i := 2) rfl)) (hw _ (List.mem_of_getElem? (i := 74) rfl)) (by decide) p15_0 (rm7 l Z a0 hw [] n0 h15 ao (((((0 : Int32) + (1 : Int32)) - (1 : Int32)) + (1 : Int32)) - (1 : Int32)) sz15 p15_1) 0 (by decide) (by decide) (by rw [hml]; rfl) [] [] (lenOf pd_8259a895 rfl) rfl rfl rfl (hb hby at_260) (by decide) (by decide) fun v16 T16 h16 X16 hq16 => ?_
    obtain ⟨rfl, eh16⟩ := hq16
    rw [eh16] at X16
    show Go p e below _ T16 (mkF m 263 #[.val (.int p1), .val (.int p2), .val (.int p3), .val (.int (0 : Int32)), .val (.int (1 : Int32)), .val (.ref ao), .val (.ref oA), .val (.ref oB), .val (.int (1 : Int32)), .val (.ref oB)] [(.int (((((0 : Int32) + (1 : Int32)) - (1 : Int32)) + (1 : Int32)) - (1 : Int32)))])
    refine Go.st (T' := T16) (g' := (mkF m 265 #[.val (.int p1), .val (.int p2), .val (.int p3), .val (.int (0 : Int32)), .val (.int (1 : Int32)), .val (.ref ao), .val (.ref oA), .val (.ref oB), .val (.int (1 : Int32)), .val (.ref oB)] [(.int (1 : Int32)), (.int (((((0 : Int32) + (1 : Int32)) - (1 : Int32)) + (1 : Int32)) - (1 : Int32)))])) (fun t_ k_ => XS.iload X16.here hx rfl (hb hby at_263) rfl k_) ?_
    refine Go.st (T' := T16) (g' := (mkF m 266 #[.val (.int p1), .val (.int p2), .val (.int p3), .val (.int (0 : Int32)), .val (.int (1 : Int32)), .val (.ref ao), .val (.ref oA), .val (.ref oB), .val (.int (1 : Int32)), .val (.ref oB)] [(.int (1 : Int32)), (.int (1 : Int32)), (.int (((((0 : Int32) + (1 : Int32)) - (1 : Int32)) + (1 : Int32)) - (1 : Int32)))])) (fun t_ k_ => XS.iconst X16.here hx rfl (hb hby at_265) k_) ?_
    refine Go.st (T' := T16) (g' := (mkF m 267 #[.val (.int p1), .val (.int p2), .val (.int p3), .val (.int (0 : Int32)), .val (.int (1 : Int32)), .val (.ref ao), .val (.ref oA), .val (.ref oB), .val (.int (1 : Int32)), .val (.ref oB)] [(.int ((1 : Int32) - (1 : Int32))), (.int (((((0 : Int32) + (1 : Int32)) - (1 : Int32)) + (1 : Int32)) - (1 : Int32)))])) (fun t_ k_ => XS.isub X16.here hx rfl (hb hby at_266) rfl k_) ?_
    have hc267 : (((((0 : Int32) + (1 : Int32)) - (1 : Int32)) + (1 : Int32)) - (1 : Int32)) = ((1 : Int32) - (1 : Int32)) := rfl
    refine Go.st (T' := T16) (g' := (mkF m 270 #[.val (.int p1), .val (.int p2), .val (.int p3), .val (.int (0 : Int32)), .val (.int (1 : Int32)), .val (.ref ao), .val (.ref oA), .val (.ref oB), .val (.int (1 : Int32)), .val (.ref oB)] [])) (fun t_ k_ => XS.icmpNo X16.here hx rfl (hb hby at_267) rfl (teq hc267).2 k_) ?_
    refine Go.st (T' := T16) (g' := (mkF m 271 #[.val (.int p1), .val (.int p2), .val (.int p3), .val (.int (0 : Int32)), .val (.int (1 : Int32)), .val (.ref ao), .val (.ref oA), .val (.ref oB), .val (.int (1 : Int32)), .val (.ref oB)] [(.int (1 : Int32))])) (fun t_ k_ => XS.iconst X16.here hx rfl (hb hby at_270) k_) ?_
    refine Go.st (T' := T16) (g' := (mkF m 275 #[.val (.int p1), .val (.int p2), .val (.int p3), .val (.int (0 : Int32)), .val (.int (1 : Int32)), .val (.ref ao), .val (.ref oA), .val (.ref oB), .val (.int (1 : Int32)), .val (.ref oB)] [(.int (1 : Int32))])) (fun t_ k_ => XS.goto X16.here hx rfl (pc0 := 271) (pc' := 275) rfl (hb hby at_271) (by decide) (by decide) k_) ?_
    refine Go.st (T' := T16) (g' := (mkF m 277 #[.val (.int p1), .val (.int p2), .val (.int p3), .val (.int (0 : Int32)), .val (.int (1 : Int32)), .val (.ref ao), .val (.ref oA), .val (.ref oB), .val (.int (1 : Int32)), .val (.ref oB)] [])) (fun t_ k_ => XS.istore X16.here hx rfl (hb hby at_275) rfl (l' := #[.val (.int p1), .val (.int p2), .val (.int p3), .val (.int (0 : Int32)), .val (.int (1 : Int32)), .val (.ref ao), .val (.ref oA), .val (.ref oB), .val (.int (1 : Int32)), .val (.ref oB)]) rfl k_) ?_
    refine Go.st (T' := T16) (g' := (mkF m 279 #[.val (.int p1), .val (.int p2), .val (.int p3), .val (.int (0 : Int32)), .val (.int (1 : Int32)), .val (.ref ao), .val (.ref oA), .val (.ref oB), .val (.int (1 : Int32)), .val (.ref oB)] [(.int (1 : Int32))])) (fun t_ k_ => XS.iload X16.here hx rfl (hb hby at_277) rfl k_) ?_
    refine goRetZ X16 hx hlk hret (hb hby at_279) (by decide) (by decide) (Or.inr rfl) ?_
    exact rfl
  · skip
    refine Go.st (T' := s₁) (g' := (mkF m 6 #[.val (.int p1), .val (.int p2), .val (.int p3), .unset, .unset, .unset, .unset, .unset, .unset, .unset] [])) (fun t_ k_ => XS.ifNo X0.here hx rfl (hb hby at_3) rfl ((if0 _ _).trans (feq hc3).1) k_) ?_
    refine Go.st (T' := s₁) (g' := (mkF m 7 #[.val (.int p1), .val (.int p2), .val (.int p3), .unset, .unset, .unset, .unset, .unset, .unset, .unset] [(.int (1 : Int32))])) (fun t_ k_ => XS.iconst X0.here hx rfl (hb hby at_6) k_) ?_
    refine Go.st (T' := s₁) (g' := (mkF m 11 #[.val (.int p1), .val (.int p2), .val (.int p3), .unset, .unset, .unset, .unset, .unset, .unset, .unset] [(.int (1 : Int32))])) (fun t_ k_ => XS.goto X0.here hx rfl (pc0 := 7) (pc' := 11) rfl (hb hby at_7) (by decide) (by decide) k_) ?_
    refine Go.st (T' := s₁) (g' := (mkF m 12 #[.val (.int p1), .val (.int p2), .val (.int p3), .val (.int (1 : Int32)), .unset, .unset, .unset, .unset, .unset, .unset] [])) (fun t_ k_ => XS.istoreN X0.here hx rfl (hb hby at_11) rfl (l' := #[.val (.int p1), .val (.int p2), .val (.int p3), .val (.int (1 : Int32)), .unset, .unset, .unset, .unset, .unset, .unset]) rfl k_) ?_
    refine Go.st (T' := s₁) (g' := (mkF m 13 #[.val (.int p1), .val (.int p2), .val (.int p3), .val (.int (1 : Int32)), .unset, .unset, .unset, .unset, .unset, .unset] [(.int (1 : Int32))])) (fun t_ k_ => XS.iloadN X0.here hx rfl (hb hby at_12) rfl k_) ?_
    refine Go.st (T' := s₁) (g' := (mkF m 16 #[.val (.int p1), .val (.int p2), .val (.int p3), .val (.int (1 : Int32)), .unset, .unset, .unset, .unset, .unset, .unset] [])) (fun t_ k_ => XS.ifNo X0.here hx rfl (hb hby at_13) rfl (by decide) k_) ?_
    refine Go.st (T' := s₁) (g' := (mkF m 17 #[.val (.int p1), .val (.int p2), .val (.int p3), .val (.int (1 : Int32)), .unset, .unset, .unset, .unset, .unset, .unset] [(.int (2 : Int32))])) (fun t_ k_ => XS.iconst X0.here hx rfl (hb hby at_16) k_) ?_
    refine Go.st (T' := s₁) (g' := (mkF m 21 #[.val (.int p1), .val (.int p2), .val (.int p3), .val (.int (1 : Int32)), .unset, .unset, .unset, .unset, .unset, .unset] [(.int (2 : Int32))])) (fun t_ k_ => XS.goto X0.here hx rfl (pc0 := 17) (pc' := 21) rfl (hb hby at_17) (by decide) (by decide) k_) ?_
    refine Go.st (T' := s₁) (g' := (mkF m 23 #[.val (.int p1), .val (.int p2), .val (.int p3), .val (.int (1 : Int32)), .val (.int (2 : Int32)), .unset, .unset, .unset, .unset, .unset] [])) (fun t_ k_ => XS.istore X0.here hx rfl (hb hby at_21) rfl (l' := #[.val (.int p1), .val (.int p2), .val (.int p3), .val (.int (1 : Int32)), .val (.int (2 : Int32)), .unset, .unset, .unset, .unset, .unset]) rfl k_) ?_
    refine goNew X0 hx hZ hown (hw _ (List.mem_of_getElem? (i := 0) rfl)) (hw _ (List.mem_of_getElem? (i := 1) rfl)) (hw _ (List.mem_of_getElem? (i := 2) rfl)) (hb hby at_23) (by decide) (by decide) fun T17 h17 ao gb17 X17 E17 A17 D17 => ?_
    have ge17 : n0 ≤ ao := gb17 ▸ sz0
    have f17_0 : Sta Z h17 "com/example/kenshinkit/kenshinkit/schema/ComplexType$Content" "EMPTY" "Lcom/example/kenshinkit/kenshinkit/schema/ComplexType$Content;" (.ref we) := g0.ext E17
    have sz17 : n0 ≤ h17.size := Nat.le_trans sz0 E17.1
    have F17_types : Fld Z h17 ao "com/example/kenshinkit/kenshinkit/schema/OpenElements" "types" "[Lcom/example/kenshinkit/kenshinkit/schema/SchemaType;" .null := D17 (Or.inl (hw _ (List.mem_of_getElem? (i := 12) rfl))) (ty := (.array (.object "com/example/kenshinkit/kenshinkit/schema/SchemaType"))) (by decide)
    have F17_states : Fld Z h17 ao "com/example/kenshinkit/kenshinkit/schema/OpenElements" "states" "[I" .null := D17 (Or.inl (hw _ (List.mem_of_getElem? (i := 15) rfl))) (ty := (.array .int)) (by decide)
    have F17_marks : Fld Z h17 ao "com/example/kenshinkit/kenshinkit/schema/OpenElements" "marks" "[I" .null := D17 (Or.inl (hw _ (List.mem_of_getElem? (i := 17) rfl))) (ty := (.array .int)) (by decide)
    have F17_prefixes : Fld Z h17 ao "com/example/kenshinkit/kenshinkit/schema/OpenElements" "prefixes" "[Ljava/lang/String;" .null := D17 (Or.inl (hw _ (List.mem_of_getElem? (i := 21) rfl))) (ty := (.array (.object "java/lang/String"))) (by decide)
    have F17_uris : Fld Z h17 ao "com/example/kenshinkit/kenshinkit/schema/OpenElements" "uris" "[Ljava/lang/String;" .null := D17 (Or.inl (hw _ (List.mem_of_getElem? (i := 23) rfl))) (ty := (.array (.object "java/lang/String"))) (by decide)
    have F17_keptValues : Fld Z h17 ao "com/example/kenshinkit/kenshinkit/schema/OpenElements" "keptValues" "[Ljava/lang/String;" .null := D17 (Or.inr (hw _ (List.mem_of_getElem? (i := 25) rfl))) (ty := (.array (.object "java/lang/String"))) (by decide)
    have F17_keptPrefixes : Fld Z h17 ao "com/example/kenshinkit/kenshinkit/schema/OpenElements" "keptPrefixes" "[Ljava/lang/String;" .null := D17 (Or.inr (hw _ (List.mem_of_getElem? (i := 27) rfl))) (ty := (.array (.object "java/lang/String"))) (by decide)
    have F17_keptNamespaces : Fld Z h17 ao "com/example/kenshinkit/kenshinkit/schema/OpenElements" "keptNamespaces" "[Ljava/lang/String;" .null := D17 (Or.inr (hw _ (List.mem_of_getElem? (i := 29) rfl))) (ty := (.array (.object "java/lang/String"))) (by decide)
    have F17_keptTypes : Fld Z h17 ao "com/example/kenshinkit/kenshinkit/schema/OpenElements" "keptTypes" "[Lcom/example/kenshinkit/kenshinkit/schema/SchemaType;" .null := D17 (Or.inr (hw _ (List.mem_of_getElem? (i := 31) rfl))) (ty := (.array (.object "com/example/kenshinkit/kenshinkit/schema/SchemaType"))) (by decide)
    have F17_depth : Fld Z h17 ao "com/example/kenshinkit/kenshinkit/schema/OpenElements" "depth" "I" (.int (0 : Int32)) := D17 (Or.inl (hw _ (List.mem_of_getElem? (i := 54) rfl))) (ty := .int) (by decide)
    have F17_boundary : Fld Z h17 ao "com/example/kenshinkit/kenshinkit/schema/OpenElements" "boundary" "I" (.int (0 : Int32)) := D17 (Or.inl (hw _ (List.mem_of_getElem? (i := 57) rfl))) (ty := .int) (by decide)
    have F17_bindings : Fld Z h17 ao "com/example/kenshinkit/kenshinkit/schema/OpenElements" "bindings" "I" (.int (0 : Int32)) := D17 (Or.inl (hw _ (List.mem_of_getElem? (i := 59) rfl))) (ty := .int) (by decide)
    show Go p e below _ T17 (mkF m 26 #[.val (.int p1), .val (.int p2), .val (.int p3), .val (.int (1 : Int32)), .val (.int (2 : Int32)), .unset, .unset, .unset, .unset, .unset] [(.ref ao)])
    refine Go.st (T' := T17) (g' := (mkF m 27 #[.val (.int p1), .val (.int p2), .val (.int p3), .val (.int (1 : Int32)), .val (.int (2 : Int32)), .unset, .unset, .unset, .unset, .unset] [(.ref ao), (.ref ao)])) (fun t_ k_ => XS.dup X17.here hx rfl (hb hby at_26) rfl rfl k_) ?_
    refine goCtor X17 hx hZ (y := (⟨"com/example/kenshinkit/kenshinkit/schema/OpenElements", "<init>", "()V"⟩ : MethodName)) rfl hown (hw _ (List.mem_of_getElem? (i := 3) rfl)) (hw _ (List.mem_of_getElem? (i := 4) rfl)) (hw _ (List.mem_of_getElem? (i := 2) rfl)) (hw _ (List.mem_of_getElem? (i := 5) rfl)) (by decide) (rm1 l Z a0 hw [] n0 h17 ao .null .null .null .null .null .null .null .null .null sz17 A17 F17_types F17_states F17_marks F17_prefixes F17_uris F17_keptValues F17_keptPrefixes F17_keptNamespaces F17_keptTypes F17_depth F17_boundary F17_bindings ge17) 1 (by decide) (by decide) (by rw [hml]; rfl) ao [] [(.ref ao)] (lenOf pd_0f51a560 rfl) rfl rfl rfl (hb hby at_27) (by decide) (by decide) fun v18 T18 h18 X18 hq18 => ?_
    obtain ⟨tA, sA, mA, rfl, K18c, p18_0, p18_1, p18_2, p18_3, p18_4, p18_5, p18_6, p18_7, p18_8, p18_9, p18_10, p18_11, p18_12, p18_13, p18_14, p18_15, p18_16, p18_17⟩ := hq18
    have f18_0 : Sta Z h18 "com/example/kenshinkit/kenshinkit/schema/ComplexType$Content" "EMPTY" "Lcom/example/kenshinkit/kenshinkit/schema/ComplexType$Content;" (.ref we) := sta_keep f17_0 K18c (allS ⟨_, A17⟩ all0)
    have f18_2 : Exa Z h18 ao "com/example/kenshinkit/kenshinkit/schema/OpenElements" := A17.keep K18c
    have sz18 : n0 ≤ h18.size := Nat.le_trans sz17 K18c.1
    show Go p e below _ T18 (mkF m 30 #[.val (.int p1), .val (.int p2), .val (.int p3), .val (.int (1 : Int32)), .val (.int (2 : Int32)), .unset, .unset, .unset, .unset, .unset] [(.ref ao)])
    refine Go.st (T' := T18) (g' := (mkF m 32 #[.val (.int p1), .val (.int p2), .val (.int p3), .val (.int (1 : Int32)), .val (.int (2 : Int32)), .val (.ref ao), .unset, .unset, .unset, .unset] [])) (fun t_ k_ => XS.astore X18.here hx rfl (hb hby at_30) rfl rfl (l' := #[.val (.int p1), .val (.int p2), .val (.int p3), .val (.int (1 : Int32)), .val (.int (2 : Int32)), .val (.ref ao), .unset, .unset, .unset, .unset]) rfl k_) ?_
    refine goNew X18 hx hZ hown (hw _ (List.mem_of_getElem? (i := 32) rfl)) (hw _ (List.mem_of_getElem? (i := 33) rfl)) (hw _ (List.mem_of_getElem? (i := 34) rfl)) (hb hby at_32) (by decide) (by decide) fun T19 h19 oA gb19 X19 E19 A19 D19 => ?_
    have ge19 : n0 ≤ oA := gb19 ▸ sz18
    have ne19_ao : ao ≠ oA := gb19 ▸ Nat.ne_of_lt p18_0.lt
    have ne19_tA : tA ≠ oA := gb19 ▸ Nat.ne_of_lt p18_7.lt
    have ne19_sA : sA ≠ oA := gb19 ▸ Nat.ne_of_lt p18_8.lt
    have ne19_mA : mA ≠ oA := gb19 ▸ Nat.ne_of_lt p18_9.lt
    have f19_0 : Sta Z h19 "com/example/kenshinkit/kenshinkit/schema/ComplexType$Content" "EMPTY" "Lcom/example/kenshinkit/kenshinkit/schema/ComplexType$Content;" (.ref we) := f18_0.ext E19
    have f19_2 : Exa Z h19 ao "com/example/kenshinkit/kenshinkit/schema/OpenElements" := p18_0.ext E19
    have f19_3 : Fld Z h19 ao "com/example/kenshinkit/kenshinkit/schema/OpenElements" "types" "[Lcom/example/kenshinkit/kenshinkit/schema/SchemaType;" (.ref tA) := p18_1.ext E19
    have f19_4 : Fld Z h19 ao "com/example/kenshinkit/kenshinkit/schema/OpenElements" "states" "[I" (.ref sA) := p18_2.ext E19
    have f19_5 : Fld Z h19 ao "com/example/kenshinkit/kenshinkit/schema/OpenElements" "marks" "[I" (.ref mA) := p18_3.ext E19
    have f19_6 : Fld Z h19 ao "com/example/kenshinkit/kenshinkit/schema/OpenElements" "depth" "I" (.int (0 : Int32)) := p18_4.ext E19
    have f19_7 : Fld Z h19 ao "com/example/kenshinkit/kenshinkit/schema/OpenElements" "boundary" "I" (.int (0 : Int32)) := p18_5.ext E19
    have f19_8 : Fld Z h19 ao "com/example/kenshinkit/kenshinkit/schema/OpenElements" "bindings" "I" (.int (0 : Int32)) := p18_6.ext E19
    have f19_9 : Exa Z h19 tA "[Lcom/example/kenshinkit/kenshinkit/schema/SchemaType;" := p18_7.ext E19
    have f19_10 : Exa Z h19 sA "[I" := p18_8.ext E19
    have f19_11 : Exa Z h19 mA "[I" := p18_9.ext E19
    have f19_12 : AO Z h19 tA "com/example/kenshinkit/kenshinkit/schema/SchemaType" := p18_10.ext E19
    have f19_13 : Ary Z h19 tA (.object "com/example/kenshinkit/kenshinkit/schema/SchemaType") 64 (fun _ => .null) := p18_11.ext E19
    have f19_14 : Ary Z h19 sA .int 64 (fun _ => .int 0) := p18_12.ext E19
    have f19_15 : Ary Z h19 mA .int 64 (fun _ => .int 0) := p18_13.ext E19
    have sz19 : n0 ≤ h19.size := Nat.le_trans sz18 E19.1
    have F19_content : Fld Z h19 oA "com/example/kenshinkit/kenshinkit/schema/ComplexType" "content" "Lcom/example/kenshinkit/kenshinkit/schema/ComplexType$Content;" .null := D19 (Or.inl (hw _ (List.mem_of_getElem? (i := 43) rfl))) (ty := (.object "com/example/kenshinkit/kenshinkit/schema/ComplexType$Content")) (by decide)
    have F19_uses : Fld Z h19 oA "com/example/kenshinkit/kenshinkit/schema/ComplexType" "uses" "[Lcom/example/kenshinkit/kenshinkit/schema/AttributeUse;" .null := D19 (Or.inl (hw _ (List.mem_of_getElem? (i := 47) rfl))) (ty := (.array (.object "com/example/kenshinkit/kenshinkit/schema/AttributeUse"))) (by decide)
    show Go p e below _ T19 (mkF m 35 #[.val (.int p1), .val (.int p2), .val (.int p3), .val (.int (1 : Int32)), .val (.int (2 : Int32)), .val (.ref ao), .unset, .unset, .unset, .unset] [(.ref oA)])
    refine Go.st (T' := T19) (g' := (mkF m 36 #[.val (.int p1), .val (.int p2), .val (.int p3), .val (.int (1 : Int32)), .val (.int (2 : Int32)), .val (.ref ao), .unset, .unset, .unset, .unset] [(.ref oA), (.ref oA)])) (fun t_ k_ => XS.dup X19.here hx rfl (hb hby at_35) rfl rfl k_) ?_
    refine goCtor X19 hx hZ (y := (⟨"com/example/kenshinkit/kenshinkit/schema/ComplexType", "<init>", "()V"⟩ : MethodName)) rfl hown (hw _ (List.mem_of_getElem? (i := 35) rfl)) (hw _ (List.mem_of_getElem? (i := 36) rfl)) (hw _ (List.mem_of_getElem? (i := 34) rfl)) (hw _ (List.mem_of_getElem? (i := 37) rfl)) (by decide) (rm3 l Z a0 hw [] n0 h19 oA .null .null we sz19 A19 F19_content F19_uses ge19 f19_0) 1 (by decide) (by decide) (by rw [hml]; rfl) oA [] [(.ref oA)] (lenOf pd_0f51a560 rfl) rfl rfl rfl (hb hby at_36) (by decide) (by decide) fun v20 T20 h20 X20 hq20 => ?_
    obtain ⟨rfl, K20c, p20_0⟩ := hq20
    have f20_0 : Sta Z h20 "com/example/kenshinkit/kenshinkit/schema/ComplexType$Content" "EMPTY" "Lcom/example/kenshinkit/kenshinkit/schema/ComplexType$Content;" (.ref we) := sta_keep f19_0 K20c (allS ⟨_, A19⟩ all0)
    have f20_2 : Exa Z h20 ao "com/example/kenshinkit/kenshinkit/schema/OpenElements" := f19_2.keep K20c
    have f20_3 : Fld Z h20 ao "com/example/kenshinkit/kenshinkit/schema/OpenElements" "types" "[Lcom/example/kenshinkit/kenshinkit/schema/SchemaType;" (.ref tA) := f19_3.keep K20c (ninS ne19_ao nin0)
    have f20_4 : Fld Z h20 ao "com/example/kenshinkit/kenshinkit/schema/OpenElements" "states" "[I" (.ref sA) := f19_4.keep K20c (ninS ne19_ao nin0)
    have f20_5 : Fld Z h20 ao "com/example/kenshinkit/kenshinkit/schema/OpenElements" "marks" "[I" (.ref mA) := f19_5.keep K20c (ninS ne19_ao nin0)
    have f20_6 : Fld Z h20 ao "com/example/kenshinkit/kenshinkit/schema/OpenElements" "depth" "I" (.int (0 : Int32)) := f19_6.keep K20c (ninS ne19_ao nin0)
    have f20_7 : Fld Z h20 ao "com/example/kenshinkit/kenshinkit/schema/OpenElements" "boundary" "I" (.int (0 : Int32)) := f19_7.keep K20c (ninS ne19_ao nin0)
    have f20_8 : Fld Z h20 ao "com/example/kenshinkit/kenshinkit/schema/OpenElements" "bindings" "I" (.int (0 : Int32)) := f19_8.keep K20c (ninS ne19_ao nin0)
    have f20_9 : Exa Z h20 tA "[Lcom/example/kenshinkit/kenshinkit/schema/SchemaType;" := f19_9.keep K20c
    have f20_10 : Exa Z h20 sA "[I" := f19_10.keep K20c
    have f20_11 : Exa Z h20 mA "[I" := f19_11.keep K20c
    have f20_12 : AO Z h20 tA "com/example/kenshinkit/kenshinkit/schema/SchemaType" := f19_12.keep K20c
    have f20_13 : Ary Z h20 tA (.object "com/example/kenshinkit/kenshinkit/schema/SchemaType") 64 (fun _ => .null) := f19_13.keep K20c (ninS ne19_tA nin0)
    have f20_14 : Ary Z h20 sA .int 64 (fun _ => .int 0) := f19_14.keep K20c (ninS ne19_sA nin0)
    have f20_15 : Ary Z h20 mA .int 64 (fun _ => .int 0) := f19_15.keep K20c (ninS ne19_mA nin0)
    have f20_25 : Exa Z h20 oA "com/example/kenshinkit/kenshinkit/schema/ComplexType" := A19.keep K20c
    have sz20 : n0 ≤ h20.size := Nat.le_trans sz19 K20c.1
    show Go p e below _ T20 (mkF m 39 #[.val (.int p1), .val (.int p2), .val (.int p3), .val (.int (1 : Int32)), .val (.int (2 : Int32)), .val (.ref ao), .unset, .unset, .unset, .unset] [(.ref oA)])
    refine Go.st (T' := T20) (g' := (mkF m 41 #[.val (.int p1), .val (.int p2), .val (.int p3), .val (.int (1 : Int32)), .val (.int (2 : Int32)), .val (.ref ao), .val (.ref oA), .unset, .unset, .unset] [])) (fun t_ k_ => XS.astore X20.here hx rfl (hb hby at_39) rfl rfl (l' := #[.val (.int p1), .val (.int p2), .val (.int p3), .val (.int (1 : Int32)), .val (.int (2 : Int32)), .val (.ref ao), .val (.ref oA), .unset, .unset, .unset]) rfl k_) ?_
    refine goNew X20 hx hZ hown (hw _ (List.mem_of_getElem? (i := 32) rfl)) (hw _ (List.mem_of_getElem? (i := 33) rfl)) (hw _ (List.mem_of_getElem? (i := 34) rfl)) (hb hby at_41) (by decide) (by decide) fun T21 h21 oB gb21 X21 E21 A21 D21 => ?_
    have ge21 : n0 ≤ oB := gb21 ▸ sz20
    have ne21_ao : ao ≠ oB := gb21 ▸ Nat.ne_of_lt f20_2.lt
    have ne21_tA : tA ≠ oB := gb21 ▸ Nat.ne_of_lt f20_9.lt
    have ne21_sA : sA ≠ oB := gb21 ▸ Nat.ne_of_lt f20_10.lt
    have ne21_mA : mA ≠ oB := gb21 ▸ Nat.ne_of_lt f20_11.lt
    have ne21_oA : oA ≠ oB := gb21 ▸ Nat.ne_of_lt p20_0.lt
    have f21_0 : Sta Z h21 "com/example/kenshinkit/kenshinkit/schema/ComplexType$Content" "EMPTY" "Lcom/example/kenshinkit/kenshinkit/schema/ComplexType$Content;" (.ref we) := f20_0.ext E21
    have f21_2 : Exa Z h21 ao "com/example/kenshinkit/kenshinkit/schema/OpenElements" := f20_2.ext E21
    have f21_3 : Fld Z h21 ao "com/example/kenshinkit/kenshinkit/schema/OpenElements" "types" "[Lcom/example/kenshinkit/kenshinkit/schema/SchemaType;" (.ref tA) := f20_3.ext E21
    have f21_4 : Fld Z h21 ao "com/example/kenshinkit/kenshinkit/schema/OpenElements" "states" "[I" (.ref sA) := f20_4.ext E21
    have f21_5 : Fld Z h21 ao "com/example/kenshinkit/kenshinkit/schema/OpenElements" "marks" "[I" (.ref mA) := f20_5.ext E21
    have f21_6 : Fld Z h21 ao "com/example/kenshinkit/kenshinkit/schema/OpenElements" "depth" "I" (.int (0 : Int32)) := f20_6.ext E21
    have f21_7 : Fld Z h21 ao "com/example/kenshinkit/kenshinkit/schema/OpenElements" "boundary" "I" (.int (0 : Int32)) := f20_7.ext E21
    have f21_8 : Fld Z h21 ao "com/example/kenshinkit/kenshinkit/schema/OpenElements" "bindings" "I" (.int (0 : Int32)) := f20_8.ext E21
    have f21_9 : Exa Z h21 tA "[Lcom/example/kenshinkit/kenshinkit/schema/SchemaType;" := f20_9.ext E21
    have f21_10 : Exa Z h21 sA "[I" := f20_10.ext E21
    have f21_11 : Exa Z h21 mA "[I" := f20_11.ext E21
    have f21_12 : AO Z h21 tA "com/example/kenshinkit/kenshinkit/schema/SchemaType" := f20_12.ext E21
    have f21_13 : Ary Z h21 tA (.object "com/example/kenshinkit/kenshinkit/schema/SchemaType") 64 (fun _ => .null) := f20_13.ext E21
    have f21_14 : Ary Z h21 sA .int 64 (fun _ => .int 0) := f20_14.ext E21
    have f21_15 : Ary Z h21 mA .int 64 (fun _ => .int 0) := f20_15.ext E21
    have f21_25 : Exa Z h21 oA "com/example/kenshinkit/kenshinkit/schema/ComplexType" := p20_0.ext E21
    have sz21 : n0 ≤ h21.size := Nat.le_trans sz20 E21.1
    have F21_content : Fld Z h21 oB "com/example/kenshinkit/kenshinkit/schema/ComplexType" "content" "Lcom/example/kenshinkit/kenshinkit/schema/ComplexType$Content;" .null := D21 (Or.inl (hw _ (List.mem_of_getElem? (i := 43) rfl))) (ty := (.object "com/example/kenshinkit/kenshinkit/schema/ComplexType$Content")) (by decide)
    have F21_uses : Fld Z h21 oB "com/example/kenshinkit/kenshinkit/schema/ComplexType" "uses" "[Lcom/example/kenshinkit/kenshinkit/schema/AttributeUse;" .null := D21 (Or.inl (hw _ (List.mem_of_getElem? (i := 47) rfl))) (ty := (.array (.object "com/example/kenshinkit/kenshinkit/schema/AttributeUse"))) (by decide)
    show Go p e below _ T21 (mkF m 44 #[.val (.int p1), .val (.int p2), .val (.int p3), .val (.int (1 : Int32)), .val (.int (2 : Int32)), .val (.ref ao), .val (.ref oA), .unset, .unset, .unset] [(.ref oB)])
    refine Go.st (T' := T21) (g' := (mkF m 45 #[.val (.int p1), .val (.int p2), .val (.int p3), .val (.int (1 : Int32)), .val (.int (2 : Int32)), .val (.ref ao), .val (.ref oA), .unset, .unset, .unset] [(.ref oB), (.ref oB)])) (fun t_ k_ => XS.dup X21.here hx rfl (hb hby at_44) rfl rfl k_) ?_
    refine goCtor X21 hx hZ (y := (⟨"com/example/kenshinkit/kenshinkit/schema/ComplexType", "<init>", "()V"⟩ : MethodName)) rfl hown (hw _ (List.mem_of_getElem? (i := 35) rfl)) (hw _ (List.mem_of_getElem? (i := 36) rfl)) (hw _ (List.mem_of_getElem? (i := 34) rfl)) (hw _ (List.mem_of_getElem? (i := 37) rfl)) (by decide) (rm3 l Z a0 hw [] n0 h21 oB .null .null we sz21 A21 F21_content F21_uses ge21 f21_0) 1 (by decide) (by decide) (by rw [hml]; rfl) oB [] [(.ref oB)] (lenOf pd_0f51a560 rfl) rfl rfl rfl (hb hby at_45) (by decide) (by decide) fun v22 T22 h22 X22 hq22 => ?_
    obtain ⟨rfl, K22c, p22_0⟩ := hq22
    have f22_0 : Sta Z h22 "com/example/kenshinkit/kenshinkit/schema/ComplexType$Content" "EMPTY" "Lcom/example/kenshinkit/kenshinkit/schema/ComplexType$Content;" (.ref we) := sta_keep f21_0 K22c (allS ⟨_, A21⟩ all0)
    have f22_2 : Exa Z h22 ao "com/example/kenshinkit/kenshinkit/schema/OpenElements" := f21_2.keep K22c
    have f22_3 : Fld Z h22 ao "com/example/kenshinkit/kenshinkit/schema/OpenElements" "types" "[Lcom/example/kenshinkit/kenshinkit/schema/SchemaType;" (.ref tA) := f21_3.keep K22c (ninS ne21_ao nin0)
    have f22_4 : Fld Z h22 ao "com/example/kenshinkit/kenshinkit/schema/OpenElements" "states" "[I" (.ref sA) := f21_4.keep K22c (ninS ne21_ao nin0)
    have f22_5 : Fld Z h22 ao "com/example/kenshinkit/kenshinkit/schema/OpenElements" "marks" "[I" (.ref mA) := f21_5.keep K22c (ninS ne21_ao nin0)
    have f22_6 : Fld Z h22 ao "com/example/kenshinkit/kenshinkit/schema/OpenElements" "depth" "I" (.int (0 : Int32)) := f21_6.keep K22c (ninS ne21_ao nin0)
    have f22_7 : Fld Z h22 ao "com/example/kenshinkit/kenshinkit/schema/OpenElements" "boundary" "I" (.int (0 : Int32)) := f21_7.keep K22c (ninS ne21_ao nin0)
    have f22_8 : Fld Z h22 ao "com/example/kenshinkit/kenshinkit/schema/OpenElements" "bindings" "I" (.int (0 : Int32)) := f21_8.keep K22c (ninS ne21_ao nin0)
    have f22_9 : Exa Z h22 tA "[Lcom/example/kenshinkit/kenshinkit/schema/SchemaType;" := f21_9.keep K22c
    have f22_10 : Exa Z h22 sA "[I" := f21_10.keep K22c
    have f22_11 : Exa Z h22 mA "[I" := f21_11.keep K22c
    have f22_12 : AO Z h22 tA "com/example/kenshinkit/kenshinkit/schema/SchemaType" := f21_12.keep K22c
    have f22_13 : Ary Z h22 tA (.object "com/example/kenshinkit/kenshinkit/schema/SchemaType") 64 (fun _ => .null) := f21_13.keep K22c (ninS ne21_tA nin0)
    have f22_14 : Ary Z h22 sA .int 64 (fun _ => .int 0) := f21_14.keep K22c (ninS ne21_sA nin0)
    have f22_15 : Ary Z h22 mA .int 64 (fun _ => .int 0) := f21_15.keep K22c (ninS ne21_mA nin0)
    have f22_25 : Exa Z h22 oA "com/example/kenshinkit/kenshinkit/schema/ComplexType" := f21_25.keep K22c
    have f22_32 : Exa Z h22 oB "com/example/kenshinkit/kenshinkit/schema/ComplexType" := A21.keep K22c
    have sz22 : n0 ≤ h22.size := Nat.le_trans sz21 K22c.1
    show Go p e below _ T22 (mkF m 48 #[.val (.int p1), .val (.int p2), .val (.int p3), .val (.int (1 : Int32)), .val (.int (2 : Int32)), .val (.ref ao), .val (.ref oA), .unset, .unset, .unset] [(.ref oB)])
    refine Go.st (T' := T22) (g' := (mkF m 50 #[.val (.int p1), .val (.int p2), .val (.int p3), .val (.int (1 : Int32)), .val (.int (2 : Int32)), .val (.ref ao), .val (.ref oA), .val (.ref oB), .unset, .unset] [])) (fun t_ k_ => XS.astore X22.here hx rfl (hb hby at_48) rfl rfl (l' := #[.val (.int p1), .val (.int p2), .val (.int p3), .val (.int (1 : Int32)), .val (.int (2 : Int32)), .val (.ref ao), .val (.ref oA), .val (.ref oB), .unset, .unset]) rfl k_) ?_
    refine Go.st (T' := T22) (g' := (mkF m 52 #[.val (.int p1), .val (.int p2), .val (.int p3), .val (.int (1 : Int32)), .val (.int (2 : Int32)), .val (.ref ao), .val (.ref oA), .val (.ref oB), .unset, .unset] [(.ref ao)])) (fun t_ k_ => XS.aload X22.here hx rfl (hb hby at_50) rfl rfl k_) ?_
    refine Go.st (T' := T22) (g' := (mkF m 54 #[.val (.int p1), .val (.int p2), .val (.int p3), .val (.int (1 : Int32)), .val (.int (2 : Int32)), .val (.ref ao), .val (.ref oA), .val (.ref oB), .unset, .unset] [(.ref oA), (.ref ao)])) (fun t_ k_ => XS.aload X22.here hx rfl (hb hby at_52) rfl rfl k_) ?_
    refine goVirtS X22 hx hZ (y := (⟨"com/example/kenshinkit/kenshinkit/schema/OpenElements", "push", "(Lcom/example/kenshinkit/kenshinkit/schema/SchemaType;)V"⟩ : MethodName)) hown (hw _ (List.mem_of_getElem? (i := 48) rfl)) (hw _ (List.mem_of_getElem? (i := 49) rfl)) (hw _ (List.mem_of_getElem? (i := 51) rfl)) (hw _ (List.mem_of_getElem? (i := 50) rfl)) (hw _ (List.mem_of_getElem? (i := 2) rfl)) (hw _ (List.mem_of_getElem? (i := 52) rfl)) (by decide) f22_2 (rm4 l Z a0 hw [] n0 h22 ao oA tA sA mA (0 : Int32) (0 : Int32) (0 : Int32) (fun _ => .null) (fun _ => 0) (fun _ => 0) sz22 f22_2 f22_25 f22_3 f22_4 f22_5 f22_6 f22_7 f22_8 f22_9 f22_10 f22_11 f22_12 f22_13 f22_14 f22_15 p18_14 ge17 p18_15 p18_16 p18_17 (by decide) (by decide)) 0 (by decide) (by decide) (by rw [hml]; rfl) [(.ref oA)] [] (lenOf pd_b9a6f732 rfl) rfl rfl rfl (hb hby at_54) (by decide) (by decide) fun v23 T23 h23 X23 hq23 => ?_
    obtain ⟨rfl, K23c, p23_0, p23_1, p23_2, p23_3, p23_4, p23_5, p23_6, p23_7, p23_8, p23_9, p23_10, p23_11, p23_12, p23_13⟩ := hq23
    have f23_0 : Sta Z h23 "com/example/kenshinkit/kenshinkit/schema/ComplexType$Content" "EMPTY" "Lcom/example/kenshinkit/kenshinkit/schema/ComplexType$Content;" (.ref we) := sta_keep f22_0 K23c (allS ⟨_, f22_2⟩ (allS ⟨_, f22_9⟩ (allS ⟨_, f22_10⟩ (allS ⟨_, f22_11⟩ all0))))
    have f23_2 : Exa Z h23 ao "com/example/kenshinkit/kenshinkit/schema/OpenElements" := f22_2.keep K23c
    have f23_3 : Exa Z h23 tA "[Lcom/example/kenshinkit/kenshinkit/schema/SchemaType;" := f22_9.keep K23c
    have f23_4 : Exa Z h23 sA "[I" := f22_10.keep K23c
    have f23_5 : Exa Z h23 mA "[I" := f22_11.keep K23c
    have f23_6 : AO Z h23 tA "com/example/kenshinkit/kenshinkit/schema/SchemaType" := f22_12.keep K23c
    have f23_16 : Exa Z h23 oA "com/example/kenshinkit/kenshinkit/schema/ComplexType" := f22_25.keep K23c
    have f23_23 : Exa Z h23 oB "com/example/kenshinkit/kenshinkit/schema/ComplexType" := p22_0.keep K23c
    have sz23 : n0 ≤ h23.size := Nat.le_trans sz22 K23c.1
    show Go p e below _ T23 (mkF m 57 #[.val (.int p1), .val (.int p2), .val (.int p3), .val (.int (1 : Int32)), .val (.int (2 : Int32)), .val (.ref ao), .val (.ref oA), .val (.ref oB), .unset, .unset] [])
    refine Go.st (T' := T23) (g' := (mkF m 59 #[.val (.int p1), .val (.int p2), .val (.int p3), .val (.int (1 : Int32)), .val (.int (2 : Int32)), .val (.ref ao), .val (.ref oA), .val (.ref oB), .unset, .unset] [(.ref ao)])) (fun t_ k_ => XS.aload X23.here hx rfl (hb hby at_57) rfl rfl k_) ?_
    refine Go.st (T' := T23) (g' := (mkF m 60 #[.val (.int p1), .val (.int p2), .val (.int p3), .val (.int (1 : Int32)), .val (.int (2 : Int32)), .val (.ref ao), .val (.ref oA), .val (.ref oB), .unset, .unset] [(.int (0 : Int32)), (.ref ao)])) (fun t_ k_ => XS.iconst X23.here hx rfl (hb hby at_59) k_) ?_
    refine Go.st (T' := T23) (g' := (mkF m 61 #[.val (.int p1), .val (.int p2), .val (.int p3), .val (.int (1 : Int32)), .val (.int (2 : Int32)), .val (.ref ao), .val (.ref oA), .val (.ref oB), .unset, .unset] [(.int p2), (.int (0 : Int32)), (.ref ao)])) (fun t_ k_ => XS.iloadN X23.here hx rfl (hb hby at_60) rfl k_) ?_
    refine goVirtS X23 hx hZ (y := (⟨"com/example/kenshinkit/kenshinkit/schema/OpenElements", "setState", "(II)V"⟩ : MethodName)) hown (hw _ (List.mem_of_getElem? (i := 60) rfl)) (hw _ (List.mem_of_getElem? (i := 61) rfl)) (hw _ (List.mem_of_getElem? (i := 63) rfl)) (hw _ (List.mem_of_getElem? (i := 62) rfl)) (hw _ (List.mem_of_getElem? (i := 2) rfl)) (hw _ (List.mem_of_getElem? (i := 64) rfl)) (by decide) p23_0 (rm5 l Z a0 hw [] n0 h23 ao (0 : Int32) p2 sA (fun i => (if i = ((0 : Int32)).toNatClampNeg then (0 : Int32) else (fun _ => 0) i)) sz23 p23_0 p23_2 p23_8 p23_12 p18_16 (by decide)) 0 (by decide) (by decide) (by rw [hml]; rfl) [(.int (0 : Int32)), (.int p2)] [] (lenOf pd_688a590a rfl) rfl rfl rfl (hb hby at_61) (by decide) (by decide) fun v24 T24 h24 X24 hq24 => ?_
    obtain ⟨rfl, K24c, p24_0⟩ := hq24
    have f24_0 : Sta Z h24 "com/example/kenshinkit/kenshinkit/schema/ComplexType$Content" "EMPTY" "Lcom/example/kenshinkit/kenshinkit/schema/ComplexType$Content;" (.ref we) := sta_keep f23_0 K24c (allS ⟨_, p23_8⟩ all0)
    have f24_2 : Exa Z h24 ao "com/example/kenshinkit/kenshinkit/schema/OpenElements" := p23_0.keep K24c
    have f24_3 : Exa Z h24 tA "[Lcom/example/kenshinkit/kenshinkit/schema/SchemaType;" := p23_7.keep K24c
    have f24_4 : Exa Z h24 sA "[I" := p23_8.keep K24c
    have f24_5 : Exa Z h24 mA "[I" := p23_9.keep K24c
    have f24_6 : AO Z h24 tA "com/example/kenshinkit/kenshinkit/schema/SchemaType" := p23_10.keep K24c
    have f24_16 : Exa Z h24 oA "com/example/kenshinkit/kenshinkit/schema/ComplexType" := f23_16.keep K24c
    have f24_23 : Exa Z h24 oB "com/example/kenshinkit/kenshinkit/schema/ComplexType" := f23_23.keep K24c
    have f24_24 : Fld Z h24 ao "com/example/kenshinkit/kenshinkit/schema/OpenElements" "types" "[Lcom/example/kenshinkit/kenshinkit/schema/SchemaType;" (.ref tA) := p23_1.keep K24c (ninS (ne_exa p23_0 p23_8 (by decide)) nin0)
    have f24_25 : Fld Z h24 ao "com/example/kenshinkit/kenshinkit/schema/OpenElements" "states" "[I" (.ref sA) := p23_2.keep K24c (ninS (ne_exa p23_0 p23_8 (by decide)) nin0)
    have f24_26 : Fld Z h24 ao "com/example/kenshinkit/kenshinkit/schema/OpenElements" "marks" "[I" (.ref mA) := p23_3.keep K24c (ninS (ne_exa p23_0 p23_8 (by decide)) nin0)
    have f24_27 : Fld Z h24 ao "com/example/kenshinkit/kenshinkit/schema/OpenElements" "depth" "I" (.int ((0 : Int32) + (1 : Int32))) := p23_4.keep K24c (ninS (ne_exa p23_0 p23_8 (by decide)) nin0)
    have f24_28 : Fld Z h24 ao "com/example/kenshinkit/kenshinkit/schema/OpenElements" "boundary" "I" (.int (0 : Int32)) := p23_5.keep K24c (ninS (ne_exa p23_0 p23_8 (by decide)) nin0)
    have f24_29 : Fld Z h24 ao "com/example/kenshinkit/kenshinkit/schema/OpenElements" "bindings" "I" (.int (0 : Int32)) := p23_6.keep K24c (ninS (ne_exa p23_0 p23_8 (by decide)) nin0)
    have f24_30 : Ary Z h24 tA (.object "com/example/kenshinkit/kenshinkit/schema/SchemaType") 64 (fun i => if i = ((0 : Int32)).toNatClampNeg then (.ref oA) else (fun _ => .null) i) := p23_11.keep K24c (ninS (ne_exa p23_7 p23_8 (by decide)) nin0)
    have f24_31 : Ary Z h24 mA .int 64 (fun i => .int (if i = ((0 : Int32)).toNatClampNeg then (0 : Int32) else (fun _ => 0) i)) := p23_13.keep K24c (ninS p18_14.symm nin0)
    have sz24 : n0 ≤ h24.size := Nat.le_trans sz23 K24c.1
    show Go p e below _ T24 (mkF m 64 #[.val (.int p1), .val (.int p2), .val (.int p3), .val (.int (1 : Int32)), .val (.int (2 : Int32)), .val (.ref ao), .val (.ref oA), .val (.ref oB), .unset, .unset] [])
    refine Go.st (T' := T24) (g' := (mkF m 65 #[.val (.int p1), .val (.int p2), .val (.int p3), .val (.int (1 : Int32)), .val (.int (2 : Int32)), .val (.ref ao), .val (.ref oA), .val (.ref oB), .unset, .unset] [(.int (1 : Int32))])) (fun t_ k_ => XS.iloadN X24.here hx rfl (hb hby at_64) rfl k_) ?_
    refine Go.st (T' := T24) (g' := (mkF m 68 #[.val (.int p1), .val (.int p2), .val (.int p3), .val (.int (1 : Int32)), .val (.int (2 : Int32)), .val (.ref ao), .val (.ref oA), .val (.ref oB), .unset, .unset] [])) (fun t_ k_ => XS.ifNo X24.here hx rfl (hb hby at_65) rfl (by decide) k_) ?_
    refine Go.st (T' := T24) (g' := (mkF m 70 #[.val (.int p1), .val (.int p2), .val (.int p3), .val (.int (1 : Int32)), .val (.int (2 : Int32)), .val (.ref ao), .val (.ref oA), .val (.ref oB), .unset, .unset] [(.ref ao)])) (fun t_ k_ => XS.aload X24.here hx rfl (hb hby at_68) rfl rfl k_) ?_
    refine Go.st (T' := T24) (g' := (mkF m 72 #[.val (.int p1), .val (.int p2), .val (.int p3), .val (.int (1 : Int32)), .val (.int (2 : Int32)), .val (.ref ao), .val (.ref oA), .val (.ref oB), .unset, .unset] [(.ref oB), (.ref ao)])) (fun t_ k_ => XS.aload X24.here hx rfl (hb hby at_70) rfl rfl k_) ?_
    refine goVirtS X24 hx hZ (y := (⟨"com/example/kenshinkit/kenshinkit/schema/OpenElements", "push", "(Lcom/example/kenshinkit/kenshinkit/schema/SchemaType;)V"⟩ : MethodName)) hown (hw _ (List.mem_of_getElem? (i := 48) rfl)) (hw _ (List.mem_of_getElem? (i := 49) rfl)) (hw _ (List.mem_of_getElem? (i := 51) rfl)) (hw _ (List.mem_of_getElem? (i := 50) rfl)) (hw _ (List.mem_of_getElem? (i := 2) rfl)) (hw _ (List.mem_of_getElem? (i := 52) rfl)) (by decide) f24_2 (rm4 l Z a0 hw [] n0 h24 ao oB tA sA mA ((0 : Int32) + (1 : Int32)) (0 : Int32) (0 : Int32) (fun i => if i = ((0 : Int32)).toNatClampNeg then (.ref oA) else (fun _ => .null) i) (fun i => (if i = ((0 : Int32)).toNatClampNeg then p2 else (fun i => (if i = ((0 : Int32)).toNatClampNeg then (0 : Int32) else (fun _ => 0) i)) i)) (fun i => (if i = ((0 : Int32)).toNatClampNeg then (0 : Int32) else (fun _ => 0) i)) sz24 f24_2 f24_23 f24_24 f24_25 f24_26 f24_27 f24_28 f24_29 f24_3 f24_4 f24_5 f24_6 f24_30 p24_0 f24_31 p18_14 ge17 p18_15 p18_16 p18_17 (by decide) (by decide)) 0 (by decide) (by decide) (by rw [hml]; rfl) [(.ref oB)] [] (lenOf pd_b9a6f732 rfl) rfl rfl rfl (hb hby at_72) (by decide) (by decide) fun v25 T25 h25 X25 hq25 => ?_
    obtain ⟨rfl, K25c, p25_0, p25_1, p25_2, p25_3, p25_4, p25_5, p25_6, p25_7, p25_8, p25_9, p25_10, p25_11, p25_12, p25_13⟩ := hq25
    have f25_0 : Sta Z h25 "com/example/kenshinkit/kenshinkit/schema/ComplexType$Content" "EMPTY" "Lcom/example/kenshinkit/kenshinkit/schema/ComplexType$Content;" (.ref we) := sta_keep f24_0 K25c (allS ⟨_, f24_2⟩ (allS ⟨_, f24_3⟩ (allS ⟨_, f24_4⟩ (allS ⟨_, f24_5⟩ all0))))
    have f25_2 : Exa Z h25 ao "com/example/kenshinkit/kenshinkit/schema/OpenElements" := f24_2.keep K25c
    have f25_3 : Exa Z h25 tA "[Lcom/example/kenshinkit/kenshinkit/schema/SchemaType;" := f24_3.keep K25c
    have f25_4 : Exa Z h25 sA "[I" := f24_4.keep K25c
    have f25_5 : Exa Z h25 mA "[I" := f24_5.keep K25c
    have f25_6 : AO Z h25 tA "com/example/kenshinkit/kenshinkit/schema/SchemaType" := f24_6.keep K25c
    have f25_16 : Exa Z h25 oA "com/example/kenshinkit/kenshinkit/schema/ComplexType" := f24_16.keep K25c
    have f25_23 : Exa Z h25 oB "com/example/kenshinkit/kenshinkit/schema/ComplexType" := f24_23.keep K25c
    have sz25 : n0 ≤ h25.size := Nat.le_trans sz24 K25c.1
    show Go p e below _ T25 (mkF m 75 #[.val (.int p1), .val (.int p2), .val (.int p3), .val (.int (1 : Int32)), .val (.int (2 : Int32)), .val (.ref ao), .val (.ref oA), .val (.ref oB), .unset, .unset] [])
    refine Go.st (T' := T25) (g' := (mkF m 77 #[.val (.int p1), .val (.int p2), .val (.int p3), .val (.int (1 : Int32)), .val (.int (2 : Int32)), .val (.ref ao), .val (.ref oA), .val (.ref oB), .unset, .unset] [(.ref ao)])) (fun t_ k_ => XS.aload X25.here hx rfl (hb hby at_75) rfl rfl k_) ?_
    refine Go.st (T' := T25) (g' := (mkF m 78 #[.val (.int p1), .val (.int p2), .val (.int p3), .val (.int (1 : Int32)), .val (.int (2 : Int32)), .val (.ref ao), .val (.ref oA), .val (.ref oB), .unset, .unset] [(.int (1 : Int32)), (.ref ao)])) (fun t_ k_ => XS.iconst X25.here hx rfl (hb hby at_77) k_) ?_
    refine Go.st (T' := T25) (g' := (mkF m 79 #[.val (.int p1), .val (.int p2), .val (.int p3), .val (.int (1 : Int32)), .val (.int (2 : Int32)), .val (.ref ao), .val (.ref oA), .val (.ref oB), .unset, .unset] [(.int p3), (.int (1 : Int32)), (.ref ao)])) (fun t_ k_ => XS.iloadN X25.here hx rfl (hb hby at_78) rfl k_) ?_
    refine goVirtS X25 hx hZ (y := (⟨"com/example/kenshinkit/kenshinkit/schema/OpenElements", "setState", "(II)V"⟩ : MethodName)) hown (hw _ (List.mem_of_getElem? (i := 60) rfl)) (hw _ (List.mem_of_getElem? (i := 61) rfl)) (hw _ (List.mem_of_getElem? (i := 63) rfl)) (hw _ (List.mem_of_getElem? (i := 62) rfl)) (hw _ (List.mem_of_getElem? (i := 2) rfl)) (hw _ (List.mem_of_getElem? (i := 64) rfl)) (by decide) p25_0 (rm5 l Z a0 hw [] n0 h25 ao (1 : Int32) p3 sA (fun i => (if i = (((0 : Int32) + (1 : Int32))).toNatClampNeg then (0 : Int32) else (fun i => (if i = ((0 : Int32)).toNatClampNeg then p2 else (fun i => (if i = ((0 : Int32)).toNatClampNeg then (0 : Int32) else (fun _ => 0) i)) i)) i)) sz25 p25_0 p25_2 p25_8 p25_12 p18_16 (by decide)) 0 (by decide) (by decide) (by rw [hml]; rfl) [(.int (1 : Int32)), (.int p3)] [] (lenOf pd_688a590a rfl) rfl rfl rfl (hb hby at_79) (by decide) (by decide) fun v26 T26 h26 X26 hq26 => ?_
    obtain ⟨rfl, K26c, p26_0⟩ := hq26
    have f26_0 : Sta Z h26 "com/example/kenshinkit/kenshinkit/schema/ComplexType$Content" "EMPTY" "Lcom/example/kenshinkit/kenshinkit/schema/ComplexType$Content;" (.ref we) := sta_keep f25_0 K26c (allS ⟨_, p25_8⟩ all0)
    have f26_2 : Exa Z h26 ao "com/example/kenshinkit/kenshinkit/schema/OpenElements" := p25_0.keep K26c
    have f26_3 : Exa Z h26 tA "[Lcom/example/kenshinkit/kenshinkit/schema/SchemaType;" := p25_7.keep K26c
    have f26_4 : Exa Z h26 sA "[I" := p25_8.keep K26c
    have f26_5 : Exa Z h26 mA "[I" := p25_9.keep K26c
    have f26_6 : AO Z h26 tA "com/example/kenshinkit/kenshinkit/schema/SchemaType" := p25_10.keep K26c
    have f26_16 : Exa Z h26 oA "com/example/kenshinkit/kenshinkit/schema/ComplexType" := f25_16.keep K26c
    have f26_23 : Exa Z h26 oB "com/example/kenshinkit/kenshinkit/schema/ComplexType" := f25_23.keep K26c
    have f26_24 : Fld Z h26 ao "com/example/kenshinkit/kenshinkit/schema/OpenElements" "types" "[Lcom/example/kenshinkit/kenshinkit/schema/SchemaType;" (.ref tA) := p25_1.keep K26c (ninS (ne_exa p25_0 p25_8 (by decide)) nin0)
    have f26_25 : Fld Z h26 ao "com/example/kenshinkit/kenshinkit/schema/OpenElements" "states" "[I" (.ref sA) := p25_2.keep K26c (ninS (ne_exa p25_0 p25_8 (by decide)) nin0)
    have f26_26 : Fld Z h26 ao "com/example/kenshinkit/kenshinkit/schema/OpenElements" "marks" "[I" (.ref mA) := p25_3.keep K26c (ninS (ne_exa p25_0 p25_8 (by decide)) nin0)
    have f26_27 : Fld Z h26 ao "com/example/kenshinkit/kenshinkit/schema/OpenElements" "depth" "I" (.int (((0 : Int32) + (1 : Int32)) + (1 : Int32))) := p25_4.keep K26c (ninS (ne_exa p25_0 p25_8 (by decide)) nin0)
    have f26_28 : Fld Z h26 ao "com/example/kenshinkit/kenshinkit/schema/OpenElements" "boundary" "I" (.int (0 : Int32)) := p25_5.keep K26c (ninS (ne_exa p25_0 p25_8 (by decide)) nin0)
    have f26_29 : Fld Z h26 ao "com/example/kenshinkit/kenshinkit/schema/OpenElements" "bindings" "I" (.int (0 : Int32)) := p25_6.keep K26c (ninS (ne_exa p25_0 p25_8 (by decide)) nin0)
    have f26_30 : Ary Z h26 tA (.object "com/example/kenshinkit/kenshinkit/schema/SchemaType") 64 (fun i => if i = (((0 : Int32) + (1 : Int32))).toNatClampNeg then (.ref oB) else (fun i => if i = ((0 : Int32)).toNatClampNeg then (.ref oA) else (fun _ => .null) i) i) := p25_11.keep K26c (ninS (ne_exa p25_7 p25_8 (by decide)) nin0)
    have f26_31 : Ary Z h26 mA .int 64 (fun i => .int (if i = (((0 : Int32) + (1 : Int32))).toNatClampNeg then (0 : Int32) else (fun i => (if i = ((0 : Int32)).toNatClampNeg then (0 : Int32) else (fun _ => 0) i)) i)) := p25_13.keep K26c (ninS p18_14.symm nin0)
    have sz26 : n0 ≤ h26.size := Nat.le_trans sz25 K26c.1
    show Go p e below _ T26 (mkF m 82 #[.val (.int p1), .val (.int p2), .val (.int p3), .val (.int (1 : Int32)), .val (.int (2 : Int32)), .val (.ref ao), .val (.ref oA), .val (.ref oB), .unset, .unset] [])
    refine Go.st (T' := T26) (g' := (mkF m 84 #[.val (.int p1), .val (.int p2), .val (.int p3), .val (.int (1 : Int32)), .val (.int (2 : Int32)), .val (.ref ao), .val (.ref oA), .val (.ref oB), .unset, .unset] [(.ref ao)])) (fun t_ k_ => XS.aload X26.here hx rfl (hb hby at_82) rfl rfl k_) ?_
    refine goVirtS X26 hx hZ (y := (⟨"com/example/kenshinkit/kenshinkit/schema/OpenElements", "pop", "()V"⟩ : MethodName)) hown (hw _ (List.mem_of_getElem? (i := 65) rfl)) (hw _ (List.mem_of_getElem? (i := 66) rfl)) (hw _ (List.mem_of_getElem? (i := 68) rfl)) (hw _ (List.mem_of_getElem? (i := 67) rfl)) (hw _ (List.mem_of_getElem? (i := 2) rfl)) (hw _ (List.mem_of_getElem? (i := 69) rfl)) (by decide) f26_2 (rm6 l Z a0 hw [] n0 h26 ao tA sA mA (((0 : Int32) + (1 : Int32)) + (1 : Int32)) (0 : Int32) (0 : Int32) (fun i => (if i = (((0 : Int32) + (1 : Int32))).toNatClampNeg then (0 : Int32) else (fun i => (if i = ((0 : Int32)).toNatClampNeg then (0 : Int32) else (fun _ => 0) i)) i)) sz26 f26_2 f26_26 f26_27 f26_28 f26_29 f26_5 f26_31 ge17 f26_24 f26_25 (by decide)) 0 (by decide) (by decide) (by rw [hml]; rfl) [] [] (lenOf pd_0f51a560 rfl) rfl rfl rfl (hb hby at_84) (by decide) (by decide) fun v27 T27 h27 X27 hq27 => ?_
    obtain ⟨rfl, K27c, p27_0, p27_1, p27_2, p27_3, p27_4, p27_5, p27_6⟩ := hq27
    have f27_0 : Sta Z h27 "com/example/kenshinkit/kenshinkit/schema/ComplexType$Content" "EMPTY" "Lcom/example/kenshinkit/kenshinkit/schema/ComplexType$Content;" (.ref we) := sta_keep f26_0 K27c (allS ⟨_, f26_2⟩ all0)
    have f27_2 : Exa Z h27 ao "com/example/kenshinkit/kenshinkit/schema/OpenElements" := f26_2.keep K27c
    have f27_3 : Exa Z h27 tA "[Lcom/example/kenshinkit/kenshinkit/schema/SchemaType;" := f26_3.keep K27c
    have f27_4 : Exa Z h27 sA "[I" := f26_4.keep K27c
    have f27_5 : Exa Z h27 mA "[I" := f26_5.keep K27c
    have f27_6 : AO Z h27 tA "com/example/kenshinkit/kenshinkit/schema/SchemaType" := f26_6.keep K27c
    have f27_16 : Exa Z h27 oA "com/example/kenshinkit/kenshinkit/schema/ComplexType" := f26_16.keep K27c
    have f27_23 : Exa Z h27 oB "com/example/kenshinkit/kenshinkit/schema/ComplexType" := f26_23.keep K27c
    have f27_24 : Ary Z h27 tA (.object "com/example/kenshinkit/kenshinkit/schema/SchemaType") 64 (fun i => if i = (((0 : Int32) + (1 : Int32))).toNatClampNeg then (.ref oB) else (fun i => if i = ((0 : Int32)).toNatClampNeg then (.ref oA) else (fun _ => .null) i) i) := f26_30.keep K27c (ninS (ne_exa f26_3 f26_2 (by decide)) nin0)
    have f27_25 : Ary Z h27 mA .int 64 (fun i => .int (if i = (((0 : Int32) + (1 : Int32))).toNatClampNeg then (0 : Int32) else (fun i => (if i = ((0 : Int32)).toNatClampNeg then (0 : Int32) else (fun _ => 0) i)) i)) := f26_31.keep K27c (ninS (ne_exa f26_5 f26_2 (by decide)) nin0)
    have f27_26 : Ary Z h27 sA .int 64 (fun i => .int (if i = ((1 : Int32)).toNatClampNeg then p3 else (fun i => (if i = (((0 : Int32) + (1 : Int32))).toNatClampNeg then (0 : Int32) else (fun i => (if i = ((0 : Int32)).toNatClampNeg then p2 else (fun i => (if i = ((0 : Int32)).toNatClampNeg then (0 : Int32) else (fun _ => 0) i)) i)) i)) i)) := p26_0.keep K27c (ninS (ne_exa f26_4 f26_2 (by decide)) nin0)
    have sz27 : n0 ≤ h27.size := Nat.le_trans sz26 K27c.1
    show Go p e below _ T27 (mkF m 87 #[.val (.int p1), .val (.int p2), .val (.int p3), .val (.int (1 : Int32)), .val (.int (2 : Int32)), .val (.ref ao), .val (.ref oA), .val (.ref oB), .unset, .unset] [])
    refine Go.st (T' := T27) (g' := (mkF m 89 #[.val (.int p1), .val (.int p2), .val (.int p3), .val (.int (1 : Int32)), .val (.int (2 : Int32)), .val (.ref ao), .val (.ref oA), .val (.ref oB), .unset, .unset] [(.ref ao)])) (fun t_ k_ => XS.aload X27.here hx rfl (hb hby at_87) rfl rfl k_) ?_
    refine goVirtS X27 hx hZ (y := (⟨"com/example/kenshinkit/kenshinkit/schema/OpenElements", "depth", "()I"⟩ : MethodName)) hown (hw _ (List.mem_of_getElem? (i := 70) rfl)) (hw _ (List.mem_of_getElem? (i := 71) rfl)) (hw _ (List.mem_of_getElem? (i := 73) rfl)) (hw _ (List.mem_of_getElem? (i := 72) rfl)) (hw _ (List.mem_of_getElem? (i := 2) rfl)) (hw _ (List.mem_of_getElem? (i := 74) rfl)) (by decide) p27_0 (rm7 l Z a0 hw [] n0 h27 ao ((((0 : Int32) + (1 : Int32)) + (1 : Int32)) - (1 : Int32)) sz27 p27_1) 0 (by decide) (by decide) (by rw [hml]; rfl) [] [] (lenOf pd_8259a895 rfl) rfl rfl rfl (hb hby at_89) (by decide) (by decide) fun v28 T28 h28 X28 hq28 => ?_
    obtain ⟨rfl, eh28⟩ := hq28
    rw [eh28] at X28
    show Go p e below _ T28 (mkF m 92 #[.val (.int p1), .val (.int p2), .val (.int p3), .val (.int (1 : Int32)), .val (.int (2 : Int32)), .val (.ref ao), .val (.ref oA), .val (.ref oB), .unset, .unset] [(.int ((((0 : Int32) + (1 : Int32)) + (1 : Int32)) - (1 : Int32)))])
    refine Go.st (T' := T28) (g' := (mkF m 94 #[.val (.int p1), .val (.int p2), .val (.int p3), .val (.int (1 : Int32)), .val (.int (2 : Int32)), .val (.ref ao), .val (.ref oA), .val (.ref oB), .unset, .unset] [(.int (2 : Int32)), (.int ((((0 : Int32) + (1 : Int32)) + (1 : Int32)) - (1 : Int32)))])) (fun t_ k_ => XS.iload X28.here hx rfl (hb hby at_92) rfl k_) ?_
    refine Go.st (T' := T28) (g' := (mkF m 95 #[.val (.int p1), .val (.int p2), .val (.int p3), .val (.int (1 : Int32)), .val (.int (2 : Int32)), .val (.ref ao), .val (.ref oA), .val (.ref oB), .unset, .unset] [(.int (1 : Int32)), (.int (2 : Int32)), (.int ((((0 : Int32) + (1 : Int32)) + (1 : Int32)) - (1 : Int32)))])) (fun t_ k_ => XS.iconst X28.here hx rfl (hb hby at_94) k_) ?_
    refine Go.st (T' := T28) (g' := (mkF m 96 #[.val (.int p1), .val (.int p2), .val (.int p3), .val (.int (1 : Int32)), .val (.int (2 : Int32)), .val (.ref ao), .val (.ref oA), .val (.ref oB), .unset, .unset] [(.int ((2 : Int32) - (1 : Int32))), (.int ((((0 : Int32) + (1 : Int32)) + (1 : Int32)) - (1 : Int32)))])) (fun t_ k_ => XS.isub X28.here hx rfl (hb hby at_95) rfl k_) ?_
    have hc96 : ((((0 : Int32) + (1 : Int32)) + (1 : Int32)) - (1 : Int32)) = ((2 : Int32) - (1 : Int32)) := rfl
    refine Go.st (T' := T28) (g' := (mkF m 99 #[.val (.int p1), .val (.int p2), .val (.int p3), .val (.int (1 : Int32)), .val (.int (2 : Int32)), .val (.ref ao), .val (.ref oA), .val (.ref oB), .unset, .unset] [])) (fun t_ k_ => XS.icmpNo X28.here hx rfl (hb hby at_96) rfl (teq hc96).2 k_) ?_
    refine Go.st (T' := T28) (g' := (mkF m 100 #[.val (.int p1), .val (.int p2), .val (.int p3), .val (.int (1 : Int32)), .val (.int (2 : Int32)), .val (.ref ao), .val (.ref oA), .val (.ref oB), .unset, .unset] [(.int (1 : Int32))])) (fun t_ k_ => XS.iconst X28.here hx rfl (hb hby at_99) k_) ?_
    refine Go.st (T' := T28) (g' := (mkF m 104 #[.val (.int p1), .val (.int p2), .val (.int p3), .val (.int (1 : Int32)), .val (.int (2 : Int32)), .val (.ref ao), .val (.ref oA), .val (.ref oB), .unset, .unset] [(.int (1 : Int32))])) (fun t_ k_ => XS.goto X28.here hx rfl (pc0 := 100) (pc' := 104) rfl (hb hby at_100) (by decide) (by decide) k_) ?_
    refine Go.st (T' := T28) (g' := (mkF m 106 #[.val (.int p1), .val (.int p2), .val (.int p3), .val (.int (1 : Int32)), .val (.int (2 : Int32)), .val (.ref ao), .val (.ref oA), .val (.ref oB), .val (.int (1 : Int32)), .unset] [])) (fun t_ k_ => XS.istore X28.here hx rfl (hb hby at_104) rfl (l' := #[.val (.int p1), .val (.int p2), .val (.int p3), .val (.int (1 : Int32)), .val (.int (2 : Int32)), .val (.ref ao), .val (.ref oA), .val (.ref oB), .val (.int (1 : Int32)), .unset]) rfl k_) ?_
    refine Go.st (T' := T28) (g' := (mkF m 107 #[.val (.int p1), .val (.int p2), .val (.int p3), .val (.int (1 : Int32)), .val (.int (2 : Int32)), .val (.ref ao), .val (.ref oA), .val (.ref oB), .val (.int (1 : Int32)), .unset] [(.int (1 : Int32))])) (fun t_ k_ => XS.iloadN X28.here hx rfl (hb hby at_106) rfl k_) ?_
    refine Go.st (T' := T28) (g' := (mkF m 110 #[.val (.int p1), .val (.int p2), .val (.int p3), .val (.int (1 : Int32)), .val (.int (2 : Int32)), .val (.ref ao), .val (.ref oA), .val (.ref oB), .val (.int (1 : Int32)), .unset] [])) (fun t_ k_ => XS.ifNo X28.here hx rfl (hb hby at_107) rfl (by decide) k_) ?_
    refine Go.st (T' := T28) (g' := (mkF m 112 #[.val (.int p1), .val (.int p2), .val (.int p3), .val (.int (1 : Int32)), .val (.int (2 : Int32)), .val (.ref ao), .val (.ref oA), .val (.ref oB), .val (.int (1 : Int32)), .unset] [(.int (1 : Int32))])) (fun t_ k_ => XS.iload X28.here hx rfl (hb hby at_110) rfl k_) ?_
    refine Go.st (T' := T28) (g' := (mkF m 115 #[.val (.int p1), .val (.int p2), .val (.int p3), .val (.int (1 : Int32)), .val (.int (2 : Int32)), .val (.ref ao), .val (.ref oA), .val (.ref oB), .val (.int (1 : Int32)), .unset] [])) (fun t_ k_ => XS.ifNo X28.here hx rfl (hb hby at_112) rfl (by decide) k_) ?_
    refine Go.st (T' := T28) (g' := (mkF m 117 #[.val (.int p1), .val (.int p2), .val (.int p3), .val (.int (1 : Int32)), .val (.int (2 : Int32)), .val (.ref ao), .val (.ref oA), .val (.ref oB), .val (.int (1 : Int32)), .unset] [(.ref ao)])) (fun t_ k_ => XS.aload X28.here hx rfl (hb hby at_115) rfl rfl k_) ?_
    refine Go.st (T' := T28) (g' := (mkF m 118 #[.val (.int p1), .val (.int p2), .val (.int p3), .val (.int (1 : Int32)), .val (.int (2 : Int32)), .val (.ref ao), .val (.ref oA), .val (.ref oB), .val (.int (1 : Int32)), .unset] [(.int (0 : Int32)), (.ref ao)])) (fun t_ k_ => XS.iconst X28.here hx rfl (hb hby at_117) k_) ?_
    refine goVirtS X28 hx hZ (y := (⟨"com/example/kenshinkit/kenshinkit/schema/OpenElements", "type", "(I)Lcom/example/kenshinkit/kenshinkit/schema/SchemaType;"⟩ : MethodName)) hown (hw _ (List.mem_of_getElem? (i := 75) rfl)) (hw _ (List.mem_of_getElem? (i := 76) rfl)) (hw _ (List.mem_of_getElem? (i := 78) rfl)) (hw _ (List.mem_of_getElem? (i := 77) rfl)) (hw _ (List.mem_of_getElem? (i := 2) rfl)) (hw _ (List.mem_of_getElem? (i := 79) rfl)) (by decide) p27_0 (rm8 l Z a0 hw [] n0 h27 ao (0 : Int32) tA (fun i => if i = (((0 : Int32) + (1 : Int32))).toNatClampNeg then (.ref oB) else (fun i => if i = ((0 : Int32)).toNatClampNeg then (.ref oA) else (fun _ => .null) i) i) oA sz27 p27_4 f27_24 (by decide) (rfl)) 0 (by decide) (by decide) (by rw [hml]; rfl) [(.int (0 : Int32))] [] (lenOf pd_f72ca27d rfl) rfl rfl rfl (hb hby at_118) (by decide) (by decide) fun v29 T29 h29 X29 hq29 => ?_
    obtain ⟨rfl, eh29⟩ := hq29
    rw [eh29] at X29
    show Go p e below _ T29 (mkF m 121 #[.val (.int p1), .val (.int p2), .val (.int p3), .val (.int (1 : Int32)), .val (.int (2 : Int32)), .val (.ref ao), .val (.ref oA), .val (.ref oB), .val (.int (1 : Int32)), .unset] [(.ref oA)])
    refine Go.st (T' := T29) (g' := (mkF m 123 #[.val (.int p1), .val (.int p2), .val (.int p3), .val (.int (1 : Int32)), .val (.int (2 : Int32)), .val (.ref ao), .val (.ref oA), .val (.ref oB), .val (.int (1 : Int32)), .unset] [(.ref oA), (.ref oA)])) (fun t_ k_ => XS.aload X29.here hx rfl (hb hby at_121) rfl rfl k_) ?_
    refine Go.st (T' := T29) (g' := (mkF m 126 #[.val (.int p1), .val (.int p2), .val (.int p3), .val (.int (1 : Int32)), .val (.int (2 : Int32)), .val (.ref ao), .val (.ref oA), .val (.ref oB), .val (.int (1 : Int32)), .unset] [])) (fun t_ k_ => XS.acmpNo X29.here hx rfl (hb hby at_123) rfl (acT rfl).2 k_) ?_
    refine Go.st (T' := T29) (g' := (mkF m 128 #[.val (.int p1), .val (.int p2), .val (.int p3), .val (.int (1 : Int32)), .val (.int (2 : Int32)), .val (.ref ao), .val (.ref oA), .val (.ref oB), .val (.int (1 : Int32)), .unset] [(.ref ao)])) (fun t_ k_ => XS.aload X29.here hx rfl (hb hby at_126) rfl rfl k_) ?_
    refine Go.st (T' := T29) (g' := (mkF m 129 #[.val (.int p1), .val (.int p2), .val (.int p3), .val (.int (1 : Int32)), .val (.int (2 : Int32)), .val (.ref ao), .val (.ref oA), .val (.ref oB), .val (.int (1 : Int32)), .unset] [(.int (0 : Int32)), (.ref ao)])) (fun t_ k_ => XS.iconst X29.here hx rfl (hb hby at_128) k_) ?_
    refine goVirtS X29 hx hZ (y := (⟨"com/example/kenshinkit/kenshinkit/schema/OpenElements", "state", "(I)I"⟩ : MethodName)) hown (hw _ (List.mem_of_getElem? (i := 80) rfl)) (hw _ (List.mem_of_getElem? (i := 81) rfl)) (hw _ (List.mem_of_getElem? (i := 83) rfl)) (hw _ (List.mem_of_getElem? (i := 82) rfl)) (hw _ (List.mem_of_getElem? (i := 2) rfl)) (hw _ (List.mem_of_getElem? (i := 84) rfl)) (by decide) p27_0 (rm9 l Z a0 hw [] n0 h27 ao (0 : Int32) p2 sA (fun i => (if i = ((1 : Int32)).toNatClampNeg then p3 else (fun i => (if i = (((0 : Int32) + (1 : Int32))).toNatClampNeg then (0 : Int32) else (fun i => (if i = ((0 : Int32)).toNatClampNeg then p2 else (fun i => (if i = ((0 : Int32)).toNatClampNeg then (0 : Int32) else (fun _ => 0) i)) i)) i)) i)) sz27 p27_5 f27_26 (by decide) (rfl)) 0 (by decide) (by decide) (by rw [hml]; rfl) [(.int (0 : Int32))] [] (lenOf pd_70cf885d rfl) rfl rfl rfl (hb hby at_129) (by decide) (by decide) fun v30 T30 h30 X30 hq30 => ?_
    obtain ⟨rfl, eh30⟩ := hq30
    rw [eh30] at X30
    show Go p e below _ T30 (mkF m 132 #[.val (.int p1), .val (.int p2), .val (.int p3), .val (.int (1 : Int32)), .val (.int (2 : Int32)), .val (.ref ao), .val (.ref oA), .val (.ref oB), .val (.int (1 : Int32)), .unset] [(.int p2)])
    refine Go.st (T' := T30) (g' := (mkF m 133 #[.val (.int p1), .val (.int p2), .val (.int p3), .val (.int (1 : Int32)), .val (.int (2 : Int32)), .val (.ref ao), .val (.ref oA), .val (.ref oB), .val (.int (1 : Int32)), .unset] [(.int p2), (.int p2)])) (fun t_ k_ => XS.iloadN X30.here hx rfl (hb hby at_132) rfl k_) ?_
    have hc133 : p2 = p2 := rfl
    refine Go.st (T' := T30) (g' := (mkF m 136 #[.val (.int p1), .val (.int p2), .val (.int p3), .val (.int (1 : Int32)), .val (.int (2 : Int32)), .val (.ref ao), .val (.ref oA), .val (.ref oB), .val (.int (1 : Int32)), .unset] [])) (fun t_ k_ => XS.icmpNo X30.here hx rfl (hb hby at_133) rfl (teq hc133).2 k_) ?_
    refine Go.st (T' := T30) (g' := (mkF m 137 #[.val (.int p1), .val (.int p2), .val (.int p3), .val (.int (1 : Int32)), .val (.int (2 : Int32)), .val (.ref ao), .val (.ref oA), .val (.ref oB), .val (.int (1 : Int32)), .unset] [(.int (1 : Int32))])) (fun t_ k_ => XS.iconst X30.here hx rfl (hb hby at_136) k_) ?_
    refine Go.st (T' := T30) (g' := (mkF m 141 #[.val (.int p1), .val (.int p2), .val (.int p3), .val (.int (1 : Int32)), .val (.int (2 : Int32)), .val (.ref ao), .val (.ref oA), .val (.ref oB), .val (.int (1 : Int32)), .unset] [(.int (1 : Int32))])) (fun t_ k_ => XS.goto X30.here hx rfl (pc0 := 137) (pc' := 141) rfl (hb hby at_137) (by decide) (by decide) k_) ?_
    refine Go.st (T' := T30) (g' := (mkF m 143 #[.val (.int p1), .val (.int p2), .val (.int p3), .val (.int (1 : Int32)), .val (.int (2 : Int32)), .val (.ref ao), .val (.ref oA), .val (.ref oB), .val (.int (1 : Int32)), .unset] [])) (fun t_ k_ => XS.istore X30.here hx rfl (hb hby at_141) rfl (l' := #[.val (.int p1), .val (.int p2), .val (.int p3), .val (.int (1 : Int32)), .val (.int (2 : Int32)), .val (.ref ao), .val (.ref oA), .val (.ref oB), .val (.int (1 : Int32)), .unset]) rfl k_) ?_
    refine Go.st (T' := T30) (g' := (mkF m 144 #[.val (.int p1), .val (.int p2), .val (.int p3), .val (.int (1 : Int32)), .val (.int (2 : Int32)), .val (.ref ao), .val (.ref oA), .val (.ref oB), .val (.int (1 : Int32)), .unset] [(.int (1 : Int32))])) (fun t_ k_ => XS.iloadN X30.here hx rfl (hb hby at_143) rfl k_) ?_
    refine Go.st (T' := T30) (g' := (mkF m 147 #[.val (.int p1), .val (.int p2), .val (.int p3), .val (.int (1 : Int32)), .val (.int (2 : Int32)), .val (.ref ao), .val (.ref oA), .val (.ref oB), .val (.int (1 : Int32)), .unset] [])) (fun t_ k_ => XS.ifNo X30.here hx rfl (hb hby at_144) rfl (by decide) k_) ?_
    refine Go.st (T' := T30) (g' := (mkF m 149 #[.val (.int p1), .val (.int p2), .val (.int p3), .val (.int (1 : Int32)), .val (.int (2 : Int32)), .val (.ref ao), .val (.ref oA), .val (.ref oB), .val (.int (1 : Int32)), .unset] [(.ref oA)])) (fun t_ k_ => XS.aload X30.here hx rfl (hb hby at_147) rfl rfl k_) ?_
    refine Go.st (T' := T30) (g' := (mkF m 154 #[.val (.int p1), .val (.int p2), .val (.int p3), .val (.int (1 : Int32)), .val (.int (2 : Int32)), .val (.ref ao), .val (.ref oA), .val (.ref oB), .val (.int (1 : Int32)), .unset] [(.ref oA)])) (fun t_ k_ => XS.goto X30.here hx rfl (pc0 := 149) (pc' := 154) rfl (hb hby at_149) (by decide) (by decide) k_) ?_
    refine Go.st (T' := T30) (g' := (mkF m 156 #[.val (.int p1), .val (.int p2), .val (.int p3), .val (.int (1 : Int32)), .val (.int (2 : Int32)), .val (.ref ao), .val (.ref oA), .val (.ref oB), .val (.int (1 : Int32)), .val (.ref oA)] [])) (fun t_ k_ => XS.astore X30.here hx rfl (hb hby at_154) rfl rfl (l' := #[.val (.int p1), .val (.int p2), .val (.int p3), .val (.int (1 : Int32)), .val (.int (2 : Int32)), .val (.ref ao), .val (.ref oA), .val (.ref oB), .val (.int (1 : Int32)), .val (.ref oA)]) rfl k_) ?_
    refine Go.st (T' := T30) (g' := (mkF m 158 #[.val (.int p1), .val (.int p2), .val (.int p3), .val (.int (1 : Int32)), .val (.int (2 : Int32)), .val (.ref ao), .val (.ref oA), .val (.ref oB), .val (.int (1 : Int32)), .val (.ref oA)] [(.ref ao)])) (fun t_ k_ => XS.aload X30.here hx rfl (hb hby at_156) rfl rfl k_) ?_
    refine Go.st (T' := T30) (g' := (mkF m 160 #[.val (.int p1), .val (.int p2), .val (.int p3), .val (.int (1 : Int32)), .val (.int (2 : Int32)), .val (.ref ao), .val (.ref oA), .val (.ref oB), .val (.int (1 : Int32)), .val (.ref oA)] [(.ref oA), (.ref ao)])) (fun t_ k_ => XS.aload X30.here hx rfl (hb hby at_158) rfl rfl k_) ?_
    refine goVirtS X30 hx hZ (y := (⟨"com/example/kenshinkit/kenshinkit/schema/OpenElements", "push", "(Lcom/example/kenshinkit/kenshinkit/schema/SchemaType;)V"⟩ : MethodName)) hown (hw _ (List.mem_of_getElem? (i := 48) rfl)) (hw _ (List.mem_of_getElem? (i := 49) rfl)) (hw _ (List.mem_of_getElem? (i := 51) rfl)) (hw _ (List.mem_of_getElem? (i := 50) rfl)) (hw _ (List.mem_of_getElem? (i := 2) rfl)) (hw _ (List.mem_of_getElem? (i := 52) rfl)) (by decide) p27_0 (rm4 l Z a0 hw [] n0 h27 ao oA tA sA mA ((((0 : Int32) + (1 : Int32)) + (1 : Int32)) - (1 : Int32)) ((fun i => (if i = (((0 : Int32) + (1 : Int32))).toNatClampNeg then (0 : Int32) else (fun i => (if i = ((0 : Int32)).toNatClampNeg then (0 : Int32) else (fun _ => 0) i)) i)) ((((0 : Int32) + (1 : Int32)) + (1 : Int32)) - (1 : Int32)).toNatClampNeg) ((fun i => (if i = (((0 : Int32) + (1 : Int32))).toNatClampNeg then (0 : Int32) else (fun i => (if i = ((0 : Int32)).toNatClampNeg then (0 : Int32) else (fun _ => 0) i)) i)) ((((0 : Int32) + (1 : Int32)) + (1 : Int32)) - (1 : Int32)).toNatClampNeg) (fun i => if i = (((0 : Int32) + (1 : Int32))).toNatClampNeg then (.ref oB) else (fun i => if i = ((0 : Int32)).toNatClampNeg then (.ref oA) else (fun _ => .null) i) i) (fun i => (if i = ((1 : Int32)).toNatClampNeg then p3 else (fun i => (if i = (((0 : Int32) + (1 : Int32))).toNatClampNeg then (0 : Int32) else (fun i => (if i = ((0 : Int32)).toNatClampNeg then p2 else (fun i => (if i = ((0 : Int32)).toNatClampNeg then (0 : Int32) else (fun _ => 0) i)) i)) i)) i)) (fun i => (if i = (((0 : Int32) + (1 : Int32))).toNatClampNeg then (0 : Int32) else (fun i => (if i = ((0 : Int32)).toNatClampNeg then (0 : Int32) else (fun _ => 0) i)) i)) sz27 p27_0 f27_16 p27_4 p27_5 p27_6 p27_1 p27_2 p27_3 f27_3 f27_4 f27_5 f27_6 f27_24 f27_26 f27_25 p18_14 ge17 p18_15 p18_16 p18_17 (by decide) (by decide)) 0 (by decide) (by decide) (by rw [hml]; rfl) [(.ref oA)] [] (lenOf pd_b9a6f732 rfl) rfl rfl rfl (hb hby at_160) (by decide) (by decide) fun v31 T31 h31 X31 hq31 => ?_
    obtain ⟨rfl, K31c, p31_0, p31_1, p31_2, p31_3, p31_4, p31_5, p31_6, p31_7, p31_8, p31_9, p31_10, p31_11, p31_12, p31_13⟩ := hq31
    have f31_0 : Sta Z h31 "com/example/kenshinkit/kenshinkit/schema/ComplexType$Content" "EMPTY" "Lcom/example/kenshinkit/kenshinkit/schema/ComplexType$Content;" (.ref we) := sta_keep f27_0 K31c (allS ⟨_, p27_0⟩ (allS ⟨_, f27_3⟩ (allS ⟨_, f27_4⟩ (allS ⟨_, f27_5⟩ all0))))
    have f31_2 : Exa Z h31 ao "com/example/kenshinkit/kenshinkit/schema/OpenElements" := p27_0.keep K31c
    have f31_3 : Exa Z h31 tA "[Lcom/example/kenshinkit/kenshinkit/schema/SchemaType;" := f27_3.keep K31c
    have f31_4 : Exa Z h31 sA "[I" := f27_4.keep K31c
    have f31_5 : Exa Z h31 mA "[I" := f27_5.keep K31c
    have f31_6 : AO Z h31 tA "com/example/kenshinkit/kenshinkit/schema/SchemaType" := f27_6.keep K31c
    have f31_16 : Exa Z h31 oA "com/example/kenshinkit/kenshinkit/schema/ComplexType" := f27_16.keep K31c
    have f31_23 : Exa Z h31 oB "com/example/kenshinkit/kenshinkit/schema/ComplexType" := f27_23.keep K31c
    have sz31 : n0 ≤ h31.size := Nat.le_trans sz27 K31c.1
    show Go p e below _ T31 (mkF m 163 #[.val (.int p1), .val (.int p2), .val (.int p3), .val (.int (1 : Int32)), .val (.int (2 : Int32)), .val (.ref ao), .val (.ref oA), .val (.ref oB), .val (.int (1 : Int32)), .val (.ref oA)] [])
    refine Go.st (T' := T31) (g' := (mkF m 165 #[.val (.int p1), .val (.int p2), .val (.int p3), .val (.int (1 : Int32)), .val (.int (2 : Int32)), .val (.ref ao), .val (.ref oA), .val (.ref oB), .val (.int (1 : Int32)), .val (.ref oA)] [(.int (1 : Int32))])) (fun t_ k_ => XS.iload X31.here hx rfl (hb hby at_163) rfl k_) ?_
    refine Go.st (T' := T31) (g' := (mkF m 168 #[.val (.int p1), .val (.int p2), .val (.int p3), .val (.int (1 : Int32)), .val (.int (2 : Int32)), .val (.ref ao), .val (.ref oA), .val (.ref oB), .val (.int (1 : Int32)), .val (.ref oA)] [])) (fun t_ k_ => XS.ifNo X31.here hx rfl (hb hby at_165) rfl (by decide) k_) ?_
    refine Go.st (T' := T31) (g' := (mkF m 170 #[.val (.int p1), .val (.int p2), .val (.int p3), .val (.int (1 : Int32)), .val (.int (2 : Int32)), .val (.ref ao), .val (.ref oA), .val (.ref oB), .val (.int (1 : Int32)), .val (.ref oA)] [(.ref ao)])) (fun t_ k_ => XS.aload X31.here hx rfl (hb hby at_168) rfl rfl k_) ?_
    refine goVirtS X31 hx hZ (y := (⟨"com/example/kenshinkit/kenshinkit/schema/OpenElements", "depth", "()I"⟩ : MethodName)) hown (hw _ (List.mem_of_getElem? (i := 70) rfl)) (hw _ (List.mem_of_getElem? (i := 71) rfl)) (hw _ (List.mem_of_getElem? (i := 73) rfl)) (hw _ (List.mem_of_getElem? (i := 72) rfl)) (hw _ (List.mem_of_getElem? (i := 2) rfl)) (hw _ (List.mem_of_getElem? (i := 74) rfl)) (by decide) p31_0 (rm7 l Z a0 hw [] n0 h31 ao (((((0 : Int32) + (1 : Int32)) + (1 : Int32)) - (1 : Int32)) + (1 : Int32)) sz31 p31_4) 0 (by decide) (by decide) (by rw [hml]; rfl) [] [] (lenOf pd_8259a895 rfl) rfl rfl rfl (hb hby at_170) (by decide) (by decide) fun v32 T32 h32 X32 hq32 => ?_
    obtain ⟨rfl, eh32⟩ := hq32
    rw [eh32] at X32
    show Go p e below _ T32 (mkF m 173 #[.val (.int p1), .val (.int p2), .val (.int p3), .val (.int (1 : Int32)), .val (.int (2 : Int32)), .val (.ref ao), .val (.ref oA), .val (.ref oB), .val (.int (1 : Int32)), .val (.ref oA)] [(.int (((((0 : Int32) + (1 : Int32)) + (1 : Int32)) - (1 : Int32)) + (1 : Int32)))])
    refine Go.st (T' := T32) (g' := (mkF m 175 #[.val (.int p1), .val (.int p2), .val (.int p3), .val (.int (1 : Int32)), .val (.int (2 : Int32)), .val (.ref ao), .val (.ref oA), .val (.ref oB), .val (.int (1 : Int32)), .val (.ref oA)] [(.int (2 : Int32)), (.int (((((0 : Int32) + (1 : Int32)) + (1 : Int32)) - (1 : Int32)) + (1 : Int32)))])) (fun t_ k_ => XS.iload X32.here hx rfl (hb hby at_173) rfl k_) ?_
    have hc175 : (((((0 : Int32) + (1 : Int32)) + (1 : Int32)) - (1 : Int32)) + (1 : Int32)) = (2 : Int32) := rfl
    refine Go.st (T' := T32) (g' := (mkF m 178 #[.val (.int p1), .val (.int p2), .val (.int p3), .val (.int (1 : Int32)), .val (.int (2 : Int32)), .val (.ref ao), .val (.ref oA), .val (.ref oB), .val (.int (1 : Int32)), .val (.ref oA)] [])) (fun t_ k_ => XS.icmpNo X32.here hx rfl (hb hby at_175) rfl (teq hc175).2 k_) ?_
    refine Go.st (T' := T32) (g' := (mkF m 180 #[.val (.int p1), .val (.int p2), .val (.int p3), .val (.int (1 : Int32)), .val (.int (2 : Int32)), .val (.ref ao), .val (.ref oA), .val (.ref oB), .val (.int (1 : Int32)), .val (.ref oA)] [(.ref ao)])) (fun t_ k_ => XS.aload X32.here hx rfl (hb hby at_178) rfl rfl k_) ?_
    refine Go.st (T' := T32) (g' := (mkF m 182 #[.val (.int p1), .val (.int p2), .val (.int p3), .val (.int (1 : Int32)), .val (.int (2 : Int32)), .val (.ref ao), .val (.ref oA), .val (.ref oB), .val (.int (1 : Int32)), .val (.ref oA)] [(.int (2 : Int32)), (.ref ao)])) (fun t_ k_ => XS.iload X32.here hx rfl (hb hby at_180) rfl k_) ?_
    refine Go.st (T' := T32) (g' := (mkF m 183 #[.val (.int p1), .val (.int p2), .val (.int p3), .val (.int (1 : Int32)), .val (.int (2 : Int32)), .val (.ref ao), .val (.ref oA), .val (.ref oB), .val (.int (1 : Int32)), .val (.ref oA)] [(.int (1 : Int32)), (.int (2 : Int32)), (.ref ao)])) (fun t_ k_ => XS.iconst X32.here hx rfl (hb hby at_182) k_) ?_
    refine Go.st (T' := T32) (g' := (mkF m 184 #[.val (.int p1), .val (.int p2), .val (.int p3), .val (.int (1 : Int32)), .val (.int (2 : Int32)), .val (.ref ao), .val (.ref oA), .val (.ref oB), .val (.int (1 : Int32)), .val (.ref oA)] [(.int ((2 : Int32) - (1 : Int32))), (.ref ao)])) (fun t_ k_ => XS.isub X32.here hx rfl (hb hby at_183) rfl k_) ?_
    refine goVirtS X32 hx hZ (y := (⟨"com/example/kenshinkit/kenshinkit/schema/OpenElements", "type", "(I)Lcom/example/kenshinkit/kenshinkit/schema/SchemaType;"⟩ : MethodName)) hown (hw _ (List.mem_of_getElem? (i := 75) rfl)) (hw _ (List.mem_of_getElem? (i := 76) rfl)) (hw _ (List.mem_of_getElem? (i := 78) rfl)) (hw _ (List.mem_of_getElem? (i := 77) rfl)) (hw _ (List.mem_of_getElem? (i := 2) rfl)) (hw _ (List.mem_of_getElem? (i := 79) rfl)) (by decide) p31_0 (rm8 l Z a0 hw [] n0 h31 ao ((2 : Int32) - (1 : Int32)) tA (fun i => if i = (((((0 : Int32) + (1 : Int32)) + (1 : Int32)) - (1 : Int32))).toNatClampNeg then (.ref oA) else (fun i => if i = (((0 : Int32) + (1 : Int32))).toNatClampNeg then (.ref oB) else (fun i => if i = ((0 : Int32)).toNatClampNeg then (.ref oA) else (fun _ => .null) i) i) i) oA sz31 p31_1 p31_11 (by decide) (rfl)) 0 (by decide) (by decide) (by rw [hml]; rfl) [(.int ((2 : Int32) - (1 : Int32)))] [] (lenOf pd_f72ca27d rfl) rfl rfl rfl (hb hby at_184) (by decide) (by decide) fun v33 T33 h33 X33 hq33 => ?_
    obtain ⟨rfl, eh33⟩ := hq33
    rw [eh33] at X33
    show Go p e below _ T33 (mkF m 187 #[.val (.int p1), .val (.int p2), .val (.int p3), .val (.int (1 : Int32)), .val (.int (2 : Int32)), .val (.ref ao), .val (.ref oA), .val (.ref oB), .val (.int (1 : Int32)), .val (.ref oA)] [(.ref oA)])
    refine Go.st (T' := T33) (g' := (mkF m 189 #[.val (.int p1), .val (.int p2), .val (.int p3), .val (.int (1 : Int32)), .val (.int (2 : Int32)), .val (.ref ao), .val (.ref oA), .val (.ref oB), .val (.int (1 : Int32)), .val (.ref oA)] [(.ref oA), (.ref oA)])) (fun t_ k_ => XS.aload X33.here hx rfl (hb hby at_187) rfl rfl k_) ?_
    refine Go.st (T' := T33) (g' := (mkF m 192 #[.val (.int p1), .val (.int p2), .val (.int p3), .val (.int (1 : Int32)), .val (.int (2 : Int32)), .val (.ref ao), .val (.ref oA), .val (.ref oB), .val (.int (1 : Int32)), .val (.ref oA)] [])) (fun t_ k_ => XS.acmpNo X33.here hx rfl (hb hby at_189) rfl (acT rfl).2 k_) ?_
    refine Go.st (T' := T33) (g' := (mkF m 194 #[.val (.int p1), .val (.int p2), .val (.int p3), .val (.int (1 : Int32)), .val (.int (2 : Int32)), .val (.ref ao), .val (.ref oA), .val (.ref oB), .val (.int (1 : Int32)), .val (.ref oA)] [(.ref ao)])) (fun t_ k_ => XS.aload X33.here hx rfl (hb hby at_192) rfl rfl k_) ?_
    refine Go.st (T' := T33) (g' := (mkF m 196 #[.val (.int p1), .val (.int p2), .val (.int p3), .val (.int (1 : Int32)), .val (.int (2 : Int32)), .val (.ref ao), .val (.ref oA), .val (.ref oB), .val (.int (1 : Int32)), .val (.ref oA)] [(.int (2 : Int32)), (.ref ao)])) (fun t_ k_ => XS.iload X33.here hx rfl (hb hby at_194) rfl k_) ?_
    refine Go.st (T' := T33) (g' := (mkF m 197 #[.val (.int p1), .val (.int p2), .val (.int p3), .val (.int (1 : Int32)), .val (.int (2 : Int32)), .val (.ref ao), .val (.ref oA), .val (.ref oB), .val (.int (1 : Int32)), .val (.ref oA)] [(.int (1 : Int32)), (.int (2 : Int32)), (.ref ao)])) (fun t_ k_ => XS.iconst X33.here hx rfl (hb hby at_196) k_) ?_
    refine Go.st (T' := T33) (g' := (mkF m 198 #[.val (.int p1), .val (.int p2), .val (.int p3), .val (.int (1 : Int32)), .val (.int (2 : Int32)), .val (.ref ao), .val (.ref oA), .val (.ref oB), .val (.int (1 : Int32)), .val (.ref oA)] [(.int ((2 : Int32) - (1 : Int32))), (.ref ao)])) (fun t_ k_ => XS.isub X33.here hx rfl (hb hby at_197) rfl k_) ?_
    refine goVirtS X33 hx hZ (y := (⟨"com/example/kenshinkit/kenshinkit/schema/OpenElements", "state", "(I)I"⟩ : MethodName)) hown (hw _ (List.mem_of_getElem? (i := 80) rfl)) (hw _ (List.mem_of_getElem? (i := 81) rfl)) (hw _ (List.mem_of_getElem? (i := 83) rfl)) (hw _ (List.mem_of_getElem? (i := 82) rfl)) (hw _ (List.mem_of_getElem? (i := 2) rfl)) (hw _ (List.mem_of_getElem? (i := 84) rfl)) (by decide) p31_0 (rm9 l Z a0 hw [] n0 h31 ao ((2 : Int32) - (1 : Int32)) (0 : Int32) sA (fun i => (if i = (((((0 : Int32) + (1 : Int32)) + (1 : Int32)) - (1 : Int32))).toNatClampNeg then (0 : Int32) else (fun i => (if i = ((1 : Int32)).toNatClampNeg then p3 else (fun i => (if i = (((0 : Int32) + (1 : Int32))).toNatClampNeg then (0 : Int32) else (fun i => (if i = ((0 : Int32)).toNatClampNeg then p2 else (fun i => (if i = ((0 : Int32)).toNatClampNeg then (0 : Int32) else (fun _ => 0) i)) i)) i)) i)) i)) sz31 p31_2 p31_12 (by decide) (rfl)) 0 (by decide) (by decide) (by rw [hml]; rfl) [(.int ((2 : Int32) - (1 : Int32)))] [] (lenOf pd_70cf885d rfl) rfl rfl rfl (hb hby at_198) (by decide) (by decide) fun v34 T34 h34 X34 hq34 => ?_
    obtain ⟨rfl, eh34⟩ := hq34
    rw [eh34] at X34
    show Go p e below _ T34 (mkF m 201 #[.val (.int p1), .val (.int p2), .val (.int p3), .val (.int (1 : Int32)), .val (.int (2 : Int32)), .val (.ref ao), .val (.ref oA), .val (.ref oB), .val (.int (1 : Int32)), .val (.ref oA)] [(.int (0 : Int32))])
    refine Go.st (T' := T34) (g' := (mkF m 204 #[.val (.int p1), .val (.int p2), .val (.int p3), .val (.int (1 : Int32)), .val (.int (2 : Int32)), .val (.ref ao), .val (.ref oA), .val (.ref oB), .val (.int (1 : Int32)), .val (.ref oA)] [])) (fun t_ k_ => XS.ifNo X34.here hx rfl (hb hby at_201) rfl (by decide) k_) ?_
    refine Go.st (T' := T34) (g' := (mkF m 205 #[.val (.int p1), .val (.int p2), .val (.int p3), .val (.int (1 : Int32)), .val (.int (2 : Int32)), .val (.ref ao), .val (.ref oA), .val (.ref oB), .val (.int (1 : Int32)), .val (.ref oA)] [(.int (1 : Int32))])) (fun t_ k_ => XS.iconst X34.here hx rfl (hb hby at_204) k_) ?_
    refine Go.st (T' := T34) (g' := (mkF m 209 #[.val (.int p1), .val (.int p2), .val (.int p3), .val (.int (1 : Int32)), .val (.int (2 : Int32)), .val (.ref ao), .val (.ref oA), .val (.ref oB), .val (.int (1 : Int32)), .val (.ref oA)] [(.int (1 : Int32))])) (fun t_ k_ => XS.goto X34.here hx rfl (pc0 := 205) (pc' := 209) rfl (hb hby at_205) (by decide) (by decide) k_) ?_
    refine Go.st (T' := T34) (g' := (mkF m 211 #[.val (.int p1), .val (.int p2), .val (.int p3), .val (.int (1 : Int32)), .val (.int (2 : Int32)), .val (.ref ao), .val (.ref oA), .val (.ref oB), .val (.int (1 : Int32)), .val (.ref oA)] [])) (fun t_ k_ => XS.istore X34.here hx rfl (hb hby at_209) rfl (l' := #[.val (.int p1), .val (.int p2), .val (.int p3), .val (.int (1 : Int32)), .val (.int (2 : Int32)), .val (.ref ao), .val (.ref oA), .val (.ref oB), .val (.int (1 : Int32)), .val (.ref oA)]) rfl k_) ?_
    refine Go.st (T' := T34) (g' := (mkF m 212 #[.val (.int p1), .val (.int p2), .val (.int p3), .val (.int (1 : Int32)), .val (.int (2 : Int32)), .val (.ref ao), .val (.ref oA), .val (.ref oB), .val (.int (1 : Int32)), .val (.ref oA)] [(.int (1 : Int32))])) (fun t_ k_ => XS.iloadN X34.here hx rfl (hb hby at_211) rfl k_) ?_
    refine Go.st (T' := T34) (g' := (mkF m 215 #[.val (.int p1), .val (.int p2), .val (.int p3), .val (.int (1 : Int32)), .val (.int (2 : Int32)), .val (.ref ao), .val (.ref oA), .val (.ref oB), .val (.int (1 : Int32)), .val (.ref oA)] [])) (fun t_ k_ => XS.ifNo X34.here hx rfl (hb hby at_212) rfl (by decide) k_) ?_
    refine Go.st (T' := T34) (g' := (mkF m 217 #[.val (.int p1), .val (.int p2), .val (.int p3), .val (.int (1 : Int32)), .val (.int (2 : Int32)), .val (.ref ao), .val (.ref oA), .val (.ref oB), .val (.int (1 : Int32)), .val (.ref oA)] [(.int (1 : Int32))])) (fun t_ k_ => XS.iload X34.here hx rfl (hb hby at_215) rfl k_) ?_
    refine Go.st (T' := T34) (g' := (mkF m 220 #[.val (.int p1), .val (.int p2), .val (.int p3), .val (.int (1 : Int32)), .val (.int (2 : Int32)), .val (.ref ao), .val (.ref oA), .val (.ref oB), .val (.int (1 : Int32)), .val (.ref oA)] [])) (fun t_ k_ => XS.ifNo X34.here hx rfl (hb hby at_217) rfl (by decide) k_) ?_
    refine Go.st (T' := T34) (g' := (mkF m 222 #[.val (.int p1), .val (.int p2), .val (.int p3), .val (.int (1 : Int32)), .val (.int (2 : Int32)), .val (.ref ao), .val (.ref oA), .val (.ref oB), .val (.int (1 : Int32)), .val (.ref oA)] [(.ref ao)])) (fun t_ k_ => XS.aload X34.here hx rfl (hb hby at_220) rfl rfl k_) ?_
    refine Go.st (T' := T34) (g' := (mkF m 223 #[.val (.int p1), .val (.int p2), .val (.int p3), .val (.int (1 : Int32)), .val (.int (2 : Int32)), .val (.ref ao), .val (.ref oA), .val (.ref oB), .val (.int (1 : Int32)), .val (.ref oA)] [(.int (0 : Int32)), (.ref ao)])) (fun t_ k_ => XS.iconst X34.here hx rfl (hb hby at_222) k_) ?_
    refine goVirtS X34 hx hZ (y := (⟨"com/example/kenshinkit/kenshinkit/schema/OpenElements", "type", "(I)Lcom/example/kenshinkit/kenshinkit/schema/SchemaType;"⟩ : MethodName)) hown (hw _ (List.mem_of_getElem? (i := 75) rfl)) (hw _ (List.mem_of_getElem? (i := 76) rfl)) (hw _ (List.mem_of_getElem? (i := 78) rfl)) (hw _ (List.mem_of_getElem? (i := 77) rfl)) (hw _ (List.mem_of_getElem? (i := 2) rfl)) (hw _ (List.mem_of_getElem? (i := 79) rfl)) (by decide) p31_0 (rm8 l Z a0 hw [] n0 h31 ao (0 : Int32) tA (fun i => if i = (((((0 : Int32) + (1 : Int32)) + (1 : Int32)) - (1 : Int32))).toNatClampNeg then (.ref oA) else (fun i => if i = (((0 : Int32) + (1 : Int32))).toNatClampNeg then (.ref oB) else (fun i => if i = ((0 : Int32)).toNatClampNeg then (.ref oA) else (fun _ => .null) i) i) i) oA sz31 p31_1 p31_11 (by decide) (rfl)) 0 (by decide) (by decide) (by rw [hml]; rfl) [(.int (0 : Int32))] [] (lenOf pd_f72ca27d rfl) rfl rfl rfl (hb hby at_223) (by decide) (by decide) fun v35 T35 h35 X35 hq35 => ?_
    obtain ⟨rfl, eh35⟩ := hq35
    rw [eh35] at X35
    show Go p e below _ T35 (mkF m 226 #[.val (.int p1), .val (.int p2), .val (.int p3), .val (.int (1 : Int32)), .val (.int (2 : Int32)), .val (.ref ao), .val (.ref oA), .val (.ref oB), .val (.int (1 : Int32)), .val (.ref oA)] [(.ref oA)])
    refine Go.st (T' := T35) (g' := (mkF m 228 #[.val (.int p1), .val (.int p2), .val (.int p3), .val (.int (1 : Int32)), .val (.int (2 : Int32)), .val (.ref ao), .val (.ref oA), .val (.ref oB), .val (.int (1 : Int32)), .val (.ref oA)] [(.ref oA), (.ref oA)])) (fun t_ k_ => XS.aload X35.here hx rfl (hb hby at_226) rfl rfl k_) ?_
    refine Go.st (T' := T35) (g' := (mkF m 231 #[.val (.int p1), .val (.int p2), .val (.int p3), .val (.int (1 : Int32)), .val (.int (2 : Int32)), .val (.ref ao), .val (.ref oA), .val (.ref oB), .val (.int (1 : Int32)), .val (.ref oA)] [])) (fun t_ k_ => XS.acmpNo X35.here hx rfl (hb hby at_228) rfl (acT rfl).2 k_) ?_
    refine Go.st (T' := T35) (g' := (mkF m 233 #[.val (.int p1), .val (.int p2), .val (.int p3), .val (.int (1 : Int32)), .val (.int (2 : Int32)), .val (.ref ao), .val (.ref oA), .val (.ref oB), .val (.int (1 : Int32)), .val (.ref oA)] [(.ref ao)])) (fun t_ k_ => XS.aload X35.here hx rfl (hb hby at_231) rfl rfl k_) ?_
    refine Go.st (T' := T35) (g' := (mkF m 234 #[.val (.int p1), .val (.int p2), .val (.int p3), .val (.int (1 : Int32)), .val (.int (2 : Int32)), .val (.ref ao), .val (.ref oA), .val (.ref oB), .val (.int (1 : Int32)), .val (.ref oA)] [(.int (0 : Int32)), (.ref ao)])) (fun t_ k_ => XS.iconst X35.here hx rfl (hb hby at_233) k_) ?_
    refine goVirtS X35 hx hZ (y := (⟨"com/example/kenshinkit/kenshinkit/schema/OpenElements", "state", "(I)I"⟩ : MethodName)) hown (hw _ (List.mem_of_getElem? (i := 80) rfl)) (hw _ (List.mem_of_getElem? (i := 81) rfl)) (hw _ (List.mem_of_getElem? (i := 83) rfl)) (hw _ (List.mem_of_getElem? (i := 82) rfl)) (hw _ (List.mem_of_getElem? (i := 2) rfl)) (hw _ (List.mem_of_getElem? (i := 84) rfl)) (by decide) p31_0 (rm9 l Z a0 hw [] n0 h31 ao (0 : Int32) p2 sA (fun i => (if i = (((((0 : Int32) + (1 : Int32)) + (1 : Int32)) - (1 : Int32))).toNatClampNeg then (0 : Int32) else (fun i => (if i = ((1 : Int32)).toNatClampNeg then p3 else (fun i => (if i = (((0 : Int32) + (1 : Int32))).toNatClampNeg then (0 : Int32) else (fun i => (if i = ((0 : Int32)).toNatClampNeg then p2 else (fun i => (if i = ((0 : Int32)).toNatClampNeg then (0 : Int32) else (fun _ => 0) i)) i)) i)) i)) i)) sz31 p31_2 p31_12 (by decide) (rfl)) 0 (by decide) (by decide) (by rw [hml]; rfl) [(.int (0 : Int32))] [] (lenOf pd_70cf885d rfl) rfl rfl rfl (hb hby at_234) (by decide) (by decide) fun v36 T36 h36 X36 hq36 => ?_
    obtain ⟨rfl, eh36⟩ := hq36
    rw [eh36] at X36
    show Go p e below _ T36 (mkF m 237 #[.val (.int p1), .val (.int p2), .val (.int p3), .val (.int (1 : Int32)), .val (.int (2 : Int32)), .val (.ref ao), .val (.ref oA), .val (.ref oB), .val (.int (1 : Int32)), .val (.ref oA)] [(.int p2)])
    refine Go.st (T' := T36) (g' := (mkF m 238 #[.val (.int p1), .val (.int p2), .val (.int p3), .val (.int (1 : Int32)), .val (.int (2 : Int32)), .val (.ref ao), .val (.ref oA), .val (.ref oB), .val (.int (1 : Int32)), .val (.ref oA)] [(.int p2), (.int p2)])) (fun t_ k_ => XS.iloadN X36.here hx rfl (hb hby at_237) rfl k_) ?_
    have hc238 : p2 = p2 := rfl
    refine Go.st (T' := T36) (g' := (mkF m 241 #[.val (.int p1), .val (.int p2), .val (.int p3), .val (.int (1 : Int32)), .val (.int (2 : Int32)), .val (.ref ao), .val (.ref oA), .val (.ref oB), .val (.int (1 : Int32)), .val (.ref oA)] [])) (fun t_ k_ => XS.icmpNo X36.here hx rfl (hb hby at_238) rfl (teq hc238).2 k_) ?_
    refine Go.st (T' := T36) (g' := (mkF m 242 #[.val (.int p1), .val (.int p2), .val (.int p3), .val (.int (1 : Int32)), .val (.int (2 : Int32)), .val (.ref ao), .val (.ref oA), .val (.ref oB), .val (.int (1 : Int32)), .val (.ref oA)] [(.int (1 : Int32))])) (fun t_ k_ => XS.iconst X36.here hx rfl (hb hby at_241) k_) ?_
    refine Go.st (T' := T36) (g' := (mkF m 246 #[.val (.int p1), .val (.int p2), .val (.int p3), .val (.int (1 : Int32)), .val (.int (2 : Int32)), .val (.ref ao), .val (.ref oA), .val (.ref oB), .val (.int (1 : Int32)), .val (.ref oA)] [(.int (1 : Int32))])) (fun t_ k_ => XS.goto X36.here hx rfl (pc0 := 242) (pc' := 246) rfl (hb hby at_242) (by decide) (by decide) k_) ?_
    refine Go.st (T' := T36) (g' := (mkF m 248 #[.val (.int p1), .val (.int p2), .val (.int p3), .val (.int (1 : Int32)), .val (.int (2 : Int32)), .val (.ref ao), .val (.ref oA), .val (.ref oB), .val (.int (1 : Int32)), .val (.ref oA)] [])) (fun t_ k_ => XS.istore X36.here hx rfl (hb hby at_246) rfl (l' := #[.val (.int p1), .val (.int p2), .val (.int p3), .val (.int (1 : Int32)), .val (.int (2 : Int32)), .val (.ref ao), .val (.ref oA), .val (.ref oB), .val (.int (1 : Int32)), .val (.ref oA)]) rfl k_) ?_
    refine Go.st (T' := T36) (g' := (mkF m 250 #[.val (.int p1), .val (.int p2), .val (.int p3), .val (.int (1 : Int32)), .val (.int (2 : Int32)), .val (.ref ao), .val (.ref oA), .val (.ref oB), .val (.int (1 : Int32)), .val (.ref oA)] [(.ref ao)])) (fun t_ k_ => XS.aload X36.here hx rfl (hb hby at_248) rfl rfl k_) ?_
    refine goVirtS X36 hx hZ (y := (⟨"com/example/kenshinkit/kenshinkit/schema/OpenElements", "pop", "()V"⟩ : MethodName)) hown (hw _ (List.mem_of_getElem? (i := 65) rfl)) (hw _ (List.mem_of_getElem? (i := 66) rfl)) (hw _ (List.mem_of_getElem? (i := 68) rfl)) (hw _ (List.mem_of_getElem? (i := 67) rfl)) (hw _ (List.mem_of_getElem? (i := 2) rfl)) (hw _ (List.mem_of_getElem? (i := 69) rfl)) (by decide) p31_0 (rm6 l Z a0 hw [] n0 h31 ao tA sA mA (((((0 : Int32) + (1 : Int32)) + (1 : Int32)) - (1 : Int32)) + (1 : Int32)) ((fun i => (if i = (((0 : Int32) + (1 : Int32))).toNatClampNeg then (0 : Int32) else (fun i => (if i = ((0 : Int32)).toNatClampNeg then (0 : Int32) else (fun _ => 0) i)) i)) ((((0 : Int32) + (1 : Int32)) + (1 : Int32)) - (1 : Int32)).toNatClampNeg) ((fun i => (if i = (((0 : Int32) + (1 : Int32))).toNatClampNeg then (0 : Int32) else (fun i => (if i = ((0 : Int32)).toNatClampNeg then (0 : Int32) else (fun _ => 0) i)) i)) ((((0 : Int32) + (1 : Int32)) + (1 : Int32)) - (1 : Int32)).toNatClampNeg) (fun i => (if i = (((((0 : Int32) + (1 : Int32)) + (1 : Int32)) - (1 : Int32))).toNatClampNeg then ((fun i => (if i = (((0 : Int32) + (1 : Int32))).toNatClampNeg then (0 : Int32) else (fun i => (if i = ((0 : Int32)).toNatClampNeg then (0 : Int32) else (fun _ => 0) i)) i)) ((((0 : Int32) + (1 : Int32)) + (1 : Int32)) - (1 : Int32)).toNatClampNeg) else (fun i => (if i = (((0 : Int32) + (1 : Int32))).toNatClampNeg then (0 : Int32) else (fun i => (if i = ((0 : Int32)).toNatClampNeg then (0 : Int32) else (fun _ => 0) i)) i)) i)) sz31 p31_0 p31_3 p31_4 p31_5 p31_6 p31_9 p31_13 ge17 p31_1 p31_2 (by decide)) 0 (by decide) (by decide) (by rw [hml]; rfl) [] [] (lenOf pd_0f51a560 rfl) rfl rfl rfl (hb hby at_250) (by decide) (by decide) fun v37 T37 h37 X37 hq37 => ?_
    obtain ⟨rfl, K37c, p37_0, p37_1, p37_2, p37_3, p37_4, p37_5, p37_6⟩ := hq37
    have f37_0 : Sta Z h37 "com/example/kenshinkit/kenshinkit/schema/ComplexType$Content" "EMPTY" "Lcom/example/kenshinkit/kenshinkit/schema/ComplexType$Content;" (.ref we) := sta_keep f31_0 K37c (allS ⟨_, p31_0⟩ all0)
    have f37_2 : Exa Z h37 ao "com/example/kenshinkit/kenshinkit/schema/OpenElements" := p31_0.keep K37c
    have f37_3 : Exa Z h37 tA "[Lcom/example/kenshinkit/kenshinkit/schema/SchemaType;" := p31_7.keep K37c
    have f37_4 : Exa Z h37 sA "[I" := p31_8.keep K37c
    have f37_5 : Exa Z h37 mA "[I" := p31_9.keep K37c
    have f37_6 : AO Z h37 tA "com/example/kenshinkit/kenshinkit/schema/SchemaType" := p31_10.keep K37c
    have f37_16 : Exa Z h37 oA "com/example/kenshinkit/kenshinkit/schema/ComplexType" := f31_16.keep K37c
    have f37_23 : Exa Z h37 oB "com/example/kenshinkit/kenshinkit/schema/ComplexType" := f31_23.keep K37c
    have f37_24 : Ary Z h37 tA (.object "com/example/kenshinkit/kenshinkit/schema/SchemaType") 64 (fun i => if i = (((((0 : Int32) + (1 : Int32)) + (1 : Int32)) - (1 : Int32))).toNatClampNeg then (.ref oA) else (fun i => if i = (((0 : Int32) + (1 : Int32))).toNatClampNeg then (.ref oB) else (fun i => if i = ((0 : Int32)).toNatClampNeg then (.ref oA) else (fun _ => .null) i) i) i) := p31_11.keep K37c (ninS (ne_exa p31_7 p31_0 (by decide)) nin0)
    have f37_25 : Ary Z h37 sA .int 64 (fun i => .int (if i = (((((0 : Int32) + (1 : Int32)) + (1 : Int32)) - (1 : Int32))).toNatClampNeg then (0 : Int32) else (fun i => (if i = ((1 : Int32)).toNatClampNeg then p3 else (fun i => (if i = (((0 : Int32) + (1 : Int32))).toNatClampNeg then (0 : Int32) else (fun i => (if i = ((0 : Int32)).toNatClampNeg then p2 else (fun i => (if i = ((0 : Int32)).toNatClampNeg then (0 : Int32) else (fun _ => 0) i)) i)) i)) i)) i)) := p31_12.keep K37c (ninS (ne_exa p31_8 p31_0 (by decide)) nin0)
    have f37_26 : Ary Z h37 mA .int 64 (fun i => .int (if i = (((((0 : Int32) + (1 : Int32)) + (1 : Int32)) - (1 : Int32))).toNatClampNeg then ((fun i => (if i = (((0 : Int32) + (1 : Int32))).toNatClampNeg then (0 : Int32) else (fun i => (if i = ((0 : Int32)).toNatClampNeg then (0 : Int32) else (fun _ => 0) i)) i)) ((((0 : Int32) + (1 : Int32)) + (1 : Int32)) - (1 : Int32)).toNatClampNeg) else (fun i => (if i = (((0 : Int32) + (1 : Int32))).toNatClampNeg then (0 : Int32) else (fun i => (if i = ((0 : Int32)).toNatClampNeg then (0 : Int32) else (fun _ => 0) i)) i)) i)) := p31_13.keep K37c (ninS (ne_exa p31_9 p31_0 (by decide)) nin0)
    have sz37 : n0 ≤ h37.size := Nat.le_trans sz31 K37c.1
    show Go p e below _ T37 (mkF m 253 #[.val (.int p1), .val (.int p2), .val (.int p3), .val (.int (1 : Int32)), .val (.int (2 : Int32)), .val (.ref ao), .val (.ref oA), .val (.ref oB), .val (.int (1 : Int32)), .val (.ref oA)] [])
    refine Go.st (T' := T37) (g' := (mkF m 255 #[.val (.int p1), .val (.int p2), .val (.int p3), .val (.int (1 : Int32)), .val (.int (2 : Int32)), .val (.ref ao), .val (.ref oA), .val (.ref oB), .val (.int (1 : Int32)), .val (.ref oA)] [(.int (1 : Int32))])) (fun t_ k_ => XS.iload X37.here hx rfl (hb hby at_253) rfl k_) ?_
    refine Go.st (T' := T37) (g' := (mkF m 258 #[.val (.int p1), .val (.int p2), .val (.int p3), .val (.int (1 : Int32)), .val (.int (2 : Int32)), .val (.ref ao), .val (.ref oA), .val (.ref oB), .val (.int (1 : Int32)), .val (.ref oA)] [])) (fun t_ k_ => XS.ifNo X37.here hx rfl (hb hby at_255) rfl (by decide) k_) ?_
    refine Go.st (T' := T37) (g' := (mkF m 260 #[.val (.int p1), .val (.int p2), .val (.int p3), .val (.int (1 : Int32)), .val (.int (2 : Int32)), .val (.ref ao), .val (.ref oA), .val (.ref oB), .val (.int (1 : Int32)), .val (.ref oA)] [(.ref ao)])) (fun t_ k_ => XS.aload X37.here hx rfl (hb hby at_258) rfl rfl k_) ?_
    refine goVirtS X37 hx hZ (y := (⟨"com/example/kenshinkit/kenshinkit/schema/OpenElements", "depth", "()I"⟩ : MethodName)) hown (hw _ (List.mem_of_getElem? (i := 70) rfl)) (hw _ (List.mem_of_getElem? (i := 71) rfl)) (hw _ (List.mem_of_getElem? (i := 73) rfl)) (hw _ (List.mem_of_getElem? (i := 72) rfl)) (hw _ (List.mem_of_getElem? (i := 2) rfl)) (hw _ (List.mem_of_getElem? (i := 74) rfl)) (by decide) p37_0 (rm7 l Z a0 hw [] n0 h37 ao ((((((0 : Int32) + (1 : Int32)) + (1 : Int32)) - (1 : Int32)) + (1 : Int32)) - (1 : Int32)) sz37 p37_1) 0 (by decide) (by decide) (by rw [hml]; rfl) [] [] (lenOf pd_8259a895 rfl) rfl rfl rfl (hb hby at_260) (by decide) (by decide) fun v38 T38 h38 X38 hq38 => ?_
    obtain ⟨rfl, eh38⟩ := hq38
    rw [eh38] at X38
    show Go p e below _ T38 (mkF m 263 #[.val (.int p1), .val (.int p2), .val (.int p3), .val (.int (1 : Int32)), .val (.int (2 : Int32)), .val (.ref ao), .val (.ref oA), .val (.ref oB), .val (.int (1 : Int32)), .val (.ref oA)] [(.int ((((((0 : Int32) + (1 : Int32)) + (1 : Int32)) - (1 : Int32)) + (1 : Int32)) - (1 : Int32)))])
    refine Go.st (T' := T38) (g' := (mkF m 265 #[.val (.int p1), .val (.int p2), .val (.int p3), .val (.int (1 : Int32)), .val (.int (2 : Int32)), .val (.ref ao), .val (.ref oA), .val (.ref oB), .val (.int (1 : Int32)), .val (.ref oA)] [(.int (2 : Int32)), (.int ((((((0 : Int32) + (1 : Int32)) + (1 : Int32)) - (1 : Int32)) + (1 : Int32)) - (1 : Int32)))])) (fun t_ k_ => XS.iload X38.here hx rfl (hb hby at_263) rfl k_) ?_
    refine Go.st (T' := T38) (g' := (mkF m 266 #[.val (.int p1), .val (.int p2), .val (.int p3), .val (.int (1 : Int32)), .val (.int (2 : Int32)), .val (.ref ao), .val (.ref oA), .val (.ref oB), .val (.int (1 : Int32)), .val (.ref oA)] [(.int (1 : Int32)), (.int (2 : Int32)), (.int ((((((0 : Int32) + (1 : Int32)) + (1 : Int32)) - (1 : Int32)) + (1 : Int32)) - (1 : Int32)))])) (fun t_ k_ => XS.iconst X38.here hx rfl (hb hby at_265) k_) ?_
    refine Go.st (T' := T38) (g' := (mkF m 267 #[.val (.int p1), .val (.int p2), .val (.int p3), .val (.int (1 : Int32)), .val (.int (2 : Int32)), .val (.ref ao), .val (.ref oA), .val (.ref oB), .val (.int (1 : Int32)), .val (.ref oA)] [(.int ((2 : Int32) - (1 : Int32))), (.int ((((((0 : Int32) + (1 : Int32)) + (1 : Int32)) - (1 : Int32)) + (1 : Int32)) - (1 : Int32)))])) (fun t_ k_ => XS.isub X38.here hx rfl (hb hby at_266) rfl k_) ?_
    have hc267 : ((((((0 : Int32) + (1 : Int32)) + (1 : Int32)) - (1 : Int32)) + (1 : Int32)) - (1 : Int32)) = ((2 : Int32) - (1 : Int32)) := rfl
    refine Go.st (T' := T38) (g' := (mkF m 270 #[.val (.int p1), .val (.int p2), .val (.int p3), .val (.int (1 : Int32)), .val (.int (2 : Int32)), .val (.ref ao), .val (.ref oA), .val (.ref oB), .val (.int (1 : Int32)), .val (.ref oA)] [])) (fun t_ k_ => XS.icmpNo X38.here hx rfl (hb hby at_267) rfl (teq hc267).2 k_) ?_
    refine Go.st (T' := T38) (g' := (mkF m 271 #[.val (.int p1), .val (.int p2), .val (.int p3), .val (.int (1 : Int32)), .val (.int (2 : Int32)), .val (.ref ao), .val (.ref oA), .val (.ref oB), .val (.int (1 : Int32)), .val (.ref oA)] [(.int (1 : Int32))])) (fun t_ k_ => XS.iconst X38.here hx rfl (hb hby at_270) k_) ?_
    refine Go.st (T' := T38) (g' := (mkF m 275 #[.val (.int p1), .val (.int p2), .val (.int p3), .val (.int (1 : Int32)), .val (.int (2 : Int32)), .val (.ref ao), .val (.ref oA), .val (.ref oB), .val (.int (1 : Int32)), .val (.ref oA)] [(.int (1 : Int32))])) (fun t_ k_ => XS.goto X38.here hx rfl (pc0 := 271) (pc' := 275) rfl (hb hby at_271) (by decide) (by decide) k_) ?_
    refine Go.st (T' := T38) (g' := (mkF m 277 #[.val (.int p1), .val (.int p2), .val (.int p3), .val (.int (1 : Int32)), .val (.int (2 : Int32)), .val (.ref ao), .val (.ref oA), .val (.ref oB), .val (.int (1 : Int32)), .val (.ref oA)] [])) (fun t_ k_ => XS.istore X38.here hx rfl (hb hby at_275) rfl (l' := #[.val (.int p1), .val (.int p2), .val (.int p3), .val (.int (1 : Int32)), .val (.int (2 : Int32)), .val (.ref ao), .val (.ref oA), .val (.ref oB), .val (.int (1 : Int32)), .val (.ref oA)]) rfl k_) ?_
    refine Go.st (T' := T38) (g' := (mkF m 279 #[.val (.int p1), .val (.int p2), .val (.int p3), .val (.int (1 : Int32)), .val (.int (2 : Int32)), .val (.ref ao), .val (.ref oA), .val (.ref oB), .val (.int (1 : Int32)), .val (.ref oA)] [(.int (1 : Int32))])) (fun t_ k_ => XS.iload X38.here hx rfl (hb hby at_277) rfl k_) ?_
    refine goRetZ X38 hx hlk hret (hb hby at_279) (by decide) (by decide) (Or.inr rfl) ?_
    exact rfl
set_option maxRecDepth 65536 in
set_option maxHeartbeats 40000000 in
theorem comes_1 {Post : Tables → Env → Array Value → State → Outcome → State → Prop} (hpost : ∀ tb e args s v u, (limb_1_1.after args s (.returned v) u = true ∧ limb_1_2.after args s (.returned v) u = true ∧ True) → FrameEnd s (.returned v) u (Jvm.fieldLocs frame_1_writes args s ++ Jvm.arrayLocs frame_1_arrays args s ++ Jvm.staticLocs frame_1_statics s) 40 768 → Post tb e args s (.returned v) u) :
    ArmFor flags0 classFile x code maxLocals ret World_1 tables_1 room_1 Calls_1 rest_1 Pre_1 Post := by
  intro l hfl _ _ p e ha hc hk s m args below hf hA hF happ hP
  obtain ⟨hcalls, hrest, hpre⟩ := hP
  obtain ⟨-, -, -, hnamed, -, -, -, hat⟩ := (Spec.applies_iff hf).mp happ
  obtain ⟨hg, hn⟩ := and_e (Cond.before_iff.mp (show (Jvm.Cond.and given_1 narrow_1).before args s = true from hpre))
  obtain ⟨hcnt, hg⟩ := and_e hg
  obtain ⟨ha0, hg⟩ := and_e hg
  obtain ⟨ha1, hg⟩ := and_e hg
  have ha2 := hg
  obtain ⟨w0, w1, w2, rfl⟩ : ∃ w0 w1 w2 : Value, args = #[w0, w1, w2] := by
    have hs : args.size = 3 := by simpa [Cond.value, given_1] using hcnt
    obtain ⟨L⟩ := args
    match L, hs with
    | [w0, w1, w2], _ => exact ⟨w0, w1, w2, rfl⟩
  have hw := fun d (hd : d ∈ tables_1) => atoms_spec (ws := Jvm.Cond.code x code maxLocals ret :: tables_1) hat d (List.mem_cons_of_mem _ hd)
  have hfit : Fit s := fun {y c} hc i hi => by
    obtain ⟨ha, rfl⟩ := Array.getElem?_eq_some_iff.mp hc
    have q := List.all_eq_true.mp ((Array.all_eq_true_iff_forall_mem.mp hF) _ (Array.getElem_mem ha)) i (List.mem_range.mpr hi)
    simpa [Array.getElem?_eq_getElem hi] using q
  obtain ⟨i0, ei0⟩ := is_v ha0
  obtain rfl : w0 = (.int i0) := Option.some.inj ei0
  obtain ⟨i1, ei1⟩ := is_v ha1
  obtain rfl : w1 = (.int i1) := Option.some.inj ei1
  obtain ⟨i2, ei2⟩ := is_v ha2
  obtain rfl : w2 = (.int i2) := Option.some.inj ei2
  have hE0 := hn
  obtain ⟨we, ewe⟩ := exa_v hn
  have hS : Sta s s.heap "com/example/kenshinkit/kenshinkit/schema/ComplexType$Content" "EMPTY" "Lcom/example/kenshinkit/kenshinkit/schema/ComplexType$Content;" (.ref we) := Sta.start ewe (Or.inr ⟨hw _ (List.mem_of_getElem? (i := 40) rfl), hw _ (List.mem_of_getElem? (i := 41) rfl)⟩)
  obtain ⟨n, o, h1, h2, h3, v, L, rfl, ⟨N, hv⟩, hq⟩ := rm0 l s _ hw tables_1 s.heap.size s.heap i0 i1 i2 we (Nat.le_refl _) hS p e ha hc hk s m _ below hf ((Spec.applies_iff_loose hf).mp happ).1 ⟨rfl, State.Warmed39.refl s, rfl⟩ trivial
  obtain rfl : v = some (.int 1) := hv
  refine ⟨n, _, h1, h2, h3, hpost _ _ _ _ _ _ ⟨Cond.after_iff.mpr rfl, Cond.after_iff.mpr (eq_i res_at (Term.int_eval (1)) rfl), trivial⟩ ⟨hq.1, hq.2.1, (hq.2.2.sift fun y hy => Or.inr (N y hy)).mono (by decide) (by decide)⟩⟩
theorem main_1_1 : Claimed_1_1 := comes_1 fun _ _ _ _ _ _ h hF => ⟨h.1, hF⟩
theorem main_1_2 : Claimed_1_2 := comes_1 fun _ _ _ _ _ _ h hF => ⟨h.2.1, hF⟩
end Jvm.Pilot.@@N@@
namespace Jvm.Pilot.@@N@@
open Jvm Jvm.ClassFile Sem Op Lib Jvm.Free Jvm.Stand Jvm.Pilot.@@N@@.Jvm.D
/-! MADE BY PROGRAM (witnessworld.py) out of the Statement's table words and the real class files: 23 classes; the members and pool entries that the words name. The judged class is class 1, her method 1. -/
namespace start1
open Jvm.ClassFile
def u (s : String) : CpInfo := .utf8 (stringToUtf16 s)
/-- a pool by its gaps: so many unusable entries, then the entry; so many at the end -/
def gap : Nat → List CpInfo → List CpInfo
  | 0, r => r
  | n + 1, r => .unusable :: gap n r
def poolList (es : List (Nat × CpInfo)) (last : Nat) : List CpInfo := es.foldr (fun e r => gap e.1 (e.2 :: r)) (gap last [])
def pool (es : List (Nat × CpInfo)) (last : Nat) : Array CpInfo := ⟨poolList es last⟩
def fileOf (pool : Array CpInfo) (this : Nat) (attrs : Array Attribute := #[]) (ms : Array MethodInfo := #[]) (fl : Nat := 33) (sup : Nat := 0) (ifs : Array Nat := #[]) (fds : Array FieldInfo := #[]) : ClassFile where
  minorVersion := 0
  majorVersion := 65
  constantPool := pool
  accessFlags := fl
  thisClass := this
  superClass := sup
  interfaces := ifs
  fields := fds
  methods := ms
  attributes := attrs
def plain (name : String) (sup : Option ClassId) : Class where
  name := name
  kind := .ordinary
  loader := none
  accessFlags := 33
  super := sup
  interfaces := #[]
  cf := none
  fields := #[]
  methods := #[]
  instanceTypes := #[]
  staticTypes := #[]
  resolved := #[]
  callSites := []
  init := .initialized
  statics := none
  mirror := none

def pool0 : Array CpInfo := pool [(5, u "<init>"), (0, u "()V"), (1, .class_ 10), (1, u "java/lang/Object")] 113

def k0c0 : Code := { maxStack := 0, maxLocals := 1, code := object_method_1_code, exceptionTable := #[], attributes := #[] }
def k0m0 : Method := { name := "<init>", desc := "()V", sig := { parameters := [], returnType := none }, accessFlags := 1, code := some k0c0 }
/-- java/lang/Object -/
def k0 : Class := { plain "java/lang/Object" none with
  accessFlags := 33
  interfaces := #[]
  cf := some (fileOf pool0 8 #[] #[{ accessFlags := 1, nameIndex := 5, descriptorIndex := 6, attributes := #[] }] 33 0 #[] #[])
  fields := #[]
  methods := #[k0m0]
  instanceTypes := #[]
  staticTypes := #[]
  resolved := Array.replicate 124 none
  statics := none }

def pool1 : Array CpInfo := pool [(2, .class_ 4), (0, .nameAndType 5 6), (0, u "java/lang/Object"), (0, u "<init>"), (0, u "()V"), (0, .class_ 8), (0, u "com/example/kenshinkit/kenshinkit/schema/OpenElements"), (0, .methodref 7 3), (0, .class_ 11), (0, u "com/example/kenshinkit/kenshinkit/schema/ComplexType"), (0, .methodref 10 3), (0, .methodref 7 14), (0, .nameAndType 15 16), (0, u "push"), (0, u "(Lcom/example/kenshinkit/kenshinkit/schema/SchemaType;)V"), (0, .methodref 7 18), (0, .nameAndType 19 20), (0, u "setState"), (0, u "(II)V"), (0, .methodref 7 22), (0, .nameAndType 23 6), (0, u "pop"), (0, .methodref 7 25), (0, .nameAndType 26 27), (0, u "depth"), (0, u "()I"), (0, .methodref 7 29), (0, .nameAndType 30 31), (0, u "type"), (0, u "(I)Lcom/example/kenshinkit/kenshinkit/schema/SchemaType;"), (0, .methodref 7 33), (0, .nameAndType 34 35), (0, u "state"), (0, u "(I)I"), (0, .class_ 37), (0, u "com/example/kenshinkit/kenshinkit/schema/OpenElementsPopPinLaw"), (2, u "law"), (0, u "(III)Z")] 3

def k1m0 : Method := { name := "<init>", desc := "()V", sig := { parameters := [], returnType := none }, accessFlags := 1, code := none }
def k1c1 : Code := { maxStack := 3, maxLocals := 10, code := code, exceptionTable := #[], attributes := #[] }
def k1m1 : Method := { name := "law", desc := "(III)Z", sig := { parameters := [.int, .int, .int], returnType := some .boolean }, accessFlags := 9, code := some k1c1 }
/-- com/example/kenshinkit/kenshinkit/schema/OpenElementsPopPinLaw -/
def k1 : Class := { plain "com/example/kenshinkit/kenshinkit/schema/OpenElementsPopPinLaw" (some 0) with
  accessFlags := 49
  interfaces := #[]
  cf := some (fileOf pool1 36 #[] #[{ accessFlags := 1, nameIndex := 5, descriptorIndex := 6, attributes := #[] }, { accessFlags := 9, nameIndex := 40, descriptorIndex := 41, attributes := #[] }] 49 2 #[] #[])
  fields := #[]
  methods := #[k1m0, k1m1]
  instanceTypes := #[]
  staticTypes := #[]
  resolved := Array.replicate 45 none
  statics := none }

def pool2 : Array CpInfo := pool [(1, .methodref 2 3), (0, .class_ 4), (0, .nameAndType 5 6), (0, u "java/lang/Object"), (0, u "<init>"), (0, u "()V"), (0, .class_ 8), (0, u "com/example/kenshinkit/kenshinkit/schema/SchemaType"), (0, .fieldref 10 11), (0, .class_ 12), (0, .nameAndType 13 14), (0, u "com/example/kenshinkit/kenshinkit/schema/OpenElements"), (0, u "types"), (0, u "[Lcom/example/kenshinkit/kenshinkit/schema/SchemaType;"), (0, .fieldref 10 16), (0, .nameAndType 17 18), (0, u "states"), (0, u "[I"), (0, .fieldref 10 20), (0, .nameAndType 21 18), (0, u "marks"), (0, .class_ 23), (0, u "java/lang/String"), (0, .fieldref 10 25), (0, .nameAndType 26 27), (0, u "prefixes"), (0, u "[Ljava/lang/String;"), (0, .fieldref 10 29), (0, .nameAndType 30 27), (0, u "uris"), (0, .fieldref 10 32), (0, .nameAndType 33 27), (0, u "keptValues"), (0, .fieldref 10 35), (0, .nameAndType 36 27), (0, u "keptPrefixes"), (0, .fieldref 10 38), (0, .nameAndType 39 27), (0, u "keptNamespaces"), (0, .fieldref 10 41), (0, .nameAndType 42 14), (0, u "keptTypes"), (0, .fieldref 10 44), (0, .nameAndType 45 46), (0, u "depth"), (0, u "I"), (0, .fieldref 10 48), (0, .nameAndType 49 46), (0, u "bindings"), (0, .fieldref 10 51), (0, .nameAndType 52 46), (0, u "boundary"), (16, u "()I"), (2, u "keptGrammar"), (0, u "Lcom/example/kenshinkit/kenshinkit/schema/Grammar;"), (16, u "(I)I"), (23, u "type"), (13, u "KEPT_TYPES"), (8, u "push"), (0, u "(Lcom/example/kenshinkit/kenshinkit/schema/SchemaType;)V"), (0, u "pop"), (0, u "(I)Lcom/example/kenshinkit/kenshinkit/schema/SchemaType;"), (0, u "state"), (0, u "setState"), (0, u "(II)V")] 4

def k2c0 : Code := { maxStack := 2, maxLocals := 1, code := prog_133_method_1_code, exceptionTable := #[], attributes := #[] }
def k2m0 : Method := { name := "<init>", desc := "()V", sig := { parameters := [], returnType := none }, accessFlags := 0, code := some k2c0 }
def k2c1 : Code := { maxStack := 4, maxLocals := 2, code := prog_133_method_4_code, exceptionTable := #[], attributes := #[] }
def k2m1 : Method := { name := "push", desc := "(Lcom/example/kenshinkit/kenshinkit/schema/SchemaType;)V", sig := { parameters := [(.object "com/example/kenshinkit/kenshinkit/schema/SchemaType")], returnType := none }, accessFlags := 0, code := some k2c1 }
def k2c2 : Code := { maxStack := 3, maxLocals := 1, code := prog_133_method_5_code, exceptionTable := #[], attributes := #[] }
def k2m2 : Method := { name := "pop", desc := "()V", sig := { parameters := [], returnType := none }, accessFlags := 0, code := some k2c2 }
def k2c3 : Code := { maxStack := 1, maxLocals := 1, code := prog_133_method_6_code, exceptionTable := #[], attributes := #[] }
def k2m3 : Method := { name := "depth", desc := "()I", sig := { parameters := [], returnType := some .int }, accessFlags := 0, code := some k2c3 }
def k2c4 : Code := { maxStack := 2, maxLocals := 2, code := prog_133_method_7_code, exceptionTable := #[], attributes := #[] }
def k2m4 : Method := { name := "type", desc := "(I)Lcom/example/kenshinkit/kenshinkit/schema/SchemaType;", sig := { parameters := [.int], returnType := some (.object "com/example/kenshinkit/kenshinkit/schema/SchemaType") }, accessFlags := 0, code := some k2c4 }
def k2c5 : Code := { maxStack := 2, maxLocals := 2, code := prog_133_method_8_code, exceptionTable := #[], attributes := #[] }
def k2m5 : Method := { name := "state", desc := "(I)I", sig := { parameters := [.int], returnType := some .int }, accessFlags := 0, code := some k2c5 }
def k2c6 : Code := { maxStack := 3, maxLocals := 3, code := prog_133_method_9_code, exceptionTable := #[], attributes := #[] }
def k2m6 : Method := { name := "setState", desc := "(II)V", sig := { parameters := [.int, .int], returnType := none }, accessFlags := 0, code := some k2c6 }
/-- com/example/kenshinkit/kenshinkit/schema/OpenElements -/
def k2 : Class := { plain "com/example/kenshinkit/kenshinkit/schema/OpenElements" (some 0) with
  accessFlags := 48
  interfaces := #[]
  cf := some (fileOf pool2 10 #[] #[{ accessFlags := 0, nameIndex := 5, descriptorIndex := 6, attributes := #[] }, { accessFlags := 0, nameIndex := 137, descriptorIndex := 138, attributes := #[] }, { accessFlags := 0, nameIndex := 139, descriptorIndex := 6, attributes := #[] }, { accessFlags := 0, nameIndex := 45, descriptorIndex := 69, attributes := #[] }, { accessFlags := 0, nameIndex := 114, descriptorIndex := 140, attributes := #[] }, { accessFlags := 0, nameIndex := 141, descriptorIndex := 90, attributes := #[] }, { accessFlags := 0, nameIndex := 142, descriptorIndex := 143, attributes := #[] }] 48 2 #[] #[{ accessFlags := 2, nameIndex := 13, descriptorIndex := 14, attributes := #[] }, { accessFlags := 2, nameIndex := 17, descriptorIndex := 18, attributes := #[] }, { accessFlags := 2, nameIndex := 21, descriptorIndex := 18, attributes := #[] }, { accessFlags := 2, nameIndex := 45, descriptorIndex := 46, attributes := #[] }, { accessFlags := 2, nameIndex := 26, descriptorIndex := 27, attributes := #[] }, { accessFlags := 2, nameIndex := 30, descriptorIndex := 27, attributes := #[] }, { accessFlags := 2, nameIndex := 49, descriptorIndex := 46, attributes := #[] }, { accessFlags := 2, nameIndex := 52, descriptorIndex := 46, attributes := #[] }, { accessFlags := 26, nameIndex := 128, descriptorIndex := 46, attributes := #[] }, { accessFlags := 18, nameIndex := 33, descriptorIndex := 27, attributes := #[] }, { accessFlags := 18, nameIndex := 36, descriptorIndex := 27, attributes := #[] }, { accessFlags := 18, nameIndex := 39, descriptorIndex := 27, attributes := #[] }, { accessFlags := 18, nameIndex := 42, descriptorIndex := 14, attributes := #[] }, { accessFlags := 2, nameIndex := 72, descriptorIndex := 73, attributes := #[] }])
  fields := #[{ name := "types", type := (.array (.object "com/example/kenshinkit/kenshinkit/schema/SchemaType")), accessFlags := 2, slot := 0, constantValue := 0 }, { name := "states", type := (.array .int), accessFlags := 2, slot := 1, constantValue := 0 }, { name := "marks", type := (.array .int), accessFlags := 2, slot := 2, constantValue := 0 }, { name := "depth", type := .int, accessFlags := 2, slot := 3, constantValue := 0 }, { name := "prefixes", type := (.array (.object "java/lang/String")), accessFlags := 2, slot := 4, constantValue := 0 }, { name := "uris", type := (.array (.object "java/lang/String")), accessFlags := 2, slot := 5, constantValue := 0 }, { name := "bindings", type := .int, accessFlags := 2, slot := 6, constantValue := 0 }, { name := "boundary", type := .int, accessFlags := 2, slot := 7, constantValue := 0 }, { name := "KEPT_TYPES", type := .int, accessFlags := 26, slot := 0, constantValue := 0 }, { name := "keptValues", type := (.array (.object "java/lang/String")), accessFlags := 18, slot := 8, constantValue := 0 }, { name := "keptPrefixes", type := (.array (.object "java/lang/String")), accessFlags := 18, slot := 9, constantValue := 0 }, { name := "keptNamespaces", type := (.array (.object "java/lang/String")), accessFlags := 18, slot := 10, constantValue := 0 }, { name := "keptTypes", type := (.array (.object "com/example/kenshinkit/kenshinkit/schema/SchemaType")), accessFlags := 18, slot := 11, constantValue := 0 }, { name := "keptGrammar", type := (.object "com/example/kenshinkit/kenshinkit/schema/Grammar"), accessFlags := 2, slot := 12, constantValue := 0 }]
  methods := #[k2m0, k2m1, k2m2, k2m3, k2m4, k2m5, k2m6]
  instanceTypes := #[(.array (.object "com/example/kenshinkit/kenshinkit/schema/SchemaType")), (.array .int), (.array .int), .int, (.array (.object "java/lang/String")), (.array (.object "java/lang/String")), .int, .int, (.array (.object "java/lang/String")), (.array (.object "java/lang/String")), (.array (.object "java/lang/String")), (.array (.object "com/example/kenshinkit/kenshinkit/schema/SchemaType")), (.object "com/example/kenshinkit/kenshinkit/schema/Grammar")]
  staticTypes := #[.int]
  resolved := Array.replicate 148 none
  statics := none }

def pool3 : Array CpInfo := pool [(1, .class_ 2), (0, u "com/example/kenshinkit/kenshinkit/schema/SchemaType"), (0, .class_ 4), (0, u "java/lang/Object")] 9

/-- com/example/kenshinkit/kenshinkit/schema/SchemaType -/
def k3 : Class := { plain "com/example/kenshinkit/kenshinkit/schema/SchemaType" (some 0) with
  accessFlags := 1536
  interfaces := #[]
  cf := some (fileOf pool3 1 #[] #[] 1536 3 #[] #[])
  fields := #[]
  methods := #[]
  instanceTypes := #[]
  staticTypes := #[]
  resolved := Array.replicate 14 none
  statics := none }

def pool4 : Array CpInfo := pool [(1, .class_ 2), (0, u "java/io/Serializable"), (0, .class_ 4), (0, u "java/lang/Object")] 2

/-- java/io/Serializable -/
def k4 : Class := { plain "java/io/Serializable" (some 0) with
  accessFlags := 1537
  interfaces := #[]
  cf := some (fileOf pool4 1 #[] #[] 1537 3 #[] #[])
  fields := #[]
  methods := #[]
  instanceTypes := #[]
  staticTypes := #[]
  resolved := Array.replicate 7 none
  statics := none }

def pool5 : Array CpInfo := pool [(1, .class_ 2), (0, u "java/lang/Comparable"), (0, .class_ 4), (0, u "java/lang/Object")] 7

/-- java/lang/Comparable -/
def k5 : Class := { plain "java/lang/Comparable" (some 0) with
  accessFlags := 1537
  interfaces := #[]
  cf := some (fileOf pool5 1 #[] #[] 1537 3 #[] #[])
  fields := #[]
  methods := #[]
  instanceTypes := #[]
  staticTypes := #[]
  resolved := Array.replicate 12 none
  statics := none }

def pool6 : Array CpInfo := pool [(2, .class_ 4), (1, u "java/lang/CharSequence"), (42, .class_ 48), (0, u "java/lang/CharSequence$1CodePointIterator"), (10, .class_ 60), (0, u "java/lang/CharSequence$1CharIterator"), (5, .class_ 67), (0, u "java/lang/Object")] 63

/-- java/lang/CharSequence -/
def k6 : Class := { plain "java/lang/CharSequence" (some 0) with
  accessFlags := 1537
  interfaces := #[]
  cf := some (fileOf pool6 2 #[.nestMembers #[47, 59]] #[] 1537 66 #[] #[])
  fields := #[]
  methods := #[]
  instanceTypes := #[]
  staticTypes := #[]
  resolved := Array.replicate 131 none
  statics := none }

def pool7 : Array CpInfo := pool [(1, .class_ 2), (0, u "java/lang/constant/Constable"), (0, .class_ 4), (0, u "java/lang/Object")] 6

/-- java/lang/constant/Constable -/
def k7 : Class := { plain "java/lang/constant/Constable" (some 0) with
  accessFlags := 1537
  interfaces := #[]
  cf := some (fileOf pool7 1 #[] #[] 1537 3 #[] #[])
  fields := #[]
  methods := #[]
  instanceTypes := #[]
  staticTypes := #[]
  resolved := Array.replicate 11 none
  statics := none }

def pool8 : Array CpInfo := pool [(1, .class_ 2), (0, u "java/lang/constant/ConstantDesc"), (0, .class_ 4), (0, u "java/lang/Object")] 32

/-- java/lang/constant/ConstantDesc -/
def k8 : Class := { plain "java/lang/constant/ConstantDesc" (some 0) with
  accessFlags := 1537
  interfaces := #[]
  cf := some (fileOf pool8 1 #[] #[] 1537 3 #[] #[])
  fields := #[]
  methods := #[]
  instanceTypes := #[]
  staticTypes := #[]
  resolved := Array.replicate 37 none
  statics := none }

def pool9 : Array CpInfo := pool [(2, .class_ 4), (1, u "java/lang/Object"), (0, u "<init>"), (0, u "()V"), (3, .class_ 12), (1, u "java/lang/String"), (0, u "value"), (0, u "[B"), (2, u "coder"), (0, u "B"), (2, u "hash"), (0, u "I"), (2, u "hashIsZero"), (0, u "Z"), (13, u "COMPACT_STRINGS"), (534, .class_ 576), (0, u "java/lang/CharSequence"), (22, u "CASE_INSENSITIVE_ORDER"), (0, u "Ljava/util/Comparator;"), (500, u "serialPersistentFields"), (0, u "[Ljava/io/ObjectStreamField;"), (0, .class_ 1104), (0, u "java/lang/String$CaseInsensitiveComparator"), (1, .class_ 1107), (0, u "java/io/Serializable"), (0, .class_ 1109), (0, u "java/lang/Comparable"), (0, .class_ 1111), (0, u "java/lang/constant/Constable"), (0, .class_ 1113), (0, u "java/lang/constant/ConstantDesc"), (2, u "serialVersionUID"), (0, u "J"), (3, u "REPL"), (0, u "C"), (2, u "LATIN1"), (1, u "UTF16")] 323

def k9m0 : Method := { name := "<init>", desc := "()V", sig := { parameters := [], returnType := none }, accessFlags := 1, code := none }
/-- java/lang/String -/
def k9 : Class := { plain "java/lang/String" (some 0) with
  accessFlags := 49
  interfaces := #[4, 5, 6, 7, 8]
  cf := some (fileOf pool9 10 #[.nestMembers #[1103]] #[{ accessFlags := 1, nameIndex := 5, descriptorIndex := 6, attributes := #[] }] 49 2 #[1106, 1108, 575, 1110, 1112] #[{ accessFlags := 18, nameIndex := 13, descriptorIndex := 14, attributes := #[] }, { accessFlags := 18, nameIndex := 17, descriptorIndex := 18, attributes := #[] }, { accessFlags := 2, nameIndex := 21, descriptorIndex := 22, attributes := #[] }, { accessFlags := 2, nameIndex := 25, descriptorIndex := 26, attributes := #[] }, { accessFlags := 26, nameIndex := 1116, descriptorIndex := 1117, attributes := #[] }, { accessFlags := 24, nameIndex := 40, descriptorIndex := 26, attributes := #[] }, { accessFlags := 26, nameIndex := 1101, descriptorIndex := 1102, attributes := #[] }, { accessFlags := 26, nameIndex := 1121, descriptorIndex := 1122, attributes := #[] }, { accessFlags := 25, nameIndex := 599, descriptorIndex := 600, attributes := #[] }, { accessFlags := 24, nameIndex := 1125, descriptorIndex := 18, attributes := #[] }, { accessFlags := 24, nameIndex := 1127, descriptorIndex := 18, attributes := #[] }])
  fields := #[{ name := "value", type := (.array .byte), accessFlags := 18, slot := 0, constantValue := 0 }, { name := "coder", type := .byte, accessFlags := 18, slot := 1, constantValue := 0 }, { name := "hash", type := .int, accessFlags := 2, slot := 2, constantValue := 0 }, { name := "hashIsZero", type := .boolean, accessFlags := 2, slot := 3, constantValue := 0 }, { name := "serialVersionUID", type := .long, accessFlags := 26, slot := 0, constantValue := 0 }, { name := "COMPACT_STRINGS", type := .boolean, accessFlags := 24, slot := 1, constantValue := 0 }, { name := "serialPersistentFields", type := (.array (.object "java/io/ObjectStreamField")), accessFlags := 26, slot := 2, constantValue := 0 }, { name := "REPL", type := .char, accessFlags := 26, slot := 3, constantValue := 0 }, { name := "CASE_INSENSITIVE_ORDER", type := (.object "java/util/Comparator"), accessFlags := 25, slot := 4, constantValue := 0 }, { name := "LATIN1", type := .byte, accessFlags := 24, slot := 5, constantValue := 0 }, { name := "UTF16", type := .byte, accessFlags := 24, slot := 6, constantValue := 0 }]
  methods := #[k9m0]
  instanceTypes := #[(.array .byte), .byte, .int, .boolean]
  staticTypes := #[.long, .boolean, (.array (.object "java/io/ObjectStreamField")), .char, (.object "java/util/Comparator"), .byte, .byte]
  resolved := Array.replicate 1451 none
  statics := none }

def pool10 : Array CpInfo := pool [(1, .methodref 2 3), (0, .class_ 4), (0, .nameAndType 5 6), (0, u "java/lang/Object"), (0, u "<init>"), (0, u "()V"), (0, .fieldref 8 9), (0, .class_ 10), (0, .nameAndType 11 12), (0, u "com/example/kenshinkit/kenshinkit/schema/ComplexType$Content"), (0, u "EMPTY"), (0, u "Lcom/example/kenshinkit/kenshinkit/schema/ComplexType$Content;"), (0, .fieldref 14 15), (0, .class_ 16), (0, .nameAndType 17 12), (0, u "com/example/kenshinkit/kenshinkit/schema/ComplexType"), (0, u "content"), (0, .class_ 19), (0, u "com/example/kenshinkit/kenshinkit/schema/AttributeUse"), (0, .fieldref 14 21), (0, .nameAndType 22 23), (0, u "uses"), (0, u "[Lcom/example/kenshinkit/kenshinkit/schema/AttributeUse;"), (2, u "base"), (0, u "Lcom/example/kenshinkit/kenshinkit/schema/SchemaType;"), (2, u "isAbstract"), (0, u "Z"), (2, u "particle"), (0, u "Lcom/example/kenshinkit/kenshinkit/schema/Particle;"), (36, u "mustGive"), (0, u "J"), (2, u "added"), (2, u "defined"), (7, u "supported"), (2, u "contentRead"), (8, u "boundsCounts"), (15, u "model"), (0, u "Lcom/example/kenshinkit/kenshinkit/schema/ContentModel;"), (2, .class_ 120), (0, u "com/example/kenshinkit/kenshinkit/schema/SchemaType")] 30

def k10c0 : Code := { maxStack := 2, maxLocals := 1, code := prog_112_method_1_code, exceptionTable := #[], attributes := #[] }
def k10m0 : Method := { name := "<init>", desc := "()V", sig := { parameters := [], returnType := none }, accessFlags := 0, code := some k10c0 }
/-- com/example/kenshinkit/kenshinkit/schema/ComplexType -/
def k10 : Class := { plain "com/example/kenshinkit/kenshinkit/schema/ComplexType" (some 0) with
  accessFlags := 48
  interfaces := #[3]
  cf := some (fileOf pool10 14 #[.nestMembers #[8]] #[{ accessFlags := 0, nameIndex := 5, descriptorIndex := 6, attributes := #[] }] 48 2 #[119] #[{ accessFlags := 2, nameIndex := 26, descriptorIndex := 27, attributes := #[] }, { accessFlags := 2, nameIndex := 30, descriptorIndex := 31, attributes := #[] }, { accessFlags := 2, nameIndex := 79, descriptorIndex := 31, attributes := #[] }, { accessFlags := 2, nameIndex := 87, descriptorIndex := 31, attributes := #[] }, { accessFlags := 2, nameIndex := 90, descriptorIndex := 31, attributes := #[] }, { accessFlags := 2, nameIndex := 17, descriptorIndex := 12, attributes := #[] }, { accessFlags := 2, nameIndex := 34, descriptorIndex := 35, attributes := #[] }, { accessFlags := 2, nameIndex := 115, descriptorIndex := 116, attributes := #[] }, { accessFlags := 2, nameIndex := 99, descriptorIndex := 31, attributes := #[] }, { accessFlags := 2, nameIndex := 22, descriptorIndex := 23, attributes := #[] }, { accessFlags := 2, nameIndex := 72, descriptorIndex := 73, attributes := #[] }, { accessFlags := 2, nameIndex := 76, descriptorIndex := 73, attributes := #[] }])
  fields := #[{ name := "base", type := (.object "com/example/kenshinkit/kenshinkit/schema/SchemaType"), accessFlags := 2, slot := 0, constantValue := 0 }, { name := "isAbstract", type := .boolean, accessFlags := 2, slot := 1, constantValue := 0 }, { name := "defined", type := .boolean, accessFlags := 2, slot := 2, constantValue := 0 }, { name := "supported", type := .boolean, accessFlags := 2, slot := 3, constantValue := 0 }, { name := "contentRead", type := .boolean, accessFlags := 2, slot := 4, constantValue := 0 }, { name := "content", type := (.object "com/example/kenshinkit/kenshinkit/schema/ComplexType$Content"), accessFlags := 2, slot := 5, constantValue := 0 }, { name := "particle", type := (.object "com/example/kenshinkit/kenshinkit/schema/Particle"), accessFlags := 2, slot := 6, constantValue := 0 }, { name := "model", type := (.object "com/example/kenshinkit/kenshinkit/schema/ContentModel"), accessFlags := 2, slot := 7, constantValue := 0 }, { name := "boundsCounts", type := .boolean, accessFlags := 2, slot := 8, constantValue := 0 }, { name := "uses", type := (.array (.object "com/example/kenshinkit/kenshinkit/schema/AttributeUse")), accessFlags := 2, slot := 9, constantValue := 0 }, { name := "mustGive", type := .long, accessFlags := 2, slot := 10, constantValue := 0 }, { name := "added", type := .long, accessFlags := 2, slot := 11, constantValue := 0 }]
  methods := #[k10m0]
  instanceTypes := #[(.object "com/example/kenshinkit/kenshinkit/schema/SchemaType"), .boolean, .boolean, .boolean, .boolean, (.object "com/example/kenshinkit/kenshinkit/schema/ComplexType$Content"), (.object "com/example/kenshinkit/kenshinkit/schema/Particle"), (.object "com/example/kenshinkit/kenshinkit/schema/ContentModel"), .boolean, (.array (.object "com/example/kenshinkit/kenshinkit/schema/AttributeUse")), .long, .long]
  staticTypes := #[]
  resolved := Array.replicate 151 none
  statics := none }

def pool11 : Array CpInfo := pool [(2, .class_ 4), (1, u "java/lang/Enum"), (0, u "name"), (0, u "Ljava/lang/String;"), (2, u "ordinal"), (0, u "I"), (1, .class_ 14), (1, u "java/lang/Object"), (4, u "hash"), (86, .class_ 108), (1, u "java/lang/Enum$EnumDesc"), (2, .class_ 112), (0, u "java/lang/constant/Constable"), (0, .class_ 114), (0, u "java/lang/Comparable"), (0, .class_ 116), (0, u "java/io/Serializable")] 87

/-- java/lang/Enum -/
def k11 : Class := { plain "java/lang/Enum" (some 0) with
  accessFlags := 1057
  interfaces := #[7, 5, 4]
  cf := some (fileOf pool11 2 #[.nestMembers #[106]] #[] 1057 12 #[111, 113, 115] #[{ accessFlags := 18, nameIndex := 5, descriptorIndex := 6, attributes := #[] }, { accessFlags := 18, nameIndex := 9, descriptorIndex := 10, attributes := #[] }, { accessFlags := 2, nameIndex := 19, descriptorIndex := 10, attributes := #[] }])
  fields := #[{ name := "name", type := (.object "java/lang/String"), accessFlags := 18, slot := 0, constantValue := 0 }, { name := "ordinal", type := .int, accessFlags := 18, slot := 1, constantValue := 0 }, { name := "hash", type := .int, accessFlags := 2, slot := 2, constantValue := 0 }]
  methods := #[]
  instanceTypes := #[(.object "java/lang/String"), .int, .int]
  staticTypes := #[]
  resolved := Array.replicate 204 none
  statics := none }

def pool12 : Array CpInfo := pool [(1, .class_ 2), (0, u "com/example/kenshinkit/kenshinkit/schema/ComplexType$Content"), (2, u "EMPTY"), (0, u "Lcom/example/kenshinkit/kenshinkit/schema/ComplexType$Content;"), (2, u "ELEMENT_ONLY"), (2, u "MIXED"), (2, u "$VALUES"), (0, u "[Lcom/example/kenshinkit/kenshinkit/schema/ComplexType$Content;"), (6, .class_ 25), (1, u "java/lang/Enum"), (26, .class_ 53), (0, u "com/example/kenshinkit/kenshinkit/schema/ComplexType")] 2

/-- com/example/kenshinkit/kenshinkit/schema/ComplexType$Content -/
def k12 : Class := { plain "com/example/kenshinkit/kenshinkit/schema/ComplexType$Content" (some 11) with
  accessFlags := 16432
  interfaces := #[]
  cf := some (fileOf pool12 1 #[.nestHost 52] #[] 16432 23 #[] #[{ accessFlags := 16409, nameIndex := 5, descriptorIndex := 6, attributes := #[] }, { accessFlags := 16409, nameIndex := 9, descriptorIndex := 6, attributes := #[] }, { accessFlags := 16409, nameIndex := 12, descriptorIndex := 6, attributes := #[] }, { accessFlags := 4122, nameIndex := 15, descriptorIndex := 16, attributes := #[] }])
  fields := #[{ name := "EMPTY", type := (.object "com/example/kenshinkit/kenshinkit/schema/ComplexType$Content"), accessFlags := 16409, slot := 0, constantValue := 0 }, { name := "ELEMENT_ONLY", type := (.object "com/example/kenshinkit/kenshinkit/schema/ComplexType$Content"), accessFlags := 16409, slot := 1, constantValue := 0 }, { name := "MIXED", type := (.object "com/example/kenshinkit/kenshinkit/schema/ComplexType$Content"), accessFlags := 16409, slot := 2, constantValue := 0 }, { name := "$VALUES", type := (.array (.object "com/example/kenshinkit/kenshinkit/schema/ComplexType$Content")), accessFlags := 4122, slot := 3, constantValue := 0 }]
  methods := #[]
  instanceTypes := #[(.object "java/lang/String"), .int, .int]
  staticTypes := #[(.object "com/example/kenshinkit/kenshinkit/schema/ComplexType$Content"), (.object "com/example/kenshinkit/kenshinkit/schema/ComplexType$Content"), (.object "com/example/kenshinkit/kenshinkit/schema/ComplexType$Content"), (.array (.object "com/example/kenshinkit/kenshinkit/schema/ComplexType$Content"))]
  resolved := Array.replicate 56 none
  statics := some 0 }

def pool13 : Array CpInfo := pool [(2, .class_ 4), (1, u "java/lang/Object"), (0, u "<init>"), (0, u "()V"), (0, .class_ 8), (0, u "java/lang/Record")] 13

def k13m0 : Method := { name := "<init>", desc := "()V", sig := { parameters := [], returnType := none }, accessFlags := 4, code := none }
/-- java/lang/Record -/
def k13 : Class := { plain "java/lang/Record" (some 0) with
  accessFlags := 1057
  interfaces := #[]
  cf := some (fileOf pool13 7 #[] #[{ accessFlags := 4, nameIndex := 5, descriptorIndex := 6, attributes := #[] }] 1057 2 #[] #[])
  fields := #[]
  methods := #[k13m0]
  instanceTypes := #[]
  staticTypes := #[]
  resolved := Array.replicate 22 none
  statics := none }

def pool14 : Array CpInfo := pool [(2, .class_ 4), (1, u "java/lang/Record"), (9, .class_ 16), (1, u "com/example/kenshinkit/kenshinkit/schema/AttributeUse"), (0, u "namespace"), (0, u "Ljava/lang/String;"), (2, u "name"), (2, u "type"), (0, u "Lcom/example/kenshinkit/kenshinkit/schema/SimpleType;"), (2, u "required"), (0, u "Z"), (2, u "constraint"), (2, u "fixed"), (2, u "addable")] 46

/-- com/example/kenshinkit/kenshinkit/schema/AttributeUse -/
def k14 : Class := { plain "com/example/kenshinkit/kenshinkit/schema/AttributeUse" (some 13) with
  accessFlags := 48
  interfaces := #[]
  cf := some (fileOf pool14 14 #[] #[] 48 2 #[] #[{ accessFlags := 18, nameIndex := 17, descriptorIndex := 18, attributes := #[] }, { accessFlags := 18, nameIndex := 21, descriptorIndex := 18, attributes := #[] }, { accessFlags := 18, nameIndex := 24, descriptorIndex := 25, attributes := #[] }, { accessFlags := 18, nameIndex := 28, descriptorIndex := 29, attributes := #[] }, { accessFlags := 18, nameIndex := 32, descriptorIndex := 18, attributes := #[] }, { accessFlags := 18, nameIndex := 35, descriptorIndex := 29, attributes := #[] }, { accessFlags := 18, nameIndex := 38, descriptorIndex := 29, attributes := #[] }])
  fields := #[{ name := "namespace", type := (.object "java/lang/String"), accessFlags := 18, slot := 0, constantValue := 0 }, { name := "name", type := (.object "java/lang/String"), accessFlags := 18, slot := 1, constantValue := 0 }, { name := "type", type := (.object "com/example/kenshinkit/kenshinkit/schema/SimpleType"), accessFlags := 18, slot := 2, constantValue := 0 }, { name := "required", type := .boolean, accessFlags := 18, slot := 3, constantValue := 0 }, { name := "constraint", type := (.object "java/lang/String"), accessFlags := 18, slot := 4, constantValue := 0 }, { name := "fixed", type := .boolean, accessFlags := 18, slot := 5, constantValue := 0 }, { name := "addable", type := .boolean, accessFlags := 18, slot := 6, constantValue := 0 }]
  methods := #[]
  instanceTypes := #[(.object "java/lang/String"), (.object "java/lang/String"), (.object "com/example/kenshinkit/kenshinkit/schema/SimpleType"), .boolean, (.object "java/lang/String"), .boolean, .boolean]
  staticTypes := #[]
  resolved := Array.replicate 85 none
  statics := none }

def pool15 : Array CpInfo := pool [(1, u "java/lang/Cloneable"), (0, .class_ 1), (0, u "java/lang/Object"), (0, .class_ 3)] 3

/-- java/lang/Cloneable -/
def k15 : Class := { plain "java/lang/Cloneable" (some 0) with
  accessFlags := 1537
  interfaces := #[]
  cf := some (fileOf pool15 2 #[] #[] 1537 4 #[] #[])
  fields := #[]
  methods := #[]
  instanceTypes := #[]
  staticTypes := #[]
  resolved := Array.replicate 8 none
  statics := none }

/-- the primitive byte -/
def k16 : Class := { plain "byte" none with kind := .primitive 'B', accessFlags := 0x411 }
/-- [B -/
def k17 : Class := { plain "[B" (some 0) with kind := .array 16 .byte, interfaces := #[15, 4], accessFlags := 1041 }

/-- the primitive int -/
def k18 : Class := { plain "int" none with kind := .primitive 'I', accessFlags := 0x411 }
/-- [I -/
def k19 : Class := { plain "[I" (some 0) with kind := .array 18 .int, interfaces := #[15, 4], accessFlags := 1041 }

/-- [Lcom/example/kenshinkit/kenshinkit/schema/AttributeUse; -/
def k20 : Class := { plain "[Lcom/example/kenshinkit/kenshinkit/schema/AttributeUse;" (some 0) with kind := .array 14 (.object "com/example/kenshinkit/kenshinkit/schema/AttributeUse"), interfaces := #[15, 4], accessFlags := 1041 }

/-- [Lcom/example/kenshinkit/kenshinkit/schema/SchemaType; -/
def k21 : Class := { plain "[Lcom/example/kenshinkit/kenshinkit/schema/SchemaType;" (some 0) with kind := .array 3 (.object "com/example/kenshinkit/kenshinkit/schema/SchemaType"), interfaces := #[15, 4], accessFlags := 1041 }

/-- [Ljava/lang/String; -/
def k22 : Class := { plain "[Ljava/lang/String;" (some 0) with kind := .array 9 (.object "java/lang/String"), interfaces := #[15, 4], accessFlags := 1041 }

def heap : Heap := #[{ cls := 12, slots := #[.ref 1, .null, .null, .null], vm := .statics 12 },
  { cls := 12, slots := #[.null, .int 0, .int 0], vm := .none }]
def classes : Array Class := #[k0, k1, k2, k3, k4, k5, k6, k7, k8, k9, k10, k11, k12, k13, k14, k15, k16, k17, k18, k19, k20, k21, k22]
def interned : List (Array UInt16 × Addr) := []
def slotsUsed : Nat := 7
def theMethod : MethodId := ⟨1, 1⟩
def args0 : Array Value := #[.int 5, .int 1, .int 1]
def aboutOver (below : List Frame) : State where
  vm := { classes := classes, interned := interned.toArray }
  heap := heap
  slotsUsed := slotsUsed
  threads := #[{ frames := .invoking theMethod args0 :: below }]
def below0 : List Frame := [.native { method := ⟨0, 0⟩, args := #[] }]
def about1 : State := aboutOver below0
def p0 : Program := .bare "" "" ""
def e0 : Env := launch0.env 0 0 0
theorem w_frames : about1.frames = Frame.invoking theMethod args0 :: below0 := rfl
set_option maxRecDepth 65536 in
theorem w_args : argsFit about1.vm theMethod args0 = true := by decide +kernel
set_option maxRecDepth 65536 in
theorem w_heap : heapFits about1 = true := by decide +kernel
set_option maxRecDepth 65536 in
theorem w_runnable : about1.curStatus? = some .runnable := by decide +kernel
set_option maxRecDepth 65536 in
theorem w_alone : about1.alone = true := by decide +kernel
set_option maxRecDepth 65536 in
theorem w_named : about1.methodNamed? x = some theMethod := by decide +kernel
set_option maxRecDepth 65536 in
theorem w_hears : about1.hears theMethod below0 = true := by decide +kernel
set_option maxRecDepth 65536 in
theorem w_ripe : about1.ripe theMethod args0 below0 = true := by decide +kernel
theorem w_running : about1.status = .running := rfl
set_option maxRecDepth 65536 in
theorem w_room : about1.hasRoom e0.platform room_1 = true :=
  launch0.hasRoom_least _ room_1 (by decide +kernel) (by decide +kernel) (by decide +kernel) (by decide +kernel) (by decide +kernel) (by decide +kernel)
theorem allAtoms_all (ts : List Jvm.Cond) (a : Array Jvm.Value) (st : Jvm.State) : (allAtoms ts).before a st = ts.all (fun c => c.before a st) := by
  induction ts with
  | nil => rfl
  | cons c t ih =>
    show (Jvm.Cond.and c (allAtoms t)).before a st = _
    rw [Jvm.Cond.before_and, ih, List.all_cons]
def words1 : List Jvm.Cond := Jvm.Cond.code x code maxLocals ret :: tables_1
/-- a 'code' word, met by the world's own term for the bytes: nothing is compared byte by byte -/
theorem code_word {y : MethodName} {bytes : ByteArray} {mx : Nat} {rt : Option FieldType} {a : Array Value} {s : State} {m : MethodId} {meth : Method} {c : Code} (h1 : s.methodNamed? y = some m) (h2 : s.vm.method? m = some meth) (h3 : meth.code = some c) (h4 : c.code = bytes)
    (h5 : (c.maxLocals == mx && c.exceptionTable.isEmpty && decide (c.maxStack ≤ mostOperands) && decide (meth.sig.returnType = rt) && !meth.locks && decide (parseMethodDescriptor y.desc = some meth.sig)) = true) : (Jvm.Cond.code y bytes mx rt).before a s = true := by
  simp only [Bool.and_eq_true, beq_iff_eq, Bool.not_eq_true', decide_eq_true_eq] at h5
  obtain ⟨⟨⟨⟨⟨g1, g2⟩, g3⟩, g4⟩, g5⟩, g6⟩ := h5
  simp [Cond.before, Cond.holds, Cond.value, h1, h2, h3, h4, g1, g2, g3, g4, g5, g6]
def isCode : Jvm.Cond → Bool
  | .code _ _ _ _ => true
  | _ => false
theorem all_split {L : List Jvm.Cond} {P : Jvm.Cond → Bool} (h1 : L.all (fun c => isCode c || P c) = true) (h2 : ∀ c ∈ L.filter isCode, P c = true) : L.all P = true := by
  refine List.all_eq_true.mpr fun c hc => ?_
  have h := List.all_eq_true.mp h1 c hc
  rcases Bool.eq_false_or_eq_true (isCode c) with hi | hi
  · exact h2 c (List.mem_filter.mpr ⟨hc, hi⟩)
  · simpa [hi] using h
set_option maxRecDepth 65536 in
theorem w_c0 : (Jvm.Cond.code x code maxLocals ret).before args0 about1 = true := code_word (m := ⟨1, 1⟩) (meth := k1m1) (c := k1c1) (by decide +kernel) rfl rfl rfl (by decide +kernel)
set_option maxRecDepth 65536 in
theorem w_c1 : (Jvm.Cond.code ({ cls := "com/example/kenshinkit/kenshinkit/schema/OpenElements", name := "<init>", desc := "()V" } : Jvm.MethodName) prog_133_method_1_code (1 : Nat) (Option.none : Option Jvm.ClassFile.FieldType)).before args0 about1 = true := code_word (m := ⟨2, 0⟩) (meth := k2m0) (c := k2c0) (by decide +kernel) rfl rfl rfl (by decide +kernel)
set_option maxRecDepth 65536 in
theorem w_c2 : (Jvm.Cond.code ({ cls := "java/lang/Object", name := "<init>", desc := "()V" } : Jvm.MethodName) object_method_1_code (1 : Nat) (Option.none : Option Jvm.ClassFile.FieldType)).before args0 about1 = true := code_word (m := ⟨0, 0⟩) (meth := k0m0) (c := k0c0) (by decide +kernel) rfl rfl rfl (by decide +kernel)
set_option maxRecDepth 65536 in
theorem w_c3 : (Jvm.Cond.code ({ cls := "com/example/kenshinkit/kenshinkit/schema/ComplexType", name := "<init>", desc := "()V" } : Jvm.MethodName) prog_112_method_1_code (1 : Nat) (Option.none : Option Jvm.ClassFile.FieldType)).before args0 about1 = true := code_word (m := ⟨10, 0⟩) (meth := k10m0) (c := k10c0) (by decide +kernel) rfl rfl rfl (by decide +kernel)
set_option maxRecDepth 65536 in
theorem w_c4 : (Jvm.Cond.code ({ cls := "com/example/kenshinkit/kenshinkit/schema/OpenElements", name := "push", desc := "(Lcom/example/kenshinkit/kenshinkit/schema/SchemaType;)V" } : Jvm.MethodName) prog_133_method_4_code (2 : Nat) (Option.none : Option Jvm.ClassFile.FieldType)).before args0 about1 = true := code_word (m := ⟨2, 1⟩) (meth := k2m1) (c := k2c1) (by decide +kernel) rfl rfl rfl (by decide +kernel)
set_option maxRecDepth 65536 in
theorem w_c5 : (Jvm.Cond.code ({ cls := "com/example/kenshinkit/kenshinkit/schema/OpenElements", name := "setState", desc := "(II)V" } : Jvm.MethodName) prog_133_method_9_code (3 : Nat) (Option.none : Option Jvm.ClassFile.FieldType)).before args0 about1 = true := code_word (m := ⟨2, 6⟩) (meth := k2m6) (c := k2c6) (by decide +kernel) rfl rfl rfl (by decide +kernel)
set_option maxRecDepth 65536 in
theorem w_c6 : (Jvm.Cond.code ({ cls := "com/example/kenshinkit/kenshinkit/schema/OpenElements", name := "pop", desc := "()V" } : Jvm.MethodName) prog_133_method_5_code (1 : Nat) (Option.none : Option Jvm.ClassFile.FieldType)).before args0 about1 = true := code_word (m := ⟨2, 2⟩) (meth := k2m2) (c := k2c2) (by decide +kernel) rfl rfl rfl (by decide +kernel)
set_option maxRecDepth 65536 in
theorem w_c7 : (Jvm.Cond.code ({ cls := "com/example/kenshinkit/kenshinkit/schema/OpenElements", name := "depth", desc := "()I" } : Jvm.MethodName) prog_133_method_6_code (1 : Nat) (Option.some Jvm.ClassFile.FieldType.int)).before args0 about1 = true := code_word (m := ⟨2, 3⟩) (meth := k2m3) (c := k2c3) (by decide +kernel) rfl rfl rfl (by decide +kernel)
set_option maxRecDepth 65536 in
theorem w_c8 : (Jvm.Cond.code ({ cls := "com/example/kenshinkit/kenshinkit/schema/OpenElements", name := "type", desc := "(I)Lcom/example/kenshinkit/kenshinkit/schema/SchemaType;" } : Jvm.MethodName) prog_133_method_7_code (2 : Nat) (Option.some (Jvm.ClassFile.FieldType.object "com/example/kenshinkit/kenshinkit/schema/SchemaType"))).before args0 about1 = true := code_word (m := ⟨2, 4⟩) (meth := k2m4) (c := k2c4) (by decide +kernel) rfl rfl rfl (by decide +kernel)
set_option maxRecDepth 65536 in
theorem w_c9 : (Jvm.Cond.code ({ cls := "com/example/kenshinkit/kenshinkit/schema/OpenElements", name := "state", desc := "(I)I" } : Jvm.MethodName) prog_133_method_8_code (2 : Nat) (Option.some Jvm.ClassFile.FieldType.int)).before args0 about1 = true := code_word (m := ⟨2, 5⟩) (meth := k2m5) (c := k2c5) (by decide +kernel) rfl rfl rfl (by decide +kernel)
def codes1 : List Jvm.Cond := [Jvm.Cond.code x code maxLocals ret, Jvm.Cond.code ({ cls := "com/example/kenshinkit/kenshinkit/schema/OpenElements", name := "<init>", desc := "()V" } : Jvm.MethodName) prog_133_method_1_code (1 : Nat) (Option.none : Option Jvm.ClassFile.FieldType), Jvm.Cond.code ({ cls := "java/lang/Object", name := "<init>", desc := "()V" } : Jvm.MethodName) object_method_1_code (1 : Nat) (Option.none : Option Jvm.ClassFile.FieldType), Jvm.Cond.code ({ cls := "com/example/kenshinkit/kenshinkit/schema/ComplexType", name := "<init>", desc := "()V" } : Jvm.MethodName) prog_112_method_1_code (1 : Nat) (Option.none : Option Jvm.ClassFile.FieldType), Jvm.Cond.code ({ cls := "com/example/kenshinkit/kenshinkit/schema/OpenElements", name := "push", desc := "(Lcom/example/kenshinkit/kenshinkit/schema/SchemaType;)V" } : Jvm.MethodName) prog_133_method_4_code (2 : Nat) (Option.none : Option Jvm.ClassFile.FieldType), Jvm.Cond.code ({ cls := "com/example/kenshinkit/kenshinkit/schema/OpenElements", name := "setState", desc := "(II)V" } : Jvm.MethodName) prog_133_method_9_code (3 : Nat) (Option.none : Option Jvm.ClassFile.FieldType), Jvm.Cond.code ({ cls := "com/example/kenshinkit/kenshinkit/schema/OpenElements", name := "pop", desc := "()V" } : Jvm.MethodName) prog_133_method_5_code (1 : Nat) (Option.none : Option Jvm.ClassFile.FieldType), Jvm.Cond.code ({ cls := "com/example/kenshinkit/kenshinkit/schema/OpenElements", name := "depth", desc := "()I" } : Jvm.MethodName) prog_133_method_6_code (1 : Nat) (Option.some Jvm.ClassFile.FieldType.int), Jvm.Cond.code ({ cls := "com/example/kenshinkit/kenshinkit/schema/OpenElements", name := "type", desc := "(I)Lcom/example/kenshinkit/kenshinkit/schema/SchemaType;" } : Jvm.MethodName) prog_133_method_7_code (2 : Nat) (Option.some (Jvm.ClassFile.FieldType.object "com/example/kenshinkit/kenshinkit/schema/SchemaType")), Jvm.Cond.code ({ cls := "com/example/kenshinkit/kenshinkit/schema/OpenElements", name := "state", desc := "(I)I" } : Jvm.MethodName) prog_133_method_8_code (2 : Nat) (Option.some Jvm.ClassFile.FieldType.int)]
set_option maxRecDepth 65536 in
theorem codes_eq : words1.filter isCode = codes1 := rfl
theorem w_codes : ∀ c ∈ words1.filter isCode, c.before args0 about1 = true := by
  rw [codes_eq]
  intro c hc
  simp only [codes1, List.mem_cons, List.not_mem_nil, or_false] at hc
  rcases hc with rfl | rfl | rfl | rfl | rfl | rfl | rfl | rfl | rfl | rfl
  · exact w_c0
  · exact w_c1
  · exact w_c2
  · exact w_c3
  · exact w_c4
  · exact w_c5
  · exact w_c6
  · exact w_c7
  · exact w_c8
  · exact w_c9
set_option maxRecDepth 65536 in
theorem w_t1 : (words1.take 24).all (fun c => isCode c || c.before args0 about1) = true := by decide +kernel
set_option maxRecDepth 65536 in
theorem w_t2 : ((words1.drop 24).take 24).all (fun c => isCode c || c.before args0 about1) = true := by decide +kernel
set_option maxRecDepth 65536 in
theorem w_t3 : (((words1.drop 24).drop 24).take 24).all (fun c => isCode c || c.before args0 about1) = true := by decide +kernel
set_option maxRecDepth 65536 in
theorem w_t4 : (((words1.drop 24).drop 24).drop 24).all (fun c => isCode c || c.before args0 about1) = true := by decide +kernel
theorem w_tables : (allAtoms (Jvm.Cond.code x code maxLocals ret :: tables_1)).before args0 about1 = true := by
  rw [allAtoms_all]
  show words1.all (fun c => c.before args0 about1) = true
  refine all_split ?_ w_codes
  rw [← List.take_append_drop 24 words1, List.all_append, w_t1, ← List.take_append_drop 24 (words1.drop 24), List.all_append, w_t2, ← List.take_append_drop 24 ((words1.drop 24).drop 24), List.all_append, w_t3, w_t4]
  rfl
set_option maxRecDepth 65536 in
theorem w_case : (Jvm.Cond.and given_1 narrow_1).before args0 about1 = true := by decide +kernel
theorem w_applies : (headSpec (Jvm.Cond.code x code maxLocals ret :: tables_1) room_1).applies x e0.platform about1 = true :=
  (Spec.applies_iff w_frames).mpr ⟨w_running, w_runnable, w_alone, w_named, w_hears, w_ripe, w_room, w_tables⟩
theorem atStart : AtStart classFile x code maxLocals ret World_1 tables_1 room_1 Calls_1 rest_1 Pre_1 launch0 p0 e0 about1 theMethod args0 below0 :=
  ⟨lists_1, trivial, launch0.admits_env _ _ _, launch0.least_env, fairChoices_fair.cas, fairChoices_fair.clock, w_frames, w_args, w_heap, w_applies, trivial, trivial, w_case⟩
end start1
theorem witness_1 : WitnessClaimed_1 := ⟨start1.p0, start1.e0, start1.about1, start1.theMethod, start1.args0, start1.below0, start1.atStart⟩
end Jvm.Pilot.@@N@@
