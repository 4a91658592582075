import JvmDerived
import JvmDerived.Pilot.@@N@@Statement
import JvmDerived.Pilot.@@N@@Code
set_option linter.unusedVariables false
set_option linter.unusedSimpArgs false
@@BLOCK:NumsL.lean.txt@@
namespace Jvm.RoadKit
open Sem ClassFile Op Lib Jvm.Stand Jvm.Free Jvm.LawKit
section New
variable {p : Program} {l : Launch} {e : Env} {R : Room} {s : State} {m : MethodId} {args : Array Value} {below : List Frame} {meth : Method} {c : Code} {T : State} {locs : List Loc} {cells slots : Nat}
theorem retI (X : Stand p l e R s m args below meth c T locs cells slots) (hx : p.tables.exec = Jvm.exec) {pc : Nat} {Ls : Array Slot} {z : Int32} {rest : List Value} (hret : meth.sig.returnType = some .int) (hd : decode c.code pc = .ok (.ireturn, 1)) {fs : List Frame}
    (hl : ∀ (f : JFrame) (acts : List Action), f.method = m → f.locked = none → f.entered = [] → (doReturn e (T.setTop f) acts (some (.int z))).1 = T.setFrames fs) : Steps p.tables e below (T.setTop (mkF m pc Ls (.int z :: rest))) (T.setFrames fs) := by
  have hm' : T.vm.method? m = some meth := X.method'
  have hn : narrow .int (.int z) = .int z := rfl
  show Steps p.tables e below (T.setTop { method := m, pc := pc, locals := Ls, stack := _ :: rest, locked := none }) _
  jvm_step X.here [X.here.top, hx, hd, hm', hret, hn]
  first | (intro acts; rw [hl _ acts rfl rfl rfl]) | rw [hl _ _ rfl rfl rfl]
  exact Steps.refl _
end New
end Jvm.RoadKit
namespace Jvm.Pilot.@@N@@
open Jvm Jvm.ClassFile Sem Op Lib Jvm.Free Jvm.Stand Jvm.LawKit Jvm.RoadKit Bundle Jvm.Pilot.@@N@@.Jvm.D
section OwnLayer
variable {p : Program} {l : Launch} {e : Env} {R : Room} {s : State} {m : MethodId} {args : Array Value} {below : List Frame} {meth : Method} {c : Code} {T T' : State} {h h' : Heap} {n0 ck sk ck' sk' : Nat} {Z : State} {a0 : Array Value} {Post : Outcome → State → Prop} {g g' : JFrame}
/-- from this state and frame the run comes to an end of the invocation of which Post holds -/
def Go (p : Program) (e : Env) (below : List Frame) (Post : Outcome → State → Prop) (T : State) (g : JFrame) : Prop :=
  ∃ s₂ o, Steps p.tables e below (T.setTop g) s₂ ∧ s₂.status = .running ∧ Ended s₂ below o ∧ Post o s₂
theorem Go.st (hs : ∀ t, Steps p.tables e below (T'.setTop g') t → Steps p.tables e below (T.setTop g) t) (k : Go p e below Post T' g') : Go p e below Post T g := by
  obtain ⟨s2, o, h1, h2⟩ := k
  exact ⟨s2, o, hs _ h1, h2⟩
/-- where the walk stands: the heap is h; what was written lies at or above n0; at most ck cells and sk slots were made -/
def Stn (p : Program) (l : Launch) (e : Env) (R : Room) (s : State) (m : MethodId) (args : Array Value) (below : List Frame) (meth : Method) (c : Code) (n0 : Nat) (T : State) (h : Heap) (ck sk : Nat) : Prop :=
  T.heap = h ∧ ∃ locs, Fr n0 locs ∧ Stand p l e R s m args below meth c T locs ck sk
theorem Stn.here (X : Stn p l e R s m args below meth c n0 T h ck sk) : At T m c below := by
  obtain ⟨_, _, _, Y⟩ := X
  exact Y.here
theorem Stn.mono (X : Stn p l e R s m args below meth c n0 T h ck sk) (h1 : ck ≤ ck') (h2 : sk ≤ sk') : Stn p l e R s m args below meth c n0 T h ck' sk' := by
  obtain ⟨e1, L, N, Y⟩ := X
  exact ⟨e1, L, N, Y.more h1 h2⟩
/-- what a body's end says -/
def PostW (s : State) (n0 C S : Nat) (Q : Option Value → Heap → Prop) (o : Outcome) (U : State) : Prop :=
  ∃ v L, o = .returned v ∧ (Fr n0 L ∧ Q v U.heap) ∧ FrameEnd s o U L C S
/-- a body's contract -/
def Con (l : Launch) (y : MethodName) (bytes : ByteArray) (maxL : Nat) (ret : Option FieldType) (rm : Room) (ws : List Jvm.Cond) (Z : State) (n0 : Nat) (as' : Array Value) (h : Heap) (Q : Option Value → Heap → Prop) : Prop :=
  MetFree l y (head1 (Jvm.Cond.code y bytes maxL ret :: ws) rm) (fun a U => a = as' ∧ Z.Warmed39 U.vm ∧ U.heap = h) (fun _ _ _ _ _ => True) (fun _ U o U' => ∃ v L, o = .returned v ∧ (Fr n0 L ∧ Q v U'.heap) ∧ FrameEnd U o U' L rm.cells rm.slots)
theorem Con.body {y : MethodName} {bytes : ByteArray} {maxL : Nat} {ret : Option FieldType} {rm : Room} {ws : List Jvm.Cond} {as' : Array Value} {Q : Option Value → Heap → Prop} (hp : plainFor y = true)
    (k : ∀ (p : Program) (e : Env) (s : State) (m : MethodId) (below : List Frame) (meth : Method) (c : Code) (s₁ : State), p.tables.exec = Jvm.exec → c.code = bytes → c.maxLocals = maxL → s.vm.findClass y.cls = some m.cls → meth.name = y.name → meth.sig.returnType = ret → meth.locks = false → Z.Warmed39 s.vm →
      Stn p l e rm s m as' below meth c n0 s₁ h 0 0 → Go p e below (PostW s n0 rm.cells rm.slots Q) s₁ (entryFrame m as' maxL)) : Con l y bytes maxL ret rm ws Z n0 as' h Q := by
  refine MetFree.of_bodySF hp hisR ?_
  intro p e s m args below meth c s₁ Bd hml0 hP hK
  obtain ⟨rfl, hZ, hh⟩ := hP
  have e0 : s₁.heap = h := by rw [← hh, Bd.state]; rfl
  exact k p e s m below meth c s₁ Bd.exec Bd.bytes hml0 (findClass_of_methodNamed Bd.named) (name_of_methodNamed Bd.named Bd.method).1 Bd.returns Bd.notSynchronized hZ ⟨e0, [], Fr.nil n0, Stand.of_body Bd⟩
theorem Con.mono {y : MethodName} {bytes : ByteArray} {maxL : Nat} {ret : Option FieldType} {rm : Room} {ws : List Jvm.Cond} {as' : Array Value} {Q Q' : Option Value → Heap → Prop} (hM : Con l y bytes maxL ret rm ws Z n0 as' h Q) (hq : ∀ v h', Q v h' → Q' v h') : Con l y bytes maxL ret rm ws Z n0 as' h Q' := by
  intro p e ha hc hk s m args below hf happ hP hK
  obtain ⟨n, o, h1, h2, h3, v, L, h4, ⟨h5, h6⟩, h7⟩ := hM p e ha hc hk s m args below hf happ hP hK
  exact ⟨n, o, h1, h2, h3, v, L, h4, ⟨h5, hq _ _ h6⟩, h7⟩
/-! a long's comparison -/
theorem lcTlt {a b : Int64} (h : a < b) : ifCond.holds .lt (lcmpW a b) = true ∧ ifCond.holds .ge (lcmpW a b) = false := by
  have q : lcmpW a b < 0 := by rw [lcW]; exact (lc_lt a b).mpr h
  exact ⟨(if0 _ _).trans (tlt q).1, (if0 _ _).trans (tlt q).2.1⟩
theorem lcFlt {a b : Int64} (h : ¬ a < b) : ifCond.holds .lt (lcmpW a b) = false ∧ ifCond.holds .ge (lcmpW a b) = true := by
  have q : ¬ lcmpW a b < 0 := fun z => h ((lc_lt a b).mp (by rw [← lcW]; exact z))
  exact ⟨(if0 _ _).trans (flt q).1, (if0 _ _).trans (flt q).2.1⟩
theorem lcTgt {a b : Int64} (h : b < a) : ifCond.holds .gt (lcmpW a b) = true ∧ ifCond.holds .le (lcmpW a b) = false := by
  have q : 0 < lcmpW a b := by rw [lcW]; exact (lc_gt a b).mpr h
  exact ⟨(if0 _ _).trans (tlt q).2.2.1, (if0 _ _).trans (tlt q).2.2.2⟩
theorem lcFgt {a b : Int64} (h : ¬ b < a) : ifCond.holds .gt (lcmpW a b) = false ∧ ifCond.holds .le (lcmpW a b) = true := by
  have q : ¬ 0 < lcmpW a b := fun z => h ((lc_gt a b).mp (by rw [← lcW]; exact z))
  exact ⟨(if0 _ _).trans (flt q).2.2.1, (if0 _ _).trans (flt q).2.2.2⟩
theorem lcTeq {a b : Int64} (h : a = b) : ifCond.holds .eq (lcmpW a b) = true ∧ ifCond.holds .ne (lcmpW a b) = false := by
  have q : lcmpW a b = 0 := by rw [lcW]; exact (lc_eq a b).mpr h
  exact ⟨(if0 _ _).trans (teq q).1, (if0 _ _).trans (teq q).2⟩
theorem lcFeq {a b : Int64} (h : ¬ a = b) : ifCond.holds .eq (lcmpW a b) = false ∧ ifCond.holds .ne (lcmpW a b) = true := by
  have q : ¬ lcmpW a b = 0 := fun z => h ((lc_eq a b).mp (by rw [← lcW]; exact z))
  exact ⟨(if0 _ _).trans (feq q).1, (if0 _ _).trans (feq q).2⟩
theorem acT {a b : Addr} (h : a = b) : if_acmp.holds .eq (some a) (some b) = true ∧ if_acmp.holds .ne (some a) (some b) = false := by subst h; simp [if_acmp.holds]
theorem acF {a b : Addr} (h : ¬ a = b) : if_acmp.holds .eq (some a) (some b) = false ∧ if_acmp.holds .ne (some a) (some b) = true := by simp [if_acmp.holds, h]
/-! returns -/
theorem goRet {v : Option Value} {Q : Option Value → Heap → Prop} {C S : Nat} (X : Stn p l e R s m args below meth c n0 T h ck sk) (hlk : meth.locks = false) (hv : meth.sig.returnType = none → v = none)
    (hst : ∀ locs fs, Stand p l e R s m args below meth c T locs ck sk → (∀ (f : JFrame) (acts : List Action), f.method = m → f.locked = none → f.entered = [] → (doReturn e (T.setTop f) acts v).1 = T.setFrames fs) → Steps p.tables e below (T.setTop g) (T.setFrames fs))
    (hq : Q v h) (h1 : ck ≤ C) (h2 : sk ≤ S) : Go p e below (PostW s n0 C S Q) T g := by
  obtain ⟨eT, locs, N, Y⟩ := X
  obtain ⟨fs, hr, hrun, hended, hW, hsame⟩ := Y.leave hv hlk
  exact ⟨_, _, hst locs fs Y hr, hrun, hended, _, _, rfl, ⟨N, (by show Q v T.heap; rw [eT]; exact hq)⟩, ⟨_, rfl⟩, hW, hsame.mono h1 h2⟩
theorem goRetI {pc : Nat} {Ls : Array Slot} {z : Int32} {rest : List Value} {Q : Option Value → Heap → Prop} {C S : Nat} (X : Stn p l e R s m args below meth c n0 T h ck sk) (hx : p.tables.exec = Jvm.exec) (hlk : meth.locks = false) (hret : meth.sig.returnType = some .int)
    (hd : decode c.code pc = .ok (.ireturn, 1)) (h1 : ck ≤ C) (h2 : sk ≤ S) (hq : Q (some (.int z)) h) : Go p e below (PostW s n0 C S Q) T (mkF m pc Ls (.int z :: rest)) :=
  goRet X hlk (fun h => by rw [hret] at h; cases h) (fun _ _ Y hr => retI Y hx hret hd hr) hq h1 h2
theorem goRetZ {pc : Nat} {Ls : Array Slot} {z : Int32} {rest : List Value} {Q : Option Value → Heap → Prop} {C S : Nat} (X : Stn p l e R s m args below meth c n0 T h ck sk) (hx : p.tables.exec = Jvm.exec) (hlk : meth.locks = false) (hret : meth.sig.returnType = some .boolean)
    (hd : decode c.code pc = .ok (.ireturn, 1)) (h1 : ck ≤ C) (h2 : sk ≤ S) (hz : z = 0 ∨ z = 1) (hq : Q (some (.int z)) h) : Go p e below (PostW s n0 C S Q) T (mkF m pc Ls (.int z :: rest)) := by
  rcases hz with rfl | rfl
  · exact goRet X hlk (fun h => by rw [hret] at h; cases h) (fun _ _ Y hr => retN Y hx (t := .boolean) hret (by simp) hd hr) hq h1 h2
  · exact goRet X hlk (fun h => by rw [hret] at h; cases h) (fun _ _ Y hr => retN Y hx (t := .boolean) hret (by simp) hd hr) hq h1 h2
theorem goRetV {pc : Nat} {Ls : Array Slot} {Q : Option Value → Heap → Prop} {C S : Nat} (X : Stn p l e R s m args below meth c n0 T h ck sk) (hx : p.tables.exec = Jvm.exec) (hlk : meth.locks = false) (hret : meth.sig.returnType = none)
    (hd : decode c.code pc = .ok (.return_, 1)) (h1 : ck ≤ C) (h2 : sk ≤ S) (hq : Q none h) : Go p e below (PostW s n0 C S Q) T (mkF m pc Ls []) :=
  goRet X hlk (fun _ => rfl) (fun _ _ Y hr => Y.returnOut hx hret hd hr) hq h1 h2
theorem goRetL {pc : Nat} {Ls : Array Slot} {z : Int64} {rest : List Value} {Q : Option Value → Heap → Prop} {C S : Nat} (X : Stn p l e R s m args below meth c n0 T h ck sk) (hx : p.tables.exec = Jvm.exec) (hlk : meth.locks = false) (hret : meth.sig.returnType = some .long)
    (hd : decode c.code pc = .ok (.lreturn, 1)) (h1 : ck ≤ C) (h2 : sk ≤ S) (hq : Q (some (.long z)) h) : Go p e below (PostW s n0 C S Q) T (mkF m pc Ls (.long z :: rest)) :=
  goRet X hlk (fun h => by rw [hret] at h; cases h) (fun _ _ Y hr => by
    jvm_step Y.here [Y.here.top, hx, hd, Y.method', hret, narrow]
    first | (intro acts; rw [hr _ acts rfl rfl rfl]) | rw [hr _ _ rfl rfl rfl]
    exact Steps.refl _) hq h1 h2
theorem goRetA {pc : Nat} {Ls : Array Slot} {z : Addr} {rest : List Value} {t : FieldType} {Q : Option Value → Heap → Prop} {C S : Nat} (X : Stn p l e R s m args below meth c n0 T h ck sk) (hx : p.tables.exec = Jvm.exec) (hlk : meth.locks = false) (hret : meth.sig.returnType = some t) (ht : t.isReference = true)
    (hd : decode c.code pc = .ok (.areturn, 1)) (h1 : ck ≤ C) (h2 : sk ≤ S) (hq : Q (some (.ref z)) h) : Go p e below (PostW s n0 C S Q) T (mkF m pc Ls (.ref z :: rest)) :=
  goRet X hlk (fun h => by rw [hret] at h; cases h) (fun _ _ Y hr => by
    jvm_step Y.here [Y.here.top, hx, hd, Y.method', hret, Value.isRef, ht]
    first | (intro acts; rw [hr _ acts rfl rfl rfl]) | rw [hr _ _ rfl rfl rfl]
    exact Steps.refl _) hq h1 h2
/-! fields, objects -/
theorem goGet (X : Stn p l e R s m args below meth c n0 T h ck sk) (hx : p.tables.exec = Jvm.exec) (hZ : Z.Warmed39 s.vm) {own R0 O n d host : String} {index : Nat} (hown : s.vm.findClass own = some m.cls) (w : (Cond.fieldLink own index R0 n d).before a0 Z = true ∨ (Cond.fieldLinkNest own index R0 n d host).before a0 Z = true) (via : Via Z R0 O n d)
    {a : Addr} {v : Value} (F : Fld Z h a O n d v) {pc : Nat} {ls : Array Slot} {rest : List Value} (hd : decode c.code pc = .ok (.getfield index, 3))
    (k : ∀ T', Stn p l e R s m args below meth c n0 T' h ck sk → Go p e below Post T' (mkF m (pc + 3) ls (v :: rest))) : Go p e below Post T (mkF m pc ls (.ref a :: rest)) := by
  obtain ⟨eT, locs, N, Y⟩ := X
  obtain ⟨T', X', e', st⟩ := getF Y hx hZ hown w via eT F (g := mkF m pc ls (.ref a :: rest)) rfl rfl hd
  exact Go.st st (k T' ⟨e', locs, N, X'⟩)
theorem goPut (X : Stn p l e R s m args below meth c n0 T h ck sk) (hx : p.tables.exec = Jvm.exec) (hZ : Z.Warmed39 s.vm) {own R0 O n d host C : String} {index kk : Nat} {ty : FieldType} (hown : s.vm.findClass own = some m.cls) (w : (Cond.fieldLink own index R0 n d).before a0 Z = true ∨ (Cond.fieldLinkNest own index R0 n d host).before a0 Z = true) (via : Via Z R0 O n d)
    {a : Addr} {v old : Value} (F : Fld Z h a O n d old) (E : Exa Z h a C) (L : (Cond.lays C O n d).before a0 Z = true ∨ ((Cond.laysFinal C O n d).before a0 Z = true ∧ own = O ∧ meth.name = "<init>")) (wi : (Cond.instantiable C kk).before a0 Z = true)
    (hty : parseFieldDescriptor d = some ty) (hn : narrow ty v = v) (hf : fits ty v = true) (ha : n0 ≤ a) {pc : Nat} {ls : Array Slot} {rest : List Value} (hd : decode c.code pc = .ok (.putfield index, 3))
    (k : ∀ T' h', Stn p l e R s m args below meth c n0 T' h' ck sk → Wr h h' a (Jvm.RoadKit.slotOf Z O n d) v → Go p e below Post T' (mkF m (pc + 3) ls rest)) : Go p e below Post T (mkF m pc ls (v :: .ref a :: rest)) := by
  obtain ⟨eT, locs, N, Y⟩ := X
  obtain ⟨T', h', X', e', W, st⟩ := putF Y hx hZ hown w via eT F E L wi hty hn hf (g := mkF m pc ls (v :: .ref a :: rest)) rfl rfl hd
  exact Go.st st (k T' h' ⟨e', _, Fr.snoc X' N ha, X'⟩ W)
theorem goPutN (X : Stn p l e R s m args below meth c n0 T h ck sk) (hx : p.tables.exec = Jvm.exec) (hZ : Z.Warmed39 s.vm) {own R0 O n d C : String} {index kk : Nat} {ty : FieldType} (hown : s.vm.findClass own = some m.cls) (w : (Cond.fieldLink own index R0 n d).before a0 Z = true) (via : Via Z R0 O n d)
    {a : Addr} {v v' old : Value} (F : Fld Z h a O n d old) (E : Exa Z h a C) (L : (Cond.lays C O n d).before a0 Z = true ∨ ((Cond.laysFinal C O n d).before a0 Z = true ∧ own = O ∧ meth.name = "<init>")) (wi : (Cond.instantiable C kk).before a0 Z = true)
    (hty : parseFieldDescriptor d = some ty) (hn : narrow ty v = v') (hf : fits ty v' = true) (ha : n0 ≤ a) {pc : Nat} {ls : Array Slot} {rest : List Value} (hd : decode c.code pc = .ok (.putfield index, 3))
    (k : ∀ T' h', Stn p l e R s m args below meth c n0 T' h' ck sk → Wr h h' a (Jvm.RoadKit.slotOf Z O n d) v' → Go p e below Post T' (mkF m (pc + 3) ls rest)) : Go p e below Post T (mkF m pc ls (v :: .ref a :: rest)) := by
  obtain ⟨eT, locs, N, Y⟩ := X
  obtain ⟨T', h', X', e', W, st⟩ := putFN Y hx hZ hown w via eT F E L wi hty hn hf (g := mkF m pc ls (v :: .ref a :: rest)) rfl rfl hd
  exact Go.st st (k T' h' ⟨e', _, Fr.snoc X' N ha, X'⟩ W)
theorem goNew (X : Stn p l e R s m args below meth c n0 T h ck sk) (hx : p.tables.exec = Jvm.exec) (hZ : Z.Warmed39 s.vm) {own C : String} {index n : Nat} (hown : s.vm.findClass own = some m.cls) (w : (Cond.classLink own index C).before a0 Z = true) (wi : (Cond.instantiable C n).before a0 Z = true) (wz : (Cond.initialized C).before a0 Z = true)
    {pc : Nat} {ls : Array Slot} {st : List Value} (hd : decode c.code pc = .ok (.new index, 3)) (hc : ck + 1 ≤ R.cells) (hl : sk + n ≤ R.slots)
    (k : ∀ T' h' a, a = h.size → Stn p l e R s m args below meth c n0 T' h' (ck + 1) (sk + n) → Ext h h' → Exa Z h' a C → (∀ {O nm d : String} {ty : FieldType}, Laid Z a0 C O nm d → parseFieldDescriptor d = some ty → Fld Z h' a O nm d (defaultValue ty)) → Go p e below Post T' (mkF m (pc + 3) ls (.ref a :: st))) : Go p e below Post T (mkF m pc ls st) := by
  obtain ⟨eT, locs, N, Y⟩ := X
  obtain ⟨T', h', X', e', E, A, D, -, stp⟩ := newO Y hx hZ hown w wi wz eT (g := mkF m pc ls st) rfl hd hc hl
  exact Go.st stp (k T' h' _ rfl ⟨e', locs, N, X'⟩ E A D)
theorem goInit (X : Stn p l e R s m args below meth c n0 T h ck sk) (hx : p.tables.exec = Jvm.exec) (hZ : Z.Warmed39 s.vm) {own : String} {idx : Nat} (hown : s.vm.findClass own = some m.cls) (w1 : (Cond.methodLink own idx Lib.objectInit).before a0 Z = true) (w2 : (Cond.instanceMethod Lib.objectInit).before a0 Z = true)
    (w3 : (Cond.code Lib.objectInit object_method_1_code 1 none).before a0 Z = true) {pc : Nat} {ls : Array Slot} {a : Addr} {rest : List Value} (hsize : ls.size = c.maxLocals) (hd : decode c.code pc = .ok (.invokespecial idx, 3))
    (hf : 1 ≤ R.frames) {W : Nat} (hW : (rest.map fun v => v.category).sum ≤ W) (hl : W + 12 ≤ R.locals)
    (k : ∀ T', Stn p l e R s m args below meth c n0 T' h ck sk → Go p e below Post T' (mkF m (pc + 3) ls rest)) : Go p e below Post T (mkF m pc ls (.ref a :: rest)) := by
  obtain ⟨eT, locs, N, Y⟩ := X
  obtain ⟨T', X', e', st⟩ := initO Y hx hZ hown w1 w2 w3 eT (g := mkF m pc ls (.ref a :: rest)) rfl hsize rfl hd hf (W := W) (by show 2 * 0 + _ ≤ _; omega) hl
  exact Go.st st (k T' ⟨e', locs, N, X'⟩)
theorem Stn.ldcI (X : Stn p l e R s m args below meth c n0 T h ck sk) (hx : p.tables.exec = Jvm.exec) (hZ : Z.Warmed39 s.vm) {own : String} {index : Nat} {v : Int32} (hown : s.vm.findClass own = some m.cls) (w : (Cond.constant own index v).before a0 Z = true)
    {pc : Nat} {ls : Array Slot} {st : List Value} (hd : decode c.code pc = .ok (.ldc index, 2)) {t : State} (k : Steps p.tables e below (T.setTop (mkF m (pc + 2) ls (.int v :: st))) t) : Steps p.tables e below (T.setTop (mkF m pc ls st)) t := by
  obtain ⟨eT, locs, N, Y⟩ := X
  exact Y.ldcInt hx hown (mvT hZ w) (g := mkF m pc ls st) rfl hd t k
theorem Stn.ldcJ (X : Stn p l e R s m args below meth c n0 T h ck sk) (hx : p.tables.exec = Jvm.exec) (hZ : Z.Warmed39 s.vm) {own : String} {index : Nat} {v : Int64} (hown : s.vm.findClass own = some m.cls) (w : (Cond.constantLong own index v).before a0 Z = true)
    {pc : Nat} {ls : Array Slot} {st : List Value} (hd : decode c.code pc = .ok (.ldc2_w index, 3)) {t : State} (k : Steps p.tables e below (T.setTop (mkF m (pc + 3) ls (.long v :: st))) t) : Steps p.tables e below (T.setTop (mkF m pc ls st)) t := by
  obtain ⟨eT, locs, N, Y⟩ := X
  exact Y.ldc2Long hx hown (mvT hZ w) (g := mkF m pc ls st) rfl hd t k
/-! arrays: of kind ty, length n, whose places hold f -/
def Ary (Z : State) (h : Heap) (a : Addr) (ty : FieldType) (n : Nat) (f : Nat → Value) : Prop := ∃ cl : Cell, Arr Z h a cl ty ∧ cl.slots.size = n ∧ ∀ i, i < n → cl.slots[i]? = some (f i)
theorem Ary.lt {a : Addr} {ty : FieldType} {n : Nat} {f : Nat → Value} (A : Ary Z h a ty n f) : a < h.size := by obtain ⟨cl, A, -⟩ := A; exact A.lt
theorem Ary.ext {a : Addr} {ty : FieldType} {n : Nat} {f : Nat → Value} (E : Ext h h') (A : Ary Z h a ty n f) : Ary Z h' a ty n f := by obtain ⟨cl, A, r⟩ := A; exact ⟨cl, A.ext E, r⟩
theorem Ary.other {a b : Addr} {ty : FieldType} {n sl : Nat} {f : Nat → Value} {v : Value} (W : Wr h h' b sl v) (A : Ary Z h a ty n f) (q : a ≠ b) : Ary Z h' a ty n f := by obtain ⟨cl, A, r⟩ := A; exact ⟨cl, A.other W q, r⟩
theorem Ary.keep {a : Addr} {ty : FieldType} {n : Nat} {f : Nat → Value} {ws : List Addr} (A : Ary Z h a ty n f) (K : Keep h h' ws) (q : a ∉ ws) : Ary Z h' a ty n f := by obtain ⟨cl, A, r⟩ := A; exact ⟨cl, ⟨K.2.1 a cl A.1 q, A.2⟩, r⟩
theorem Ary.congr {a : Addr} {ty : FieldType} {n : Nat} {f f' : Nat → Value} (A : Ary Z h a ty n f) (q : ∀ i, i < n → f i = f' i) : Ary Z h a ty n f' := by obtain ⟨cl, A, r1, r2⟩ := A; exact ⟨cl, A, r1, fun i hi => by rw [← q i hi]; exact r2 i hi⟩
theorem Ary.set {a : Addr} {ty : FieldType} {n j : Nat} {f : Nat → Value} {v : Value} (A : Ary Z h a ty n f) (W : Wr h h' a j v) : Ary Z h' a ty n (fun i => if i = j then v else f i) := by
  obtain ⟨cl, A, r1, r2⟩ := A
  have A' := A.same W
  obtain ⟨c1, q1, -, q2, -⟩ := W
  cases q1.symm.trans A.1
  refine ⟨_, A', by rw [sz_set]; exact r1, fun i hi => ?_⟩
  by_cases hij : i = j
  · subst hij
    simp [Cell.setSlot, q2]
  · have : j ≠ i := fun z => hij z.symm
    simp [Cell.setSlot, hij, Array.getElem?_setIfInBounds_ne this, r2 i hi]
theorem Ary.new {k : ClassId} {a : Addr} {ty : FieldType} {z : Int32} (A : Arr Z h a (newA k ty z) ty) : Ary Z h a ty z.toNatClampNeg (fun _ => defaultValue ty) :=
  ⟨_, A, sz_new _ _ _, fun i hi => by simp [newA, hi]⟩
theorem ne_ary {a b : Addr} {C : String} {kk n : Nat} {ty : FieldType} {f : Nat → Value} (F : Exa Z h a C) (wi : (Cond.instantiable C kk).before a0 Z = true) (G : Ary Z h b ty n f) : a ≠ b := by
  obtain ⟨cl, A, -⟩ := G
  exact ne_arr F wi A
theorem goNewA (X : Stn p l e R s m args below meth c n0 T h ck sk) (hx : p.tables.exec = Jvm.exec) (hZ : Z.Warmed39 s.vm) {aty : ArrayType} (w : (Cond.arrayClass (newarray.typeOf aty)).before a0 Z = true)
    {pc : Nat} {ls : Array Slot} {n : Int32} {rest : List Value} (hd : decode c.code pc = .ok (.newarray aty, 2)) (hn : ¬ n < 0) {cap : Nat} (hcap : n.toNatClampNeg ≤ cap) (hb : cap * 8 ≤ 536870912) (hc : ck + 1 ≤ R.cells) (hl : sk + cap ≤ R.slots) {ad : String} (had : "[" ++ (newarray.typeOf aty).toString = ad)
    (k : ∀ T' h' a, a = h.size → Stn p l e R s m args below meth c n0 T' h' (ck + 1) (sk + cap) → Ext h h' → Exa Z h' a ad → Ary Z h' a (newarray.typeOf aty) n.toNatClampNeg (fun _ => defaultValue (newarray.typeOf aty)) → Go p e below Post T' (mkF m (pc + 2) ls (.ref a :: rest))) : Go p e below Post T (mkF m pc ls (.int n :: rest)) := by
  obtain ⟨eT, locs, N, Y⟩ := X
  obtain ⟨T', h', cA, X', e', E, A, Ex, st⟩ := newPE Y hx hZ w eT (g := mkF m pc ls (.int n :: rest)) rfl hd rfl hn hcap hb hc hl had
  exact Go.st st (k T' h' _ rfl ⟨e', locs, N, X'⟩ E Ex (Ary.new A))
theorem goClone (X : Stn p l e R s m args below meth c n0 T h ck sk) (hx : p.tables.exec = Jvm.exec) (hZ : Z.Warmed39 s.vm) {own ad : String} {index : Nat} (hown : s.vm.findClass own = some m.cls)
    (w1 : (Cond.methodLink own index ⟨ad, "clone", "()Ljava/lang/Object;"⟩).before a0 Z = true) (w2 : (Cond.sameMethod ad "java/lang/Object" "clone" "()Ljava/lang/Object;").before a0 Z = true) (w3 : (Cond.native ⟨"java/lang/Object", "clone", "()Ljava/lang/Object;"⟩).before a0 Z = true)
    (w4 : (Cond.instanceMethod ⟨"java/lang/Object", "clone", "()Ljava/lang/Object;"⟩).before a0 Z = true) (w5 : (Cond.selects ad ⟨ad, "clone", "()Ljava/lang/Object;"⟩ ⟨"java/lang/Object", "clone", "()Ljava/lang/Object;"⟩).before a0 Z = true) (w6 : (Cond.castable ad "java/lang/Cloneable").before a0 Z = true)
    {a : Addr} {ty : FieldType} {n : Nat} {f : Nat → Value} (A : Ary Z h a ty n f) (E : Exa Z h a ad) (hfit : ∀ i, i < n → fits ty (f i) = true) {pc : Nat} {ls : Array Slot} {rest : List Value} (hsize : ls.size = c.maxLocals) (hd : decode c.code pc = .ok (.invokevirtual index, 3))
    (hf : 1 ≤ R.frames) {W cap : Nat} (hW : (rest.map fun v => v.category).sum = W) (hl : W + 14 ≤ R.locals) (hcap : n ≤ cap) (hc : ck + 1 ≤ R.cells) (hsl : sk + cap ≤ R.slots)
    (k : ∀ T' h' b, b = h.size → Stn p l e R s m args below meth c n0 T' h' (ck + 1) (sk + cap) → Ext h h' → Exa Z h' b ad → Ary Z h' b ty n f → Go p e below Post T' (mkF m (pc + 3) ls (.ref b :: rest))) : Go p e below Post T (mkF m pc ls (.ref a :: rest)) := by
  obtain ⟨eT, locs, N, Y⟩ := X
  obtain ⟨cl, A, r1, r2⟩ := A
  have FC : FitC Z cl := fitC_of A fun i hi v hv => by
    rw [r2 i (r1 ▸ hi)] at hv
    cases hv
    exact hfit i (r1 ▸ hi)
  obtain ⟨T', h', X', e', Ex, A', E', st⟩ := cloneA Y hx hZ hown w1 w2 w3 w4 w5 w6 eT A E FC (g := mkF m pc ls (.ref a :: rest)) rfl hsize rfl hd hf (W := W) (cap := cap) (by show 2 * 0 + _ ≤ _; omega) hl (by rw [r1]; exact hcap) hc hsl
  exact Go.st st (k T' h' _ rfl ⟨e', locs, N, X'⟩ Ex E' ⟨_, A', r1, r2⟩)
theorem goCast (X : Stn p l e R s m args below meth c n0 T h ck sk) (hx : p.tables.exec = Jvm.exec) (hZ : Z.Warmed39 s.vm) {own K : String} {index : Nat} (hown : s.vm.findClass own = some m.cls) (w : (Cond.classLink own index K).before a0 Z = true) {a : Addr} (F : Ins Z h a K true)
    {pc : Nat} {ls : Array Slot} {rest : List Value} (hd : decode c.code pc = .ok (.checkcast index, 3)) (k : ∀ T', Stn p l e R s m args below meth c n0 T' h ck sk → Go p e below Post T' (mkF m (pc + 3) ls (.ref a :: rest))) : Go p e below Post T (mkF m pc ls (.ref a :: rest)) := by
  obtain ⟨eT, locs, N, Y⟩ := X
  obtain ⟨T', X', e', st⟩ := castY Y hx hZ hown w eT F (g := mkF m pc ls (.ref a :: rest)) rfl rfl hd
  exact Go.st st (k T' ⟨e', locs, N, X'⟩)
theorem goLen (X : Stn p l e R s m args below meth c n0 T h ck sk) (hx : p.tables.exec = Jvm.exec) (hZ : Z.Warmed39 s.vm) {a : Addr} {ty : FieldType} {n : Nat} {f : Nat → Value} (A : Ary Z h a ty n f) {pc : Nat} {ls : Array Slot} {rest : List Value} (hd : decode c.code pc = .ok (.arraylength, 1))
    (k : Go p e below Post T (mkF m (pc + 1) ls (.int n.toInt32 :: rest))) : Go p e below Post T (mkF m pc ls (.ref a :: rest)) := by
  obtain ⟨eT, locs, N, Y⟩ := X
  obtain ⟨cl, A, r1, -⟩ := A
  subst r1
  exact Go.st (fun t q => Y.arraylength hx (by rw [eT]; exact A.1) (State.isArrayOf_alike hZ.alike A.2.1) (g := mkF m pc ls (.ref a :: rest)) rfl rfl hd t q) k
theorem goLdI (X : Stn p l e R s m args below meth c n0 T h ck sk) (hx : p.tables.exec = Jvm.exec) (hZ : Z.Warmed39 s.vm) {a : Addr} {n : Nat} {f : Nat → Int32} (A : Ary Z h a .int n (fun i => .int (f i))) {j : Int32} (hj : ¬ (j < 0 ∨ n ≤ j.toNatClampNeg)) {pc : Nat} {ls : Array Slot} {rest : List Value} (hd : decode c.code pc = .ok (.iaload, 1))
    (k : Go p e below Post T (mkF m (pc + 1) ls (.int (f j.toNatClampNeg) :: rest))) : Go p e below Post T (mkF m pc ls (.int j :: .ref a :: rest)) := by
  obtain ⟨eT, locs, N, Y⟩ := X
  obtain ⟨cl, A, r1, r2⟩ := A
  subst r1
  exact Go.st (fun t q => Y.iaload hx (j := j) (v := .int (f j.toNatClampNeg)) (by rw [eT]; exact A.1) (State.isArrayOf_alike hZ.alike A.2.1) A.2.2 hj (r2 _ (by omega)) (g := mkF m pc ls (.int j :: .ref a :: rest)) rfl rfl hd t q) k
theorem goLdJ (X : Stn p l e R s m args below meth c n0 T h ck sk) (hx : p.tables.exec = Jvm.exec) (hZ : Z.Warmed39 s.vm) {a : Addr} {n : Nat} {f : Nat → Int64} (A : Ary Z h a .long n (fun i => .long (f i))) {j : Int32} (hj : ¬ (j < 0 ∨ n ≤ j.toNatClampNeg)) {pc : Nat} {ls : Array Slot} {rest : List Value} (hd : decode c.code pc = .ok (.laload, 1))
    (k : Go p e below Post T (mkF m (pc + 1) ls (.long (f j.toNatClampNeg) :: rest))) : Go p e below Post T (mkF m pc ls (.int j :: .ref a :: rest)) := by
  obtain ⟨eT, locs, N, Y⟩ := X
  obtain ⟨cl, A, r1, r2⟩ := A
  subst r1
  exact Go.st (fun t q => Y.laload hx (j := j) (v := .long (f j.toNatClampNeg)) (by rw [eT]; exact A.1) (State.isArrayOf_alike hZ.alike A.2.1) A.2.2 hj (r2 _ (by omega)) (g := mkF m pc ls (.int j :: .ref a :: rest)) rfl rfl hd t q) k
theorem goStI (X : Stn p l e R s m args below meth c n0 T h ck sk) (hx : p.tables.exec = Jvm.exec) (hZ : Z.Warmed39 s.vm) {a : Addr} {n : Nat} {f : Nat → Int32} (A : Ary Z h a .int n (fun i => .int (f i))) {j x : Int32} (hj : ¬ (j < 0 ∨ n ≤ j.toNatClampNeg)) (ha : n0 ≤ a) {pc : Nat} {ls : Array Slot} {rest : List Value} (hd : decode c.code pc = .ok (.iastore, 1))
    (k : ∀ T' h', Stn p l e R s m args below meth c n0 T' h' ck sk → Wr h h' a j.toNatClampNeg (.int x) → Ary Z h' a .int n (fun i => .int (if i = j.toNatClampNeg then x else f i)) → Go p e below Post T' (mkF m (pc + 1) ls rest)) : Go p e below Post T (mkF m pc ls (.int x :: .int j :: .ref a :: rest)) := by
  obtain ⟨eT, locs, N, Y⟩ := X
  have A0 := A
  obtain ⟨cl, A, r1, r2⟩ := A
  subst r1
  obtain ⟨T', h', X', e', W, st⟩ := stI Y hx hZ eT A hj (g := mkF m pc ls (.int x :: .int j :: .ref a :: rest)) rfl rfl hd
  exact Go.st st (k T' h' ⟨e', _, Fr.snoc X' N ha, X'⟩ W ((A0.set W).congr fun i _ => by split <;> rfl))
theorem goStJ (X : Stn p l e R s m args below meth c n0 T h ck sk) (hx : p.tables.exec = Jvm.exec) (hZ : Z.Warmed39 s.vm) {a : Addr} {n : Nat} {f : Nat → Int64} (A : Ary Z h a .long n (fun i => .long (f i))) {j : Int32} {x : Int64} (hj : ¬ (j < 0 ∨ n ≤ j.toNatClampNeg)) (ha : n0 ≤ a) {pc : Nat} {ls : Array Slot} {rest : List Value} (hd : decode c.code pc = .ok (.lastore, 1))
    (k : ∀ T' h', Stn p l e R s m args below meth c n0 T' h' ck sk → Wr h h' a j.toNatClampNeg (.long x) → Ary Z h' a .long n (fun i => .long (if i = j.toNatClampNeg then x else f i)) → Go p e below Post T' (mkF m (pc + 1) ls rest)) : Go p e below Post T (mkF m pc ls (.long x :: .int j :: .ref a :: rest)) := by
  obtain ⟨eT, locs, N, Y⟩ := X
  have A0 := A
  obtain ⟨cl, A, r1, r2⟩ := A
  subst r1
  obtain ⟨T', h', X', e', W, st⟩ := stJ Y hx hZ eT A hj (g := mkF m pc ls (.long x :: .int j :: .ref a :: rest)) rfl rfl hd
  exact Go.st st (k T' h' ⟨e', _, Fr.snoc X' N ha, X'⟩ W ((A0.set W).congr fun i _ => by split <;> rfl))
/-! calls -/
theorem goStatic (X : Stn p l e R s m args below meth c n0 T h ck sk) (hx : p.tables.exec = Jvm.exec) (hZ : Z.Warmed39 s.vm) {own : String} {index : Nat} {y : MethodName} {bytes : ByteArray} {maxL : Nat} {ret : Option FieldType} {rm : Room} {as' : Array Value} {Q : Option Value → Heap → Prop}
    (hown : s.vm.findClass own = some m.cls) (w1 : (Cond.methodLink own index y).before a0 Z = true) (w2 : (Cond.static y).before a0 Z = true) (w3 : (Cond.initialized y.cls).before a0 Z = true) (w4 : (Cond.code y bytes maxL ret).before a0 Z = true)
    (hy : y.cls ≠ "java/lang/invoke/MethodHandle" ∧ y.cls ≠ "java/lang/invoke/VarHandle") (hM : Con l y bytes maxL ret rm [] Z n0 as' h Q) (W : Nat) (hf : rm.frames + 1 ≤ R.frames) (hl : W + (maxL + 11) + rm.locals ≤ R.locals)
    {pc : Nat} {ls : Array Slot} {stk : List Value} (hsize : ls.size = c.maxLocals) (argsL rest : List Value) (hlen : ∀ sig, parseMethodDescriptor y.desc = some sig → argsL.length = sig.parameters.length) (has : argsL.toArray = as') (hstk : stk = argsL.reverse ++ rest) (hW : (rest.map fun v => v.category).sum = W)
    (hd : decode c.code pc = .ok (.invokestatic index, 3)) (hc : ck + rm.cells ≤ R.cells) (hs : sk + rm.slots ≤ R.slots)
    (k : ∀ v T' h', Stn p l e R s m args below meth c n0 T' h' (ck + rm.cells) (sk + rm.slots) → Q v h' → Go p e below Post T' (mkF m (pc + 3) ls (v.toList ++ rest))) : Go p e below Post T (mkF m pc ls stk) := by
  obtain ⟨eT, locs, N, Y⟩ := X
  obtain ⟨v, _, ⟨T', L', k', n'⟩, -, X', ⟨Lc, ⟨hN, hQ⟩, l', y', z'⟩, st⟩ := Jvm.LawKit.callS Y hx (y := y) hown (mvT hZ w1) (mvT hZ w2) (mvT hZ w3) (mvT hZ w4) hy (backOf (W := W) (Q := fun v h' L => Fr n0 L ∧ Q v h') hM hZ w4 w3 hf hl) (g := mkF m pc ls stk) rfl hsize (argsL := argsL) (rest := rest) hlen hstk (by show 2 * 0 + _ ≤ _; omega) hd (fun _ _ => ⟨has, eT, hc, hs⟩)
  dsimp only [Pt.U, Pt.locs, Pt.cells, Pt.slots] at X' l' y' z' st hQ
  subst l' y' z'
  exact Go.st st (k v T' T'.heap ⟨rfl, _, Fr.app N hN, X'⟩ hQ)
theorem goCtor (X : Stn p l e R s m args below meth c n0 T h ck sk) (hx : p.tables.exec = Jvm.exec) (hZ : Z.Warmed39 s.vm) {own : String} {index : Nat} {y : MethodName} {bytes : ByteArray} {maxL : Nat} {rm : Room} {as' : Array Value} {Q : Option Value → Heap → Prop} (hy1 : y.name = "<init>")
    (hown : s.vm.findClass own = some m.cls) (w1 : (Cond.methodLink own index y).before a0 Z = true) (w2 : (Cond.instanceMethod y).before a0 Z = true) (w3 : (Cond.initialized y.cls).before a0 Z = true) (w4 : (Cond.code y bytes maxL none).before a0 Z = true)
    (hy : y.cls ≠ "java/lang/invoke/MethodHandle" ∧ y.cls ≠ "java/lang/invoke/VarHandle") (hM : Con l y bytes maxL none rm [] Z n0 as' h Q) (W : Nat) (hf : rm.frames + 1 ≤ R.frames) (hl : W + (maxL + 11) + rm.locals ≤ R.locals)
    {pc : Nat} {ls : Array Slot} {stk : List Value} (hsize : ls.size = c.maxLocals) (a : Addr) (argsL rest : List Value) (hlen : ∀ sig, parseMethodDescriptor y.desc = some sig → argsL.length = sig.parameters.length) (has : (.ref a :: argsL).toArray = as') (hstk : stk = argsL.reverse ++ .ref a :: rest) (hW : (rest.map fun v => v.category).sum = W)
    (hd : decode c.code pc = .ok (.invokespecial index, 3)) (hc : ck + rm.cells ≤ R.cells) (hs : sk + rm.slots ≤ R.slots)
    (k : ∀ v T' h', Stn p l e R s m args below meth c n0 T' h' (ck + rm.cells) (sk + rm.slots) → Q v h' → Go p e below Post T' (mkF m (pc + 3) ls (v.toList ++ rest))) : Go p e below Post T (mkF m pc ls stk) := by
  obtain ⟨eT, locs, N, Y⟩ := X
  obtain ⟨v, _, ⟨T', L', k', n'⟩, -, X', ⟨Lc, ⟨hN, hQ⟩, l', y', z'⟩, st⟩ := Y.specialBack hx (y := y) hy1 hown (mvT hZ w1) (mvT hZ w2) (mvT hZ w4) hy (backOf (W := W) (Q := fun v h' L => Fr n0 L ∧ Q v h') hM hZ w4 w3 hf hl) (g := mkF m pc ls stk) rfl hsize (Steps.refl _) (a := a) (argsL := argsL) (rest := rest) hlen hstk (by show 2 * 0 + _ ≤ _; omega) hd (fun _ _ => ⟨has, eT, hc, hs⟩)
  dsimp only [Pt.U, Pt.locs, Pt.cells, Pt.slots] at X' l' y' z' st hQ
  subst l' y' z'
  exact Go.st (fun t q => st.trans q) (k v T' T'.heap ⟨rfl, _, Fr.app N hN, X'⟩ hQ)
theorem goVirt (X : Stn p l e R s m args below meth c n0 T h ck sk) (hx : p.tables.exec = Jvm.exec) (hZ : Z.Warmed39 s.vm) {own C : String} {index : Nat} {y z : MethodName} {bytes : ByteArray} {maxL : Nat} {ret : Option FieldType} {rm : Room} {as' : Array Value} {Q : Option Value → Heap → Prop}
    (hown : s.vm.findClass own = some m.cls) (w1 : (Cond.methodLink own index y).before a0 Z = true) (w2 : (Cond.declares y).before a0 Z = true) (nf : NotFace s y) (w5 : (Cond.selects C y z).before a0 Z = true) (w6 : (Cond.instanceMethod z).before a0 Z = true) (w3 : (Cond.initialized z.cls).before a0 Z = true) (w4 : (Cond.code z bytes maxL ret).before a0 Z = true)
    (hy : y.cls ≠ "java/lang/invoke/MethodHandle" ∧ y.cls ≠ "java/lang/invoke/VarHandle") {a : Addr} (E : Exa Z h a C) (hM : Con l z bytes maxL ret rm [] Z n0 as' h Q) (W : Nat) (hf : rm.frames + 1 ≤ R.frames) (hl : W + (maxL + 11) + rm.locals ≤ R.locals)
    {pc : Nat} {ls : Array Slot} {stk : List Value} (hsize : ls.size = c.maxLocals) (argsL rest : List Value) (hlen : ∀ sig, parseMethodDescriptor y.desc = some sig → argsL.length = sig.parameters.length) (has : (.ref a :: argsL).toArray = as') (hstk : stk = argsL.reverse ++ .ref a :: rest) (hW : (rest.map fun v => v.category).sum = W)
    (hd : decode c.code pc = .ok (.invokevirtual index, 3)) (hc : ck + rm.cells ≤ R.cells) (hs : sk + rm.slots ≤ R.slots)
    (k : ∀ v T' h', Stn p l e R s m args below meth c n0 T' h' (ck + rm.cells) (sk + rm.slots) → Q v h' → Go p e below Post T' (mkF m (pc + 3) ls (v.toList ++ rest))) : Go p e below Post T (mkF m pc ls stk) := by
  obtain ⟨eT, locs, N, Y⟩ := X
  obtain ⟨cq, kq, q1, q2, q3⟩ := isOf hZ eT E
  obtain ⟨v, _, ⟨T', L', k', n'⟩, -, X', ⟨Lc, ⟨hN, hQ⟩, l', y', z'⟩, st⟩ := Y.virtualBack hx (y := y) (z := z) hown (mvT hZ w1) (mvT hZ w2) nf (mvT hZ w5) (mvT hZ w6) hy (backOf (W := W) (Q := fun v h' L => Fr n0 L ∧ Q v h') hM hZ w4 w3 hf hl) q1 q3 (g := mkF m pc ls stk) rfl hsize (Steps.refl _) (argsL := argsL) (rest := rest) hlen hstk (by show 2 * 0 + _ ≤ _; omega) hd (fun _ _ => ⟨has, eT, hc, hs⟩)
  dsimp only [Pt.U, Pt.locs, Pt.cells, Pt.slots] at X' l' y' z' st hQ
  subst l' y' z'
  exact Go.st (fun t q => st.trans q) (k v T' T'.heap ⟨rfl, _, Fr.app N hN, X'⟩ hQ)
theorem goVirtS (X : Stn p l e R s m args below meth c n0 T h ck sk) (hx : p.tables.exec = Jvm.exec) (hZ : Z.Warmed39 s.vm) {own : String} {index : Nat} {y : MethodName} {bytes : ByteArray} {maxL : Nat} {ret : Option FieldType} {rm : Room} {as' : Array Value} {Q : Option Value → Heap → Prop}
    (hown : s.vm.findClass own = some m.cls) (w1 : (Cond.methodLink own index y).before a0 Z = true) (w2 : (Cond.declares y).before a0 Z = true) (w5 : (Cond.selects y.cls y y).before a0 Z = true) (w6 : (Cond.instanceMethod y).before a0 Z = true) (w3 : (Cond.initialized y.cls).before a0 Z = true) (w4 : (Cond.code y bytes maxL ret).before a0 Z = true)
    (hy : y.cls ≠ "java/lang/invoke/MethodHandle" ∧ y.cls ≠ "java/lang/invoke/VarHandle") {a : Addr} (E : Exa Z h a y.cls) (hM : Con l y bytes maxL ret rm [] Z n0 as' h Q) (W : Nat) (hf : rm.frames + 1 ≤ R.frames) (hl : W + (maxL + 11) + rm.locals ≤ R.locals)
    {pc : Nat} {ls : Array Slot} {stk : List Value} (hsize : ls.size = c.maxLocals) (argsL rest : List Value) (hlen : ∀ sig, parseMethodDescriptor y.desc = some sig → argsL.length = sig.parameters.length) (has : (.ref a :: argsL).toArray = as') (hstk : stk = argsL.reverse ++ .ref a :: rest) (hW : (rest.map fun v => v.category).sum = W)
    (hd : decode c.code pc = .ok (.invokevirtual index, 3)) (hc : ck + rm.cells ≤ R.cells) (hs : sk + rm.slots ≤ R.slots)
    (k : ∀ v T' h', Stn p l e R s m args below meth c n0 T' h' (ck + rm.cells) (sk + rm.slots) → Q v h' → Go p e below Post T' (mkF m (pc + 3) ls (v.toList ++ rest))) : Go p e below Post T (mkF m pc ls stk) :=
  goVirt X hx hZ hown w1 w2 (notFace_of_selects (args := #[]) (mvT hZ w5)) w5 w6 w3 w4 hy E hM W hf hl hsize argsL rest hlen has hstk hW hd hc hs k
theorem goPriv (X : Stn p l e R s m args below meth c n0 T h ck sk) (hx : p.tables.exec = Jvm.exec) (hZ : Z.Warmed39 s.vm) {own C : String} {index : Nat} {y : MethodName} {bytes : ByteArray} {maxL : Nat} {ret : Option FieldType} {rm : Room} {as' : Array Value} {Q : Option Value → Heap → Prop}
    (hown : s.vm.findClass own = some m.cls) (w1 : (Cond.methodLink own index y).before a0 Z = true) (w6 : (Cond.instanceMethod y).before a0 Z = true) {kk : Nat} (wi : (Cond.instantiable y.cls kk).before a0 Z = true) (w7 : (Cond.privateMethod y).before a0 Z = true) (w3 : (Cond.initialized y.cls).before a0 Z = true) (w4 : (Cond.code y bytes maxL ret).before a0 Z = true)
    (hy : y.cls ≠ "java/lang/invoke/MethodHandle" ∧ y.cls ≠ "java/lang/invoke/VarHandle") {a : Addr} (E : Exa Z h a C) (hM : Con l y bytes maxL ret rm [] Z n0 as' h Q) (W : Nat) (hf : rm.frames + 1 ≤ R.frames) (hl : W + (maxL + 11) + rm.locals ≤ R.locals)
    {pc : Nat} {ls : Array Slot} {stk : List Value} (hsize : ls.size = c.maxLocals) (argsL rest : List Value) (hlen : ∀ sig, parseMethodDescriptor y.desc = some sig → argsL.length = sig.parameters.length) (has : (.ref a :: argsL).toArray = as') (hstk : stk = argsL.reverse ++ .ref a :: rest) (hW : (rest.map fun v => v.category).sum = W)
    (hd : decode c.code pc = .ok (.invokevirtual index, 3)) (hc : ck + rm.cells ≤ R.cells) (hs : sk + rm.slots ≤ R.slots)
    (k : ∀ v T' h', Stn p l e R s m args below meth c n0 T' h' (ck + rm.cells) (sk + rm.slots) → Q v h' → Go p e below Post T' (mkF m (pc + 3) ls (v.toList ++ rest))) : Go p e below Post T (mkF m pc ls stk) := by
  obtain ⟨eT, locs, N, Y⟩ := X
  obtain ⟨cq, q1, q2⟩ := E.cell
  have hi : (Cond.instantiable y.cls kk).before args s = true := mvT hZ wi
  obtain ⟨ci, ki, i1, i2, -, i4, -⟩ := Cond.instantiable_spec hi
  have i7 : ki.isInterface = false := by
    cases q : ki.isInterface
    · rfl
    · rw [q] at i4; cases i4
  have hsel : (Cond.selects y.cls y y).before args s = true := selects_self_of_private i1 i2 i7 (Cond.privateMethod_at (mvP hZ w7 (args := #[]))) (mvT hZ w6) hy
  obtain ⟨v, _, ⟨T', L', k', n'⟩, -, X', ⟨Lc, ⟨hN, hQ⟩, l', y', z'⟩, st⟩ := Y.privateBack hx (y := y) hown (mvT hZ w1) (mvT hZ w6) hsel (Cond.privateMethod_at (mvP hZ w7 (args := #[]))) (mvT hZ w4) hy (backOf (W := W) (Q := fun v h' L => Fr n0 L ∧ Q v h') hM hZ w4 w3 hf hl) (g := mkF m pc ls stk) rfl hsize (Steps.refl _) (a := a) (by rw [eT]; exact q1) q2 (argsL := argsL) (rest := rest) hlen hstk (by show 2 * 0 + _ ≤ _; omega) hd (fun _ _ => ⟨has, eT, hc, hs⟩)
  dsimp only [Pt.U, Pt.locs, Pt.cells, Pt.slots] at X' l' y' z' st hQ
  subst l' y' z'
  exact Go.st (fun t q => st.trans q) (k v T' T'.heap ⟨rfl, _, Fr.app N hN, X'⟩ hQ)
theorem own_i32_rem (x y : Int32) : x - (x / y) * y = x % y := by
  apply Int32.toInt_inj.mp
  rw [Int32.toInt_mod, Int32.toInt_sub, Int32.toInt_mul, Int32.toInt_div]
  have hb : x.toInt.tmod y.toInt = (x.toInt.tmod y.toInt).bmod (2 ^ 32) := by
    rw [← Int32.toInt_mod]
    exact (Int32.toInt_bmod _).symm
  rw [hb, Int.tmod_def]
  simp [Int.mul_comm]
theorem own_irem {T target : State} (X : At T m c below) (hx : p.tables.exec = Jvm.exec) {pc : Nat} {ls : Array Slot} {x y : Int32} {rest : List Value} (hd : decode c.code pc = .ok (.irem, 1)) (hy : y ≠ 0)
    (hr : Steps p.tables e below (T.setTop (mkF m (pc + 1) ls (.int (x % y) :: rest))) target) : Steps p.tables e below (T.setTop (mkF m pc ls (.int y :: .int x :: rest))) target :=
  XS.irem X hx (g := mkF m pc ls (.int y :: .int x :: rest)) rfl hd rfl hy (by rw [own_i32_rem]; exact hr)
end OwnLayer

def own_is (r : Int32) (P : Prop) : Prop := (r = 1 ∧ P) ∨ (r = 0 ∧ ¬ P)
theorem own_is_eq {r r' : Int32} {P : Prop} (h : own_is r P) (h' : own_is r' P) : r = r' := by
  rcases h with ⟨q1, q2⟩ | ⟨q1, q2⟩ <;> rcases h' with ⟨q3, q4⟩ | ⟨q3, q4⟩
  · rw [q1, q3]
  · exact absurd q2 q4
  · exact absurd q4 q2
  · rw [q1, q3]
theorem own_no {r : Int32} {P : Prop} (h : own_is r P) (n : ¬ P) : r = 0 := h.elim (fun q => absurd q.2 n) (·.1)
theorem own_yes {r : Int32} {P : Prop} (h : own_is r P) (n : P) : ¬ r = 0 := h.elim (fun q => by rw [q.1]; decide) (fun q => absurd n q.2)
def own_in (lo hi : Int32) (q : Int64) : Prop := ¬ q < lo.toInt64 ∧ ¬ hi.toInt64 < q
theorem own_in_iff {lo hi : Int32} {q : Int64} : own_in lo hi q ↔ lo.toInt ≤ q.toInt ∧ q.toInt ≤ hi.toInt := by
  simp only [own_in, Int64.lt_iff_toInt_lt, Jvm.Kit.i64_of_i32]
  omega
theorem own_dec (u : Int32) : (u.toInt64 - (1 : Int64)).toInt = u.toInt - 1 := by
  have h1 := u.toInt_lt; have h2 := u.le_toInt
  rw [Jvm.Kit.i64_sub (by rw [Jvm.Kit.i64_of_i32]; simp; omega) (by rw [Jvm.Kit.i64_of_i32]; simp; omega), Jvm.Kit.i64_of_i32]; rfl
theorem own_inc (u : Int32) : (u.toInt64 + (1 : Int64)).toInt = u.toInt + 1 := by
  have h1 := u.toInt_lt; have h2 := u.le_toInt
  rw [Jvm.Kit.i64_add (by rw [Jvm.Kit.i64_of_i32]; simp; omega) (by rw [Jvm.Kit.i64_of_i32]; simp; omega), Jvm.Kit.i64_of_i32]; rfl
theorem own_le {b d lo hi : Int32} (h1 : (lo = b ∧ ¬ d < b) ∨ (lo = d ∧ d < b)) (h2 : (hi = b ∧ ¬ b < d) ∨ (hi = d ∧ b < d)) : ¬ hi < lo := by
  rcases h1 with ⟨rfl, q⟩ | ⟨rfl, q⟩ <;> rcases h2 with ⟨rfl, q'⟩ | ⟨rfl, q'⟩ <;> simp only [Int32.lt_iff_toInt_lt] at * <;> omega
/-- max(lo, min(hi, q)) is q where q lies within -/
theorem own_clamp {lo hi : Int32} {q r1 r2 : Int64} (hle : ¬ hi < lo) (h1 : (r1 = hi.toInt64 ∧ ¬ q < hi.toInt64) ∨ (r1 = q ∧ q < hi.toInt64)) (h2 : (r2 = lo.toInt64 ∧ ¬ lo.toInt64 < r1) ∨ (r2 = r1 ∧ lo.toInt64 < r1)) : r2 = q ↔ own_in lo hi q := by
  rw [own_in_iff, ← Int64.toInt_inj]
  rcases h1 with ⟨rfl, q1⟩ | ⟨rfl, q1⟩ <;> rcases h2 with ⟨rfl, q2⟩ | ⟨rfl, q2⟩ <;> simp only [Int32.lt_iff_toInt_lt, Int64.lt_iff_toInt_lt, Jvm.Kit.i64_of_i32] at * <;> first | omega | (refine ⟨fun _ => ?_, fun _ => ?_⟩ <;> first | trivial | omega)

theorem d1_0 : decode jdk_29_method_69_code 0 = .ok (.iload_n 0, 1) := by decide +kernel
theorem d1_1 : decode jdk_29_method_69_code 1 = .ok (.iload_n 1, 1) := by decide +kernel
theorem d1_2 : decode jdk_29_method_69_code 2 = .ok (.if_icmp .gt 7, 3) := by decide +kernel
theorem d1_5 : decode jdk_29_method_69_code 5 = .ok (.iload_n 0, 1) := by decide +kernel
theorem d1_6 : decode jdk_29_method_69_code 6 = .ok (.goto 4, 3) := by decide +kernel
theorem d1_9 : decode jdk_29_method_69_code 9 = .ok (.iload_n 1, 1) := by decide +kernel
theorem d1_10 : decode jdk_29_method_69_code 10 = .ok (.ireturn, 1) := by decide +kernel
theorem pn_1 : plainFor (⟨"java/lang/Math", "min", "(II)I"⟩ : MethodName) = true := Jvm.Free.JP.mathPlain rfl (by decide +kernel)
theorem ef_rm1 (m : MethodId) (x0 : Int32) (x1 : Int32) : entryFrame m #[(.int x0), (.int x1)] 2 = mkF m 0 #[.val (.int x0), .val (.int x1)] [] := by first | (simp [entryFrame, mkF, argsToLocals, Value.category]; done) | rfl
def Q1 (Z : State) (n0 : Nat) (h0 : Heap) (b : Int32) (d : Int32) (v : Option Value) (h : Heap) : Prop := ∃ (r : Int32), v = some (.int r) ∧ h = h0 ∧ ((r = b ∧ ¬ d < b) ∨ (r = d ∧ d < b))
set_option maxRecDepth 65536 in
set_option maxHeartbeats 40000000 in
theorem rm1 (l : Launch) (Z : State) (a0 : Array Value) (hw : ∀ d ∈ tables_1, d.before a0 Z = true) (ws : List Jvm.Cond) (n0 : Nat) (h0 : Heap) (b : Int32) (d : Int32) (sz0 : n0 ≤ h0.size) :
    Con l (⟨"java/lang/Math", "min", "(II)I"⟩ : MethodName) jdk_29_method_69_code 2 (some .int) ({ frames := 0, cells := 0, slots := 0, locals := 0 } : Room) ws Z n0 #[(.int b), (.int d)] h0 (Q1 Z n0 h0 b d) := by
  refine Con.body pn_1 ?_
  intro p e s m below meth c s₁ hx hby hml hown hnm hret hlk hZ X0
  have hown : s.vm.findClass "java/lang/Math" = some m.cls := hown
  have hnm : meth.name = "min" := hnm
  rw [show entryFrame m #[(.int b), (.int d)] 2 = mkF m 0 #[.val (.int b), .val (.int d)] [] from ef_rm1 m b d]
  show Go p e below (PostW s n0 (0 : Nat) (0 : Nat) (Q1 Z n0 h0 b d)) s₁ (mkF m 0 #[.val (.int b), .val (.int d)] [])
  refine Go.st (T' := s₁) (g' := (mkF m 1 #[.val (.int b), .val (.int d)] [(.int b)])) (fun t_ k_ => XS.iloadN X0.here hx rfl (hb hby d1_0) rfl k_) ?_
  refine Go.st (T' := s₁) (g' := (mkF m 2 #[.val (.int b), .val (.int d)] [(.int d), (.int b)])) (fun t_ k_ => XS.iloadN X0.here hx rfl (hb hby d1_1) rfl k_) ?_
  by_cases hc2 : d < b
  · skip
    refine Go.st (T' := s₁) (g' := (mkF m 9 #[.val (.int b), .val (.int d)] [])) (fun t_ k_ => XS.icmpYes X0.here hx rfl (pc0 := 2) (pc' := 9) rfl (hb hby d1_2) rfl (tlt hc2).2.2.1 (by decide) (by decide) k_) ?_
    refine Go.st (T' := s₁) (g' := (mkF m 10 #[.val (.int b), .val (.int d)] [(.int d)])) (fun t_ k_ => XS.iloadN X0.here hx rfl (hb hby d1_9) rfl k_) ?_
    refine goRetI X0 hx hlk hret (hb hby d1_10) (by decide) (by decide) ?_
    refine ⟨d, rfl, rfl, ?_⟩
    · first | exact Or.inl ⟨rfl, hc2⟩ | exact Or.inr ⟨rfl, hc2⟩
  · skip
    refine Go.st (T' := s₁) (g' := (mkF m 5 #[.val (.int b), .val (.int d)] [])) (fun t_ k_ => XS.icmpNo X0.here hx rfl (hb hby d1_2) rfl (flt hc2).2.2.1 k_) ?_
    refine Go.st (T' := s₁) (g' := (mkF m 6 #[.val (.int b), .val (.int d)] [(.int b)])) (fun t_ k_ => XS.iloadN X0.here hx rfl (hb hby d1_5) rfl k_) ?_
    refine Go.st (T' := s₁) (g' := (mkF m 10 #[.val (.int b), .val (.int d)] [(.int b)])) (fun t_ k_ => XS.goto X0.here hx rfl (pc0 := 6) (pc' := 10) rfl (hb hby d1_6) (by decide) (by decide) k_) ?_
    refine goRetI X0 hx hlk hret (hb hby d1_10) (by decide) (by decide) ?_
    refine ⟨b, rfl, rfl, ?_⟩
    · first | exact Or.inl ⟨rfl, hc2⟩ | exact Or.inr ⟨rfl, hc2⟩
theorem d2_0 : decode jdk_29_method_65_code 0 = .ok (.iload_n 0, 1) := by decide +kernel
theorem d2_1 : decode jdk_29_method_65_code 1 = .ok (.iload_n 1, 1) := by decide +kernel
theorem d2_2 : decode jdk_29_method_65_code 2 = .ok (.if_icmp .lt 7, 3) := by decide +kernel
theorem d2_5 : decode jdk_29_method_65_code 5 = .ok (.iload_n 0, 1) := by decide +kernel
theorem d2_6 : decode jdk_29_method_65_code 6 = .ok (.goto 4, 3) := by decide +kernel
theorem d2_9 : decode jdk_29_method_65_code 9 = .ok (.iload_n 1, 1) := by decide +kernel
theorem d2_10 : decode jdk_29_method_65_code 10 = .ok (.ireturn, 1) := by decide +kernel
theorem pn_2 : plainFor (⟨"java/lang/Math", "max", "(II)I"⟩ : MethodName) = true := Jvm.Free.JP.mathPlain rfl (by decide +kernel)
theorem ef_rm2 (m : MethodId) (x0 : Int32) (x1 : Int32) : entryFrame m #[(.int x0), (.int x1)] 2 = mkF m 0 #[.val (.int x0), .val (.int x1)] [] := by first | (simp [entryFrame, mkF, argsToLocals, Value.category]; done) | rfl
def Q2 (Z : State) (n0 : Nat) (h0 : Heap) (b : Int32) (d : Int32) (v : Option Value) (h : Heap) : Prop := ∃ (r : Int32), v = some (.int r) ∧ h = h0 ∧ ((r = b ∧ ¬ b < d) ∨ (r = d ∧ b < d))
set_option maxRecDepth 65536 in
set_option maxHeartbeats 40000000 in
theorem rm2 (l : Launch) (Z : State) (a0 : Array Value) (hw : ∀ d ∈ tables_1, d.before a0 Z = true) (ws : List Jvm.Cond) (n0 : Nat) (h0 : Heap) (b : Int32) (d : Int32) (sz0 : n0 ≤ h0.size) :
    Con l (⟨"java/lang/Math", "max", "(II)I"⟩ : MethodName) jdk_29_method_65_code 2 (some .int) ({ frames := 0, cells := 0, slots := 0, locals := 0 } : Room) ws Z n0 #[(.int b), (.int d)] h0 (Q2 Z n0 h0 b d) := by
  refine Con.body pn_2 ?_
  intro p e s m below meth c s₁ hx hby hml hown hnm hret hlk hZ X0
  have hown : s.vm.findClass "java/lang/Math" = some m.cls := hown
  have hnm : meth.name = "max" := hnm
  rw [show entryFrame m #[(.int b), (.int d)] 2 = mkF m 0 #[.val (.int b), .val (.int d)] [] from ef_rm2 m b d]
  show Go p e below (PostW s n0 (0 : Nat) (0 : Nat) (Q2 Z n0 h0 b d)) s₁ (mkF m 0 #[.val (.int b), .val (.int d)] [])
  refine Go.st (T' := s₁) (g' := (mkF m 1 #[.val (.int b), .val (.int d)] [(.int b)])) (fun t_ k_ => XS.iloadN X0.here hx rfl (hb hby d2_0) rfl k_) ?_
  refine Go.st (T' := s₁) (g' := (mkF m 2 #[.val (.int b), .val (.int d)] [(.int d), (.int b)])) (fun t_ k_ => XS.iloadN X0.here hx rfl (hb hby d2_1) rfl k_) ?_
  by_cases hc2 : b < d
  · skip
    refine Go.st (T' := s₁) (g' := (mkF m 9 #[.val (.int b), .val (.int d)] [])) (fun t_ k_ => XS.icmpYes X0.here hx rfl (pc0 := 2) (pc' := 9) rfl (hb hby d2_2) rfl (tlt hc2).1 (by decide) (by decide) k_) ?_
    refine Go.st (T' := s₁) (g' := (mkF m 10 #[.val (.int b), .val (.int d)] [(.int d)])) (fun t_ k_ => XS.iloadN X0.here hx rfl (hb hby d2_9) rfl k_) ?_
    refine goRetI X0 hx hlk hret (hb hby d2_10) (by decide) (by decide) ?_
    refine ⟨d, rfl, rfl, ?_⟩
    · first | exact Or.inl ⟨rfl, hc2⟩ | exact Or.inr ⟨rfl, hc2⟩
  · skip
    refine Go.st (T' := s₁) (g' := (mkF m 5 #[.val (.int b), .val (.int d)] [])) (fun t_ k_ => XS.icmpNo X0.here hx rfl (hb hby d2_2) rfl (flt hc2).1 k_) ?_
    refine Go.st (T' := s₁) (g' := (mkF m 6 #[.val (.int b), .val (.int d)] [(.int b)])) (fun t_ k_ => XS.iloadN X0.here hx rfl (hb hby d2_5) rfl k_) ?_
    refine Go.st (T' := s₁) (g' := (mkF m 10 #[.val (.int b), .val (.int d)] [(.int b)])) (fun t_ k_ => XS.goto X0.here hx rfl (pc0 := 6) (pc' := 10) rfl (hb hby d2_6) (by decide) (by decide) k_) ?_
    refine goRetI X0 hx hlk hret (hb hby d2_10) (by decide) (by decide) ?_
    refine ⟨b, rfl, rfl, ?_⟩
    · first | exact Or.inl ⟨rfl, hc2⟩ | exact Or.inr ⟨rfl, hc2⟩
theorem d7_0 : decode jdk_29_method_70_code 0 = .ok (.lload_n 0, 1) := by decide +kernel
theorem d7_1 : decode jdk_29_method_70_code 1 = .ok (.lload_n 2, 1) := by decide +kernel
theorem d7_2 : decode jdk_29_method_70_code 2 = .ok (.lcmp, 1) := by decide +kernel
theorem d7_3 : decode jdk_29_method_70_code 3 = .ok (.ifCond .gt 7, 3) := by decide +kernel
theorem d7_6 : decode jdk_29_method_70_code 6 = .ok (.lload_n 0, 1) := by decide +kernel
theorem d7_7 : decode jdk_29_method_70_code 7 = .ok (.goto 4, 3) := by decide +kernel
theorem d7_10 : decode jdk_29_method_70_code 10 = .ok (.lload_n 2, 1) := by decide +kernel
theorem d7_11 : decode jdk_29_method_70_code 11 = .ok (.lreturn, 1) := by decide +kernel
theorem pn_7 : plainFor (⟨"java/lang/Math", "min", "(JJ)J"⟩ : MethodName) = true := Jvm.Free.JP.mathPlain rfl (by decide +kernel)
theorem ef_rm7 (m : MethodId) (x0 : Int64) (x1 : Int64) : entryFrame m #[(.long x0), (.long x1)] 4 = mkF m 0 #[.val (.long x0), .second, .val (.long x1), .second] [] := by first | (simp [entryFrame, mkF, argsToLocals, Value.category]; done) | rfl
def Q7 (Z : State) (n0 : Nat) (h0 : Heap) (b : Int64) (d : Int64) (v : Option Value) (h : Heap) : Prop := ∃ (r : Int64), v = some (.long r) ∧ h = h0 ∧ ((r = b ∧ ¬ d < b) ∨ (r = d ∧ d < b))
set_option maxRecDepth 65536 in
set_option maxHeartbeats 40000000 in
theorem rm7 (l : Launch) (Z : State) (a0 : Array Value) (hw : ∀ d ∈ tables_1, d.before a0 Z = true) (ws : List Jvm.Cond) (n0 : Nat) (h0 : Heap) (b : Int64) (d : Int64) (sz0 : n0 ≤ h0.size) :
    Con l (⟨"java/lang/Math", "min", "(JJ)J"⟩ : MethodName) jdk_29_method_70_code 4 (some .long) ({ frames := 0, cells := 0, slots := 0, locals := 0 } : Room) ws Z n0 #[(.long b), (.long d)] h0 (Q7 Z n0 h0 b d) := by
  refine Con.body pn_7 ?_
  intro p e s m below meth c s₁ hx hby hml hown hnm hret hlk hZ X0
  have hown : s.vm.findClass "java/lang/Math" = some m.cls := hown
  have hnm : meth.name = "min" := hnm
  rw [show entryFrame m #[(.long b), (.long d)] 4 = mkF m 0 #[.val (.long b), .second, .val (.long d), .second] [] from ef_rm7 m b d]
  show Go p e below (PostW s n0 (0 : Nat) (0 : Nat) (Q7 Z n0 h0 b d)) s₁ (mkF m 0 #[.val (.long b), .second, .val (.long d), .second] [])
  refine Go.st (T' := s₁) (g' := (mkF m 1 #[.val (.long b), .second, .val (.long d), .second] [(.long b)])) (fun t_ k_ => XS.lloadN X0.here hx rfl (hb hby d7_0) rfl k_) ?_
  refine Go.st (T' := s₁) (g' := (mkF m 2 #[.val (.long b), .second, .val (.long d), .second] [(.long d), (.long b)])) (fun t_ k_ => XS.lloadN X0.here hx rfl (hb hby d7_1) rfl k_) ?_
  refine Go.st (T' := s₁) (g' := (mkF m 3 #[.val (.long b), .second, .val (.long d), .second] [(.int (lcmpW b d))])) (fun t_ k_ => XS.lcmp X0.here hx rfl (hb hby d7_2) rfl k_) ?_
  by_cases hc3 : d < b
  · skip
    refine Go.st (T' := s₁) (g' := (mkF m 10 #[.val (.long b), .second, .val (.long d), .second] [])) (fun t_ k_ => XS.ifYes X0.here hx rfl (pc0 := 3) (pc' := 10) rfl (hb hby d7_3) rfl (lcTgt hc3).1 (by decide) (by decide) k_) ?_
    refine Go.st (T' := s₁) (g' := (mkF m 11 #[.val (.long b), .second, .val (.long d), .second] [(.long d)])) (fun t_ k_ => XS.lloadN X0.here hx rfl (hb hby d7_10) rfl k_) ?_
    refine goRetL X0 hx hlk hret (hb hby d7_11) (by decide) (by decide) ?_
    refine ⟨d, rfl, rfl, ?_⟩
    · first | exact Or.inl ⟨rfl, hc3⟩ | exact Or.inr ⟨rfl, hc3⟩
  · skip
    refine Go.st (T' := s₁) (g' := (mkF m 6 #[.val (.long b), .second, .val (.long d), .second] [])) (fun t_ k_ => XS.ifNo X0.here hx rfl (hb hby d7_3) rfl (lcFgt hc3).1 k_) ?_
    refine Go.st (T' := s₁) (g' := (mkF m 7 #[.val (.long b), .second, .val (.long d), .second] [(.long b)])) (fun t_ k_ => XS.lloadN X0.here hx rfl (hb hby d7_6) rfl k_) ?_
    refine Go.st (T' := s₁) (g' := (mkF m 11 #[.val (.long b), .second, .val (.long d), .second] [(.long b)])) (fun t_ k_ => XS.goto X0.here hx rfl (pc0 := 7) (pc' := 11) rfl (hb hby d7_7) (by decide) (by decide) k_) ?_
    refine goRetL X0 hx hlk hret (hb hby d7_11) (by decide) (by decide) ?_
    refine ⟨b, rfl, rfl, ?_⟩
    · first | exact Or.inl ⟨rfl, hc3⟩ | exact Or.inr ⟨rfl, hc3⟩
theorem d8_0 : decode jdk_29_method_66_code 0 = .ok (.lload_n 0, 1) := by decide +kernel
theorem d8_1 : decode jdk_29_method_66_code 1 = .ok (.lload_n 2, 1) := by decide +kernel
theorem d8_2 : decode jdk_29_method_66_code 2 = .ok (.lcmp, 1) := by decide +kernel
theorem d8_3 : decode jdk_29_method_66_code 3 = .ok (.ifCond .lt 7, 3) := by decide +kernel
theorem d8_6 : decode jdk_29_method_66_code 6 = .ok (.lload_n 0, 1) := by decide +kernel
theorem d8_7 : decode jdk_29_method_66_code 7 = .ok (.goto 4, 3) := by decide +kernel
theorem d8_10 : decode jdk_29_method_66_code 10 = .ok (.lload_n 2, 1) := by decide +kernel
theorem d8_11 : decode jdk_29_method_66_code 11 = .ok (.lreturn, 1) := by decide +kernel
theorem pn_8 : plainFor (⟨"java/lang/Math", "max", "(JJ)J"⟩ : MethodName) = true := Jvm.Free.JP.mathPlain rfl (by decide +kernel)
theorem ef_rm8 (m : MethodId) (x0 : Int64) (x1 : Int64) : entryFrame m #[(.long x0), (.long x1)] 4 = mkF m 0 #[.val (.long x0), .second, .val (.long x1), .second] [] := by first | (simp [entryFrame, mkF, argsToLocals, Value.category]; done) | rfl
def Q8 (Z : State) (n0 : Nat) (h0 : Heap) (b : Int64) (d : Int64) (v : Option Value) (h : Heap) : Prop := ∃ (r : Int64), v = some (.long r) ∧ h = h0 ∧ ((r = b ∧ ¬ b < d) ∨ (r = d ∧ b < d))
set_option maxRecDepth 65536 in
set_option maxHeartbeats 40000000 in
theorem rm8 (l : Launch) (Z : State) (a0 : Array Value) (hw : ∀ d ∈ tables_1, d.before a0 Z = true) (ws : List Jvm.Cond) (n0 : Nat) (h0 : Heap) (b : Int64) (d : Int64) (sz0 : n0 ≤ h0.size) :
    Con l (⟨"java/lang/Math", "max", "(JJ)J"⟩ : MethodName) jdk_29_method_66_code 4 (some .long) ({ frames := 0, cells := 0, slots := 0, locals := 0 } : Room) ws Z n0 #[(.long b), (.long d)] h0 (Q8 Z n0 h0 b d) := by
  refine Con.body pn_8 ?_
  intro p e s m below meth c s₁ hx hby hml hown hnm hret hlk hZ X0
  have hown : s.vm.findClass "java/lang/Math" = some m.cls := hown
  have hnm : meth.name = "max" := hnm
  rw [show entryFrame m #[(.long b), (.long d)] 4 = mkF m 0 #[.val (.long b), .second, .val (.long d), .second] [] from ef_rm8 m b d]
  show Go p e below (PostW s n0 (0 : Nat) (0 : Nat) (Q8 Z n0 h0 b d)) s₁ (mkF m 0 #[.val (.long b), .second, .val (.long d), .second] [])
  refine Go.st (T' := s₁) (g' := (mkF m 1 #[.val (.long b), .second, .val (.long d), .second] [(.long b)])) (fun t_ k_ => XS.lloadN X0.here hx rfl (hb hby d8_0) rfl k_) ?_
  refine Go.st (T' := s₁) (g' := (mkF m 2 #[.val (.long b), .second, .val (.long d), .second] [(.long d), (.long b)])) (fun t_ k_ => XS.lloadN X0.here hx rfl (hb hby d8_1) rfl k_) ?_
  refine Go.st (T' := s₁) (g' := (mkF m 3 #[.val (.long b), .second, .val (.long d), .second] [(.int (lcmpW b d))])) (fun t_ k_ => XS.lcmp X0.here hx rfl (hb hby d8_2) rfl k_) ?_
  by_cases hc3 : b < d
  · skip
    refine Go.st (T' := s₁) (g' := (mkF m 10 #[.val (.long b), .second, .val (.long d), .second] [])) (fun t_ k_ => XS.ifYes X0.here hx rfl (pc0 := 3) (pc' := 10) rfl (hb hby d8_3) rfl (lcTlt hc3).1 (by decide) (by decide) k_) ?_
    refine Go.st (T' := s₁) (g' := (mkF m 11 #[.val (.long b), .second, .val (.long d), .second] [(.long d)])) (fun t_ k_ => XS.lloadN X0.here hx rfl (hb hby d8_10) rfl k_) ?_
    refine goRetL X0 hx hlk hret (hb hby d8_11) (by decide) (by decide) ?_
    refine ⟨d, rfl, rfl, ?_⟩
    · first | exact Or.inl ⟨rfl, hc3⟩ | exact Or.inr ⟨rfl, hc3⟩
  · skip
    refine Go.st (T' := s₁) (g' := (mkF m 6 #[.val (.long b), .second, .val (.long d), .second] [])) (fun t_ k_ => XS.ifNo X0.here hx rfl (hb hby d8_3) rfl (lcFlt hc3).1 k_) ?_
    refine Go.st (T' := s₁) (g' := (mkF m 7 #[.val (.long b), .second, .val (.long d), .second] [(.long b)])) (fun t_ k_ => XS.lloadN X0.here hx rfl (hb hby d8_6) rfl k_) ?_
    refine Go.st (T' := s₁) (g' := (mkF m 11 #[.val (.long b), .second, .val (.long d), .second] [(.long b)])) (fun t_ k_ => XS.goto X0.here hx rfl (pc0 := 7) (pc' := 11) rfl (hb hby d8_7) (by decide) (by decide) k_) ?_
    refine goRetL X0 hx hlk hret (hb hby d8_11) (by decide) (by decide) ?_
    refine ⟨b, rfl, rfl, ?_⟩
    · first | exact Or.inl ⟨rfl, hc3⟩ | exact Or.inr ⟨rfl, hc3⟩
theorem d3_0 : decode prog_40_method_1_code 0 = .ok (.aload_n 0, 1) := by decide +kernel
theorem d3_1 : decode prog_40_method_1_code 1 = .ok (.invokespecial 1, 3) := by decide +kernel
theorem d3_4 : decode prog_40_method_1_code 4 = .ok (.iload_n 1, 1) := by decide +kernel
theorem d3_5 : decode prog_40_method_1_code 5 = .ok (.iload_n 2, 1) := by decide +kernel
theorem d3_6 : decode prog_40_method_1_code 6 = .ok (.if_icmp .le 21, 3) := by decide +kernel
theorem d3_27 : decode prog_40_method_1_code 27 = .ok (.aload_n 0, 1) := by decide +kernel
theorem d3_28 : decode prog_40_method_1_code 28 = .ok (.iload_n 1, 1) := by decide +kernel
theorem d3_29 : decode prog_40_method_1_code 29 = .ok (.putfield 22, 3) := by decide +kernel
theorem d3_32 : decode prog_40_method_1_code 32 = .ok (.aload_n 0, 1) := by decide +kernel
theorem d3_33 : decode prog_40_method_1_code 33 = .ok (.iload_n 2, 1) := by decide +kernel
theorem d3_34 : decode prog_40_method_1_code 34 = .ok (.putfield 26, 3) := by decide +kernel
theorem d3_37 : decode prog_40_method_1_code 37 = .ok (.return_, 1) := by decide +kernel
theorem pn_3 : plainFor (⟨"com/example/utu/utu/network/IntRange", "<init>", "(II)V"⟩ : MethodName) = true := plainFor_of_name (by first | (simp [plainName, overriddenIn]; done) | decide +kernel)
theorem ef_rm3 (m : MethodId) (x0 : Addr) (x1 : Int32) (x2 : Int32) : entryFrame m #[(.ref x0), (.int x1), (.int x2)] 3 = mkF m 0 #[.val (.ref x0), .val (.int x1), .val (.int x2)] [] := by first | (simp [entryFrame, mkF, argsToLocals, Value.category]; done) | rfl
def Q3 (Z : State) (n0 : Nat) (h0 : Heap) (a : Addr) (lo : Int32) (hi : Int32) (u1 : Value) (u2 : Value) (v : Option Value) (h : Heap) : Prop := v = none ∧ Keep h0 h [a] ∧ Exa Z h a "com/example/utu/utu/network/IntRange" ∧ Fld Z h a "com/example/utu/utu/network/IntRange" "low" "I" (.int lo) ∧ Fld Z h a "com/example/utu/utu/network/IntRange" "high" "I" (.int hi)
set_option maxRecDepth 65536 in
set_option maxHeartbeats 40000000 in
theorem rm3 (l : Launch) (Z : State) (a0 : Array Value) (hw : ∀ d ∈ tables_1, d.before a0 Z = true) (ws : List Jvm.Cond) (n0 : Nat) (h0 : Heap) (a : Addr) (lo : Int32) (hi : Int32) (u1 : Value) (u2 : Value) (sz0 : n0 ≤ h0.size) (g0 : Exa Z h0 a "com/example/utu/utu/network/IntRange") (g1 : Fld Z h0 a "com/example/utu/utu/network/IntRange" "low" "I" u1) (g2 : Fld Z h0 a "com/example/utu/utu/network/IntRange" "high" "I" u2) (g3 : n0 ≤ a) (hle : ¬ hi < lo) :
    Con l (⟨"com/example/utu/utu/network/IntRange", "<init>", "(II)V"⟩ : MethodName) prog_40_method_1_code 3 none ({ frames := 1, cells := 0, slots := 0, locals := 12 } : Room) ws Z n0 #[(.ref a), (.int lo), (.int hi)] h0 (Q3 Z n0 h0 a lo hi u1 u2) := by
  refine Con.body pn_3 ?_
  intro p e s m below meth c s₁ hx hby hml hown hnm hret hlk hZ X0
  have hown : s.vm.findClass "com/example/utu/utu/network/IntRange" = some m.cls := hown
  have hnm : meth.name = "<init>" := hnm
  have K0 : Keep h0 h0 [a] := Keep.refl _ _
  rw [show entryFrame m #[(.ref a), (.int lo), (.int hi)] 3 = mkF m 0 #[.val (.ref a), .val (.int lo), .val (.int hi)] [] from ef_rm3 m a lo hi]
  show Go p e below (PostW s n0 (0 : Nat) (0 : Nat) (Q3 Z n0 h0 a lo hi u1 u2)) s₁ (mkF m 0 #[.val (.ref a), .val (.int lo), .val (.int hi)] [])
  refine Go.st (T' := s₁) (g' := (mkF m 1 #[.val (.ref a), .val (.int lo), .val (.int hi)] [(.ref a)])) (fun t_ k_ => XS.aloadN X0.here hx rfl (hb hby d3_0) rfl rfl k_) ?_
  refine goInit X0 hx hZ hown (hw _ (List.mem_of_getElem? (i := 13) rfl)) (hw _ (List.mem_of_getElem? (i := 14) rfl)) (hw _ (List.mem_of_getElem? (i := 15) rfl)) (by rw [hml]; rfl) (hb hby d3_1) (by decide) (W := 0) (Nat.le_of_eq rfl) (by decide) fun T1 X1 => ?_
  show Go p e below _ T1 (mkF m 4 #[.val (.ref a), .val (.int lo), .val (.int hi)] [])
  refine Go.st (T' := T1) (g' := (mkF m 5 #[.val (.ref a), .val (.int lo), .val (.int hi)] [(.int lo)])) (fun t_ k_ => XS.iloadN X1.here hx rfl (hb hby d3_4) rfl k_) ?_
  refine Go.st (T' := T1) (g' := (mkF m 6 #[.val (.ref a), .val (.int lo), .val (.int hi)] [(.int hi), (.int lo)])) (fun t_ k_ => XS.iloadN X1.here hx rfl (hb hby d3_5) rfl k_) ?_
  have hc6 : ¬ (hi < lo) := hle
  refine Go.st (T' := T1) (g' := (mkF m 27 #[.val (.ref a), .val (.int lo), .val (.int hi)] [])) (fun t_ k_ => XS.icmpYes X1.here hx rfl (pc0 := 6) (pc' := 27) rfl (hb hby d3_6) rfl (flt hc6).2.2.2 (by decide) (by decide) k_) ?_
  refine Go.st (T' := T1) (g' := (mkF m 28 #[.val (.ref a), .val (.int lo), .val (.int hi)] [(.ref a)])) (fun t_ k_ => XS.aloadN X1.here hx rfl (hb hby d3_27) rfl rfl k_) ?_
  refine Go.st (T' := T1) (g' := (mkF m 29 #[.val (.ref a), .val (.int lo), .val (.int hi)] [(.int lo), (.ref a)])) (fun t_ k_ => XS.iloadN X1.here hx rfl (hb hby d3_28) rfl k_) ?_
  refine goPut X1 hx hZ hown (host := "") (Or.inl (hw _ (List.mem_of_getElem? (i := 16) rfl))) Via.refl g1 g0 (Or.inr ⟨(hw _ (List.mem_of_getElem? (i := 17) rfl)), rfl, hnm⟩) (hw _ (List.mem_of_getElem? (i := 8) rfl)) (ty := .int) (by decide) rfl rfl g3 (hb hby d3_29) fun T2 h2 X2 W2 => ?_
  have Fw2 := g1.same W2
  have f2_0 : Exa Z h2 a "com/example/utu/utu/network/IntRange" := g0.wr W2
  have f2_1 : Fld Z h2 a "com/example/utu/utu/network/IntRange" "high" "I" u2 := g2.other W2 (Or.inr (slot_ne (Or.inr (hw _ (List.mem_of_getElem? (i := 19) rfl))) (Or.inr (hw _ (List.mem_of_getElem? (i := 17) rfl))) (by decide) (t := .int) (t' := .int) (by decide) (by decide)))
  have sz2 : n0 ≤ h2.size := Nat.le_trans sz0 (Keep.of_wr W2).1
  have K2 : Keep h0 h2 [a] := K0.wr W2 (Or.inl (List.mem_of_getElem? (i := 0) rfl))
  show Go p e below _ T2 (mkF m 32 #[.val (.ref a), .val (.int lo), .val (.int hi)] [])
  refine Go.st (T' := T2) (g' := (mkF m 33 #[.val (.ref a), .val (.int lo), .val (.int hi)] [(.ref a)])) (fun t_ k_ => XS.aloadN X2.here hx rfl (hb hby d3_32) rfl rfl k_) ?_
  refine Go.st (T' := T2) (g' := (mkF m 34 #[.val (.ref a), .val (.int lo), .val (.int hi)] [(.int hi), (.ref a)])) (fun t_ k_ => XS.iloadN X2.here hx rfl (hb hby d3_33) rfl k_) ?_
  refine goPut X2 hx hZ hown (host := "") (Or.inl (hw _ (List.mem_of_getElem? (i := 18) rfl))) Via.refl f2_1 f2_0 (Or.inr ⟨(hw _ (List.mem_of_getElem? (i := 19) rfl)), rfl, hnm⟩) (hw _ (List.mem_of_getElem? (i := 8) rfl)) (ty := .int) (by decide) rfl rfl g3 (hb hby d3_34) fun T3 h3 X3 W3 => ?_
  have Fw3 := f2_1.same W3
  have f3_0 : Exa Z h3 a "com/example/utu/utu/network/IntRange" := f2_0.wr W3
  have f3_2 : Fld Z h3 a "com/example/utu/utu/network/IntRange" "low" "I" (.int lo) := Fw2.other W3 (Or.inr (slot_ne (Or.inr (hw _ (List.mem_of_getElem? (i := 17) rfl))) (Or.inr (hw _ (List.mem_of_getElem? (i := 19) rfl))) (by decide) (t := .int) (t' := .int) (by decide) (by decide)))
  have sz3 : n0 ≤ h3.size := Nat.le_trans sz2 (Keep.of_wr W3).1
  have K3 : Keep h0 h3 [a] := K2.wr W3 (Or.inl (List.mem_of_getElem? (i := 0) rfl))
  show Go p e below _ T3 (mkF m 37 #[.val (.ref a), .val (.int lo), .val (.int hi)] [])
  refine goRetV X3 hx hlk hret (hb hby d3_37) (by decide) (by decide) ?_
  refine ⟨rfl, K3, f3_0, f3_2, Fw3⟩
theorem d5_0 : decode prog_40_method_4_code 0 = .ok (.lload_n 1, 1) := by decide +kernel
theorem d5_1 : decode prog_40_method_4_code 1 = .ok (.aload_n 0, 1) := by decide +kernel
theorem d5_2 : decode prog_40_method_4_code 2 = .ok (.getfield 22, 3) := by decide +kernel
theorem d5_5 : decode prog_40_method_4_code 5 = .ok (.i2l, 1) := by decide +kernel
theorem d5_6 : decode prog_40_method_4_code 6 = .ok (.lcmp, 1) := by decide +kernel
theorem d5_7 : decode prog_40_method_4_code 7 = .ok (.ifCond .lt 17, 3) := by decide +kernel
theorem d5_10 : decode prog_40_method_4_code 10 = .ok (.lload_n 1, 1) := by decide +kernel
theorem d5_11 : decode prog_40_method_4_code 11 = .ok (.aload_n 0, 1) := by decide +kernel
theorem d5_12 : decode prog_40_method_4_code 12 = .ok (.getfield 26, 3) := by decide +kernel
theorem d5_15 : decode prog_40_method_4_code 15 = .ok (.i2l, 1) := by decide +kernel
theorem d5_16 : decode prog_40_method_4_code 16 = .ok (.lcmp, 1) := by decide +kernel
theorem d5_17 : decode prog_40_method_4_code 17 = .ok (.ifCond .gt 7, 3) := by decide +kernel
theorem d5_20 : decode prog_40_method_4_code 20 = .ok (.iconst 1, 1) := by decide +kernel
theorem d5_21 : decode prog_40_method_4_code 21 = .ok (.goto 4, 3) := by decide +kernel
theorem d5_24 : decode prog_40_method_4_code 24 = .ok (.iconst 0, 1) := by decide +kernel
theorem d5_25 : decode prog_40_method_4_code 25 = .ok (.ireturn, 1) := by decide +kernel
theorem pn_5 : plainFor (⟨"com/example/utu/utu/network/IntRange", "contains", "(J)Z"⟩ : MethodName) = true := plainFor_of_name (by first | (simp [plainName, overriddenIn]; done) | decide +kernel)
theorem ef_rm5 (m : MethodId) (x0 : Addr) (x1 : Int64) : entryFrame m #[(.ref x0), (.long x1)] 3 = mkF m 0 #[.val (.ref x0), .val (.long x1), .second] [] := by first | (simp [entryFrame, mkF, argsToLocals, Value.category]; done) | rfl
def Q5 (Z : State) (n0 : Nat) (h0 : Heap) (a : Addr) (q : Int64) (lo : Int32) (hi : Int32) (v : Option Value) (h : Heap) : Prop := ∃ (r : Int32), v = some (.int r) ∧ h = h0 ∧ (own_is r (own_in lo hi q))
set_option maxRecDepth 65536 in
set_option maxHeartbeats 40000000 in
theorem rm5 (l : Launch) (Z : State) (a0 : Array Value) (hw : ∀ d ∈ tables_1, d.before a0 Z = true) (ws : List Jvm.Cond) (n0 : Nat) (h0 : Heap) (a : Addr) (q : Int64) (lo : Int32) (hi : Int32) (sz0 : n0 ≤ h0.size) (g0 : Fld Z h0 a "com/example/utu/utu/network/IntRange" "low" "I" (.int lo)) (g1 : Fld Z h0 a "com/example/utu/utu/network/IntRange" "high" "I" (.int hi)) :
    Con l (⟨"com/example/utu/utu/network/IntRange", "contains", "(J)Z"⟩ : MethodName) prog_40_method_4_code 3 (some .boolean) ({ frames := 0, cells := 0, slots := 0, locals := 0 } : Room) ws Z n0 #[(.ref a), (.long q)] h0 (Q5 Z n0 h0 a q lo hi) := by
  refine Con.body pn_5 ?_
  intro p e s m below meth c s₁ hx hby hml hown hnm hret hlk hZ X0
  have hown : s.vm.findClass "com/example/utu/utu/network/IntRange" = some m.cls := hown
  have hnm : meth.name = "contains" := hnm
  rw [show entryFrame m #[(.ref a), (.long q)] 3 = mkF m 0 #[.val (.ref a), .val (.long q), .second] [] from ef_rm5 m a q]
  show Go p e below (PostW s n0 (0 : Nat) (0 : Nat) (Q5 Z n0 h0 a q lo hi)) s₁ (mkF m 0 #[.val (.ref a), .val (.long q), .second] [])
  refine Go.st (T' := s₁) (g' := (mkF m 1 #[.val (.ref a), .val (.long q), .second] [(.long q)])) (fun t_ k_ => XS.lloadN X0.here hx rfl (hb hby d5_0) rfl k_) ?_
  refine Go.st (T' := s₁) (g' := (mkF m 2 #[.val (.ref a), .val (.long q), .second] [(.ref a), (.long q)])) (fun t_ k_ => XS.aloadN X0.here hx rfl (hb hby d5_1) rfl rfl k_) ?_
  refine goGet X0 hx hZ hown (host := "") (Or.inl (hw _ (List.mem_of_getElem? (i := 16) rfl))) Via.refl g0 (hb hby d5_2) fun T1 X1 => ?_
  show Go p e below _ T1 (mkF m 5 #[.val (.ref a), .val (.long q), .second] [(.int lo), (.long q)])
  refine Go.st (T' := T1) (g' := (mkF m 6 #[.val (.ref a), .val (.long q), .second] [(.long (lo.toInt64)), (.long q)])) (fun t_ k_ => XS.i2l X1.here hx rfl (hb hby d5_5) rfl k_) ?_
  refine Go.st (T' := T1) (g' := (mkF m 7 #[.val (.ref a), .val (.long q), .second] [(.int (lcmpW q (lo.toInt64)))])) (fun t_ k_ => XS.lcmp X1.here hx rfl (hb hby d5_6) rfl k_) ?_
  by_cases hc7 : q < (lo.toInt64)
  · skip
    refine Go.st (T' := T1) (g' := (mkF m 24 #[.val (.ref a), .val (.long q), .second] [])) (fun t_ k_ => XS.ifYes X1.here hx rfl (pc0 := 7) (pc' := 24) rfl (hb hby d5_7) rfl (lcTlt hc7).1 (by decide) (by decide) k_) ?_
    refine Go.st (T' := T1) (g' := (mkF m 25 #[.val (.ref a), .val (.long q), .second] [(.int (0 : Int32))])) (fun t_ k_ => XS.iconst X1.here hx rfl (hb hby d5_24) k_) ?_
    refine goRetZ X1 hx hlk hret (hb hby d5_25) (by decide) (by decide) (Or.inl rfl) ?_
    refine ⟨(0 : Int32), rfl, rfl, ?_⟩
    · first | exact Or.inl ⟨rfl, hc7, hc17⟩ | exact Or.inr ⟨rfl, fun z => z.1 hc7⟩ | exact Or.inr ⟨rfl, fun z => z.2 hc17⟩
  · skip
    refine Go.st (T' := T1) (g' := (mkF m 10 #[.val (.ref a), .val (.long q), .second] [])) (fun t_ k_ => XS.ifNo X1.here hx rfl (hb hby d5_7) rfl (lcFlt hc7).1 k_) ?_
    refine Go.st (T' := T1) (g' := (mkF m 11 #[.val (.ref a), .val (.long q), .second] [(.long q)])) (fun t_ k_ => XS.lloadN X1.here hx rfl (hb hby d5_10) rfl k_) ?_
    refine Go.st (T' := T1) (g' := (mkF m 12 #[.val (.ref a), .val (.long q), .second] [(.ref a), (.long q)])) (fun t_ k_ => XS.aloadN X1.here hx rfl (hb hby d5_11) rfl rfl k_) ?_
    refine goGet X1 hx hZ hown (host := "") (Or.inl (hw _ (List.mem_of_getElem? (i := 18) rfl))) Via.refl g1 (hb hby d5_12) fun T2 X2 => ?_
    show Go p e below _ T2 (mkF m 15 #[.val (.ref a), .val (.long q), .second] [(.int hi), (.long q)])
    refine Go.st (T' := T2) (g' := (mkF m 16 #[.val (.ref a), .val (.long q), .second] [(.long (hi.toInt64)), (.long q)])) (fun t_ k_ => XS.i2l X2.here hx rfl (hb hby d5_15) rfl k_) ?_
    refine Go.st (T' := T2) (g' := (mkF m 17 #[.val (.ref a), .val (.long q), .second] [(.int (lcmpW q (hi.toInt64)))])) (fun t_ k_ => XS.lcmp X2.here hx rfl (hb hby d5_16) rfl k_) ?_
    by_cases hc17 : (hi.toInt64) < q
    · skip
      refine Go.st (T' := T2) (g' := (mkF m 24 #[.val (.ref a), .val (.long q), .second] [])) (fun t_ k_ => XS.ifYes X2.here hx rfl (pc0 := 17) (pc' := 24) rfl (hb hby d5_17) rfl (lcTgt hc17).1 (by decide) (by decide) k_) ?_
      refine Go.st (T' := T2) (g' := (mkF m 25 #[.val (.ref a), .val (.long q), .second] [(.int (0 : Int32))])) (fun t_ k_ => XS.iconst X2.here hx rfl (hb hby d5_24) k_) ?_
      refine goRetZ X2 hx hlk hret (hb hby d5_25) (by decide) (by decide) (Or.inl rfl) ?_
      refine ⟨(0 : Int32), rfl, rfl, ?_⟩
      · first | exact Or.inl ⟨rfl, hc7, hc17⟩ | exact Or.inr ⟨rfl, fun z => z.1 hc7⟩ | exact Or.inr ⟨rfl, fun z => z.2 hc17⟩
    · skip
      refine Go.st (T' := T2) (g' := (mkF m 20 #[.val (.ref a), .val (.long q), .second] [])) (fun t_ k_ => XS.ifNo X2.here hx rfl (hb hby d5_17) rfl (lcFgt hc17).1 k_) ?_
      refine Go.st (T' := T2) (g' := (mkF m 21 #[.val (.ref a), .val (.long q), .second] [(.int (1 : Int32))])) (fun t_ k_ => XS.iconst X2.here hx rfl (hb hby d5_20) k_) ?_
      refine Go.st (T' := T2) (g' := (mkF m 25 #[.val (.ref a), .val (.long q), .second] [(.int (1 : Int32))])) (fun t_ k_ => XS.goto X2.here hx rfl (pc0 := 21) (pc' := 25) rfl (hb hby d5_21) (by decide) (by decide) k_) ?_
      refine goRetZ X2 hx hlk hret (hb hby d5_25) (by decide) (by decide) (Or.inr rfl) ?_
      refine ⟨(1 : Int32), rfl, rfl, ?_⟩
      · first | exact Or.inl ⟨rfl, hc7, hc17⟩ | exact Or.inr ⟨rfl, fun z => z.1 hc7⟩ | exact Or.inr ⟨rfl, fun z => z.2 hc17⟩
theorem d6_0 : decode method_3_code 0 = .ok (.iload_n 0, 1) := by decide +kernel
theorem d6_1 : decode method_3_code 1 = .ok (.i2l, 1) := by decide +kernel
theorem d6_2 : decode method_3_code 2 = .ok (.iload_n 1, 1) := by decide +kernel
theorem d6_3 : decode method_3_code 3 = .ok (.i2l, 1) := by decide +kernel
theorem d6_4 : decode method_3_code 4 = .ok (.lload_n 2, 1) := by decide +kernel
theorem d6_5 : decode method_3_code 5 = .ok (.invokestatic 31, 3) := by decide +kernel
theorem d6_8 : decode method_3_code 8 = .ok (.invokestatic 34, 3) := by decide +kernel
theorem d6_11 : decode method_3_code 11 = .ok (.lload_n 2, 1) := by decide +kernel
theorem d6_12 : decode method_3_code 12 = .ok (.lcmp, 1) := by decide +kernel
theorem d6_13 : decode method_3_code 13 = .ok (.ifCond .ne 7, 3) := by decide +kernel
theorem d6_16 : decode method_3_code 16 = .ok (.iconst 1, 1) := by decide +kernel
theorem d6_17 : decode method_3_code 17 = .ok (.goto 4, 3) := by decide +kernel
theorem d6_20 : decode method_3_code 20 = .ok (.iconst 0, 1) := by decide +kernel
theorem d6_21 : decode method_3_code 21 = .ok (.ireturn, 1) := by decide +kernel
theorem pn_6 : plainFor (⟨"com/example/utu/utu/network/IntRangeContainsPinLaw", "inside", "(IIJ)Z"⟩ : MethodName) = true := plainFor_of_name (by first | (simp [plainName, overriddenIn]; done) | decide +kernel)
theorem pd_6c7814f2 : parseMethodDescriptor "(JJ)J" = some ⟨[.long, .long], some .long⟩ := by decide +kernel
theorem ef_rm6 (m : MethodId) (x0 : Int32) (x1 : Int32) (x2 : Int64) : entryFrame m #[(.int x0), (.int x1), (.long x2)] 4 = mkF m 0 #[.val (.int x0), .val (.int x1), .val (.long x2), .second] [] := by first | (simp [entryFrame, mkF, argsToLocals, Value.category]; done) | rfl
def Q6 (Z : State) (n0 : Nat) (h0 : Heap) (lo : Int32) (hi : Int32) (q : Int64) (v : Option Value) (h : Heap) : Prop := ∃ (r : Int32), v = some (.int r) ∧ h = h0 ∧ (own_is r (own_in lo hi q))
set_option maxRecDepth 65536 in
set_option maxHeartbeats 40000000 in
theorem rm6 (l : Launch) (Z : State) (a0 : Array Value) (hw : ∀ d ∈ tables_1, d.before a0 Z = true) (ws : List Jvm.Cond) (n0 : Nat) (h0 : Heap) (lo : Int32) (hi : Int32) (q : Int64) (sz0 : n0 ≤ h0.size) (hle : ¬ hi < lo) :
    Con l (⟨"com/example/utu/utu/network/IntRangeContainsPinLaw", "inside", "(IIJ)Z"⟩ : MethodName) method_3_code 4 (some .boolean) ({ frames := 1, cells := 0, slots := 0, locals := 20 } : Room) ws Z n0 #[(.int lo), (.int hi), (.long q)] h0 (Q6 Z n0 h0 lo hi q) := by
  refine Con.body pn_6 ?_
  intro p e s m below meth c s₁ hx hby hml hown hnm hret hlk hZ X0
  have hown : s.vm.findClass "com/example/utu/utu/network/IntRangeContainsPinLaw" = some m.cls := hown
  have hnm : meth.name = "inside" := hnm
  rw [show entryFrame m #[(.int lo), (.int hi), (.long q)] 4 = mkF m 0 #[.val (.int lo), .val (.int hi), .val (.long q), .second] [] from ef_rm6 m lo hi q]
  show Go p e below (PostW s n0 (0 : Nat) (0 : Nat) (Q6 Z n0 h0 lo hi q)) s₁ (mkF m 0 #[.val (.int lo), .val (.int hi), .val (.long q), .second] [])
  refine Go.st (T' := s₁) (g' := (mkF m 1 #[.val (.int lo), .val (.int hi), .val (.long q), .second] [(.int lo)])) (fun t_ k_ => XS.iloadN X0.here hx rfl (hb hby d6_0) rfl k_) ?_
  refine Go.st (T' := s₁) (g' := (mkF m 2 #[.val (.int lo), .val (.int hi), .val (.long q), .second] [(.long (lo.toInt64))])) (fun t_ k_ => XS.i2l X0.here hx rfl (hb hby d6_1) rfl k_) ?_
  refine Go.st (T' := s₁) (g' := (mkF m 3 #[.val (.int lo), .val (.int hi), .val (.long q), .second] [(.int hi), (.long (lo.toInt64))])) (fun t_ k_ => XS.iloadN X0.here hx rfl (hb hby d6_2) rfl k_) ?_
  refine Go.st (T' := s₁) (g' := (mkF m 4 #[.val (.int lo), .val (.int hi), .val (.long q), .second] [(.long (hi.toInt64)), (.long (lo.toInt64))])) (fun t_ k_ => XS.i2l X0.here hx rfl (hb hby d6_3) rfl k_) ?_
  refine Go.st (T' := s₁) (g' := (mkF m 5 #[.val (.int lo), .val (.int hi), .val (.long q), .second] [(.long q), (.long (hi.toInt64)), (.long (lo.toInt64))])) (fun t_ k_ => XS.lloadN X0.here hx rfl (hb hby d6_4) rfl k_) ?_
  refine goStatic X0 hx hZ (y := (⟨"java/lang/Math", "min", "(JJ)J"⟩ : MethodName)) hown (hw _ (List.mem_of_getElem? (i := 29) rfl)) (hw _ (List.mem_of_getElem? (i := 30) rfl)) (hw _ (List.mem_of_getElem? (i := 2) rfl)) (hw _ (List.mem_of_getElem? (i := 31) rfl)) (by decide) (rm7 l Z a0 hw [] n0 h0 (hi.toInt64) q sz0) 2 (by decide) (by decide) (by rw [hml]; rfl) [(.long (hi.toInt64)), (.long q)] [(.long (lo.toInt64))] (lenOf pd_6c7814f2 rfl) rfl rfl rfl (hb hby d6_5) (by decide) (by decide) fun v1 T1 h1 X1 hq1 => ?_
  obtain ⟨r1, rfl, eh1, t1⟩ := hq1
  rw [eh1] at X1
  show Go p e below _ T1 (mkF m 8 #[.val (.int lo), .val (.int hi), .val (.long q), .second] [(.long r1), (.long (lo.toInt64))])
  refine goStatic X1 hx hZ (y := (⟨"java/lang/Math", "max", "(JJ)J"⟩ : MethodName)) hown (hw _ (List.mem_of_getElem? (i := 32) rfl)) (hw _ (List.mem_of_getElem? (i := 33) rfl)) (hw _ (List.mem_of_getElem? (i := 2) rfl)) (hw _ (List.mem_of_getElem? (i := 34) rfl)) (by decide) (rm8 l Z a0 hw [] n0 h0 (lo.toInt64) r1 sz0) 0 (by decide) (by decide) (by rw [hml]; rfl) [(.long (lo.toInt64)), (.long r1)] [] (lenOf pd_6c7814f2 rfl) rfl rfl rfl (hb hby d6_8) (by decide) (by decide) fun v2 T2 h2 X2 hq2 => ?_
  obtain ⟨r2, rfl, eh2, t2⟩ := hq2
  rw [eh2] at X2
  show Go p e below _ T2 (mkF m 11 #[.val (.int lo), .val (.int hi), .val (.long q), .second] [(.long r2)])
  refine Go.st (T' := T2) (g' := (mkF m 12 #[.val (.int lo), .val (.int hi), .val (.long q), .second] [(.long q), (.long r2)])) (fun t_ k_ => XS.lloadN X2.here hx rfl (hb hby d6_11) rfl k_) ?_
  refine Go.st (T' := T2) (g' := (mkF m 13 #[.val (.int lo), .val (.int hi), .val (.long q), .second] [(.int (lcmpW r2 q))])) (fun t_ k_ => XS.lcmp X2.here hx rfl (hb hby d6_12) rfl k_) ?_
  by_cases hc13 : r2 = q
  · skip
    refine Go.st (T' := T2) (g' := (mkF m 16 #[.val (.int lo), .val (.int hi), .val (.long q), .second] [])) (fun t_ k_ => XS.ifNo X2.here hx rfl (hb hby d6_13) rfl (lcTeq hc13).2 k_) ?_
    refine Go.st (T' := T2) (g' := (mkF m 17 #[.val (.int lo), .val (.int hi), .val (.long q), .second] [(.int (1 : Int32))])) (fun t_ k_ => XS.iconst X2.here hx rfl (hb hby d6_16) k_) ?_
    refine Go.st (T' := T2) (g' := (mkF m 21 #[.val (.int lo), .val (.int hi), .val (.long q), .second] [(.int (1 : Int32))])) (fun t_ k_ => XS.goto X2.here hx rfl (pc0 := 17) (pc' := 21) rfl (hb hby d6_17) (by decide) (by decide) k_) ?_
    refine goRetZ X2 hx hlk hret (hb hby d6_21) (by decide) (by decide) (Or.inr rfl) ?_
    refine ⟨(1 : Int32), rfl, rfl, ?_⟩
    · first | exact Or.inl ⟨rfl, (own_clamp hle t1 t2).mp hc13⟩ | exact Or.inr ⟨rfl, fun z => hc13 ((own_clamp hle t1 t2).mpr z)⟩
  · skip
    refine Go.st (T' := T2) (g' := (mkF m 20 #[.val (.int lo), .val (.int hi), .val (.long q), .second] [])) (fun t_ k_ => XS.ifYes X2.here hx rfl (pc0 := 13) (pc' := 20) rfl (hb hby d6_13) rfl (lcFeq hc13).2 (by decide) (by decide) k_) ?_
    refine Go.st (T' := T2) (g' := (mkF m 21 #[.val (.int lo), .val (.int hi), .val (.long q), .second] [(.int (0 : Int32))])) (fun t_ k_ => XS.iconst X2.here hx rfl (hb hby d6_20) k_) ?_
    refine goRetZ X2 hx hlk hret (hb hby d6_21) (by decide) (by decide) (Or.inl rfl) ?_
    refine ⟨(0 : Int32), rfl, rfl, ?_⟩
    · first | exact Or.inl ⟨rfl, (own_clamp hle t1 t2).mp hc13⟩ | exact Or.inr ⟨rfl, fun z => hc13 ((own_clamp hle t1 t2).mpr z)⟩
theorem pn_0 : plainFor x = true := plainFor_of_name (by first | (simp [plainName, overriddenIn]; done) | decide +kernel)
theorem pd_e58254ff : parseMethodDescriptor "(II)I" = some ⟨[.int, .int], some .int⟩ := by decide +kernel
theorem pd_688a590a : parseMethodDescriptor "(II)V" = some ⟨[.int, .int], none⟩ := by decide +kernel
theorem pd_f63777da : parseMethodDescriptor "(J)Z" = some ⟨[.long], some .boolean⟩ := by decide +kernel
theorem pd_5b372460 : parseMethodDescriptor "(IIJ)Z" = some ⟨[.int, .int, .long], some .boolean⟩ := by decide +kernel
theorem ef_rm0 (m : MethodId) (x0 : Int32) (x1 : Int32) (x2 : Int64) (x3 : Int32) : entryFrame m #[(.int x0), (.int x1), (.long x2), (.int x3)] maxLocals = mkF m 0 #[.val (.int x0), .val (.int x1), .val (.long x2), .second, .val (.int x3), .unset, .unset, .unset, .unset, .unset, .unset] [] := by first | (simp [entryFrame, mkF, argsToLocals, Value.category, maxLocals]; done) | rfl
def Q0 (Z : State) (n0 : Nat) (h0 : Heap) (b : Int32) (d : Int32) (q : Int64) (g : Int32) (v : Option Value) (h : Heap) : Prop := v = some (.int (1 : Int32))
set_option maxRecDepth 65536 in
set_option maxHeartbeats 40000000 in
theorem rm0 (l : Launch) (Z : State) (a0 : Array Value) (hw : ∀ d ∈ tables_1, d.before a0 Z = true) (ws : List Jvm.Cond) (n0 : Nat) (h0 : Heap) (b : Int32) (d : Int32) (q : Int64) (g : Int32) (sz0 : n0 ≤ h0.size) :
    Con l x code maxLocals ret room_1 ws Z n0 #[(.int b), (.int d), (.long q), (.int g)] h0 (Q0 Z n0 h0 b d q g) := by
  refine Con.body pn_0 ?_
  intro p e s m below meth c s₁ hx hby hml hown hnm hret hlk hZ X0
  have hown : s.vm.findClass "com/example/utu/utu/network/IntRangeContainsPinLaw" = some m.cls := hown
  have hnm : meth.name = "law" := hnm
  have hml : c.maxLocals = 11 := hml
  have hret : meth.sig.returnType = some .boolean := hret
  rw [show entryFrame m #[(.int b), (.int d), (.long q), (.int g)] maxLocals = mkF m 0 #[.val (.int b), .val (.int d), .val (.long q), .second, .val (.int g), .unset, .unset, .unset, .unset, .unset, .unset] [] from ef_rm0 m b d q g]
  show Go p e below (PostW s n0 room_1.cells room_1.slots (Q0 Z n0 h0 b d q g)) s₁ (mkF m 0 #[.val (.int b), .val (.int d), .val (.long q), .second, .val (.int g), .unset, .unset, .unset, .unset, .unset, .unset] [])
  refine Go.st (T' := s₁) (g' := (mkF m 1 #[.val (.int b), .val (.int d), .val (.long q), .second, .val (.int g), .unset, .unset, .unset, .unset, .unset, .unset] [(.int b)])) (fun t_ k_ => XS.iloadN X0.here hx rfl (hb hby at_0) rfl k_) ?_
  refine Go.st (T' := s₁) (g' := (mkF m 2 #[.val (.int b), .val (.int d), .val (.long q), .second, .val (.int g), .unset, .unset, .unset, .unset, .unset, .unset] [(.int d), (.int b)])) (fun t_ k_ => XS.iloadN X0.here hx rfl (hb hby at_1) rfl k_) ?_
  refine goStatic X0 hx hZ (y := (⟨"java/lang/Math", "min", "(II)I"⟩ : MethodName)) hown (hw _ (List.mem_of_getElem? (i := 0) rfl)) (hw _ (List.mem_of_getElem? (i := 1) rfl)) (hw _ (List.mem_of_getElem? (i := 2) rfl)) (hw _ (List.mem_of_getElem? (i := 3) rfl)) (by decide) (rm1 l Z a0 hw [] n0 h0 b d sz0) 0 (by decide) (by decide) (by rw [hml]; rfl) [(.int b), (.int d)] [] (lenOf pd_e58254ff rfl) rfl rfl rfl (hb hby at_2) (by decide) (by decide) fun v1 T1 h1 X1 hq1 => ?_
  obtain ⟨lo, rfl, eh1, tl⟩ := hq1
  rw [eh1] at X1
  show Go p e below _ T1 (mkF m 5 #[.val (.int b), .val (.int d), .val (.long q), .second, .val (.int g), .unset, .unset, .unset, .unset, .unset, .unset] [(.int lo)])
  refine Go.st (T' := T1) (g' := (mkF m 7 #[.val (.int b), .val (.int d), .val (.long q), .second, .val (.int g), .val (.int lo), .unset, .unset, .unset, .unset, .unset] [])) (fun t_ k_ => XS.istore X1.here hx rfl (hb hby at_5) rfl (l' := #[.val (.int b), .val (.int d), .val (.long q), .second, .val (.int g), .val (.int lo), .unset, .unset, .unset, .unset, .unset]) rfl k_) ?_
  refine Go.st (T' := T1) (g' := (mkF m 8 #[.val (.int b), .val (.int d), .val (.long q), .second, .val (.int g), .val (.int lo), .unset, .unset, .unset, .unset, .unset] [(.int b)])) (fun t_ k_ => XS.iloadN X1.here hx rfl (hb hby at_7) rfl k_) ?_
  refine Go.st (T' := T1) (g' := (mkF m 9 #[.val (.int b), .val (.int d), .val (.long q), .second, .val (.int g), .val (.int lo), .unset, .unset, .unset, .unset, .unset] [(.int d), (.int b)])) (fun t_ k_ => XS.iloadN X1.here hx rfl (hb hby at_8) rfl k_) ?_
  refine goStatic X1 hx hZ (y := (⟨"java/lang/Math", "max", "(II)I"⟩ : MethodName)) hown (hw _ (List.mem_of_getElem? (i := 4) rfl)) (hw _ (List.mem_of_getElem? (i := 5) rfl)) (hw _ (List.mem_of_getElem? (i := 2) rfl)) (hw _ (List.mem_of_getElem? (i := 6) rfl)) (by decide) (rm2 l Z a0 hw [] n0 h0 b d sz0) 0 (by decide) (by decide) (by rw [hml]; rfl) [(.int b), (.int d)] [] (lenOf pd_e58254ff rfl) rfl rfl rfl (hb hby at_9) (by decide) (by decide) fun v2 T2 h2 X2 hq2 => ?_
  obtain ⟨hi, rfl, eh2, th⟩ := hq2
  rw [eh2] at X2
  show Go p e below _ T2 (mkF m 12 #[.val (.int b), .val (.int d), .val (.long q), .second, .val (.int g), .val (.int lo), .unset, .unset, .unset, .unset, .unset] [(.int hi)])
  refine Go.st (T' := T2) (g' := (mkF m 14 #[.val (.int b), .val (.int d), .val (.long q), .second, .val (.int g), .val (.int lo), .val (.int hi), .unset, .unset, .unset, .unset] [])) (fun t_ k_ => XS.istore X2.here hx rfl (hb hby at_12) rfl (l' := #[.val (.int b), .val (.int d), .val (.long q), .second, .val (.int g), .val (.int lo), .val (.int hi), .unset, .unset, .unset, .unset]) rfl k_) ?_
  refine goNew X2 hx hZ hown (hw _ (List.mem_of_getElem? (i := 7) rfl)) (hw _ (List.mem_of_getElem? (i := 8) rfl)) (hw _ (List.mem_of_getElem? (i := 9) rfl)) (hb hby at_14) (by decide) (by decide) fun T3 h3 b3 gb3 X3 E3 A3 D3 => ?_
  have ge3 : n0 ≤ b3 := gb3 ▸ sz0
  have sz3 : n0 ≤ h3.size := Nat.le_trans sz0 E3.1
  have F3_low : Fld Z h3 b3 "com/example/utu/utu/network/IntRange" "low" "I" (.int (0 : Int32)) := D3 (Or.inr (hw _ (List.mem_of_getElem? (i := 17) rfl))) (ty := .int) (by decide)
  have F3_high : Fld Z h3 b3 "com/example/utu/utu/network/IntRange" "high" "I" (.int (0 : Int32)) := D3 (Or.inr (hw _ (List.mem_of_getElem? (i := 19) rfl))) (ty := .int) (by decide)
  show Go p e below _ T3 (mkF m 17 #[.val (.int b), .val (.int d), .val (.long q), .second, .val (.int g), .val (.int lo), .val (.int hi), .unset, .unset, .unset, .unset] [(.ref b3)])
  refine Go.st (T' := T3) (g' := (mkF m 18 #[.val (.int b), .val (.int d), .val (.long q), .second, .val (.int g), .val (.int lo), .val (.int hi), .unset, .unset, .unset, .unset] [(.ref b3), (.ref b3)])) (fun t_ k_ => XS.dup X3.here hx rfl (hb hby at_17) rfl rfl k_) ?_
  refine Go.st (T' := T3) (g' := (mkF m 20 #[.val (.int b), .val (.int d), .val (.long q), .second, .val (.int g), .val (.int lo), .val (.int hi), .unset, .unset, .unset, .unset] [(.int lo), (.ref b3), (.ref b3)])) (fun t_ k_ => XS.iload X3.here hx rfl (hb hby at_18) rfl k_) ?_
  refine Go.st (T' := T3) (g' := (mkF m 22 #[.val (.int b), .val (.int d), .val (.long q), .second, .val (.int g), .val (.int lo), .val (.int hi), .unset, .unset, .unset, .unset] [(.int hi), (.int lo), (.ref b3), (.ref b3)])) (fun t_ k_ => XS.iload X3.here hx rfl (hb hby at_20) rfl k_) ?_
  refine goCtor X3 hx hZ (y := (⟨"com/example/utu/utu/network/IntRange", "<init>", "(II)V"⟩ : MethodName)) rfl hown (hw _ (List.mem_of_getElem? (i := 10) rfl)) (hw _ (List.mem_of_getElem? (i := 11) rfl)) (hw _ (List.mem_of_getElem? (i := 9) rfl)) (hw _ (List.mem_of_getElem? (i := 12) rfl)) (by decide) (rm3 l Z a0 hw [] n0 h3 b3 lo hi (.int (0 : Int32)) (.int (0 : Int32)) sz3 A3 F3_low F3_high ge3 (own_le tl th)) 1 (by decide) (by decide) (by rw [hml]; rfl) b3 [(.int lo), (.int hi)] [(.ref b3)] (lenOf pd_688a590a rfl) rfl rfl rfl (hb hby at_22) (by decide) (by decide) fun v4 T4 h4 X4 hq4 => ?_
  obtain ⟨rfl, K4c, p4_0, p4_1, p4_2⟩ := hq4
  have f4_1 : Exa Z h4 b3 "com/example/utu/utu/network/IntRange" := A3.keep K4c
  have sz4 : n0 ≤ h4.size := Nat.le_trans sz3 K4c.1
  show Go p e below _ T4 (mkF m 25 #[.val (.int b), .val (.int d), .val (.long q), .second, .val (.int g), .val (.int lo), .val (.int hi), .unset, .unset, .unset, .unset] [(.ref b3)])
  refine Go.st (T' := T4) (g' := (mkF m 27 #[.val (.int b), .val (.int d), .val (.long q), .second, .val (.int g), .val (.int lo), .val (.int hi), .val (.ref b3), .unset, .unset, .unset] [])) (fun t_ k_ => XS.astore X4.here hx rfl (hb hby at_25) rfl rfl (l' := #[.val (.int b), .val (.int d), .val (.long q), .second, .val (.int g), .val (.int lo), .val (.int hi), .val (.ref b3), .unset, .unset, .unset]) rfl k_) ?_
  refine Go.st (T' := T4) (g' := (mkF m 29 #[.val (.int b), .val (.int d), .val (.long q), .second, .val (.int g), .val (.int lo), .val (.int hi), .val (.ref b3), .unset, .unset, .unset] [(.int lo)])) (fun t_ k_ => XS.iload X4.here hx rfl (hb hby at_27) rfl k_) ?_
  refine Go.st (T' := T4) (g' := (mkF m 30 #[.val (.int b), .val (.int d), .val (.long q), .second, .val (.int g), .val (.int lo), .val (.int hi), .val (.ref b3), .unset, .unset, .unset] [(.long (lo.toInt64))])) (fun t_ k_ => XS.i2l X4.here hx rfl (hb hby at_29) rfl k_) ?_
  refine Go.st (T' := T4) (g' := (mkF m 32 #[.val (.int b), .val (.int d), .val (.long q), .second, .val (.int g), .val (.int lo), .val (.int hi), .val (.ref b3), .unset, .unset, .unset] [(.int g), (.long (lo.toInt64))])) (fun t_ k_ => XS.iload X4.here hx rfl (hb hby at_30) rfl k_) ?_
  refine Go.st (T' := T4) (g' := (mkF m 33 #[.val (.int b), .val (.int d), .val (.long q), .second, .val (.int g), .val (.int lo), .val (.int hi), .val (.ref b3), .unset, .unset, .unset] [(.long (g.toInt64)), (.long (lo.toInt64))])) (fun t_ k_ => XS.i2l X4.here hx rfl (hb hby at_32) rfl k_) ?_
  refine Go.st (T' := T4) (g' := (mkF m 34 #[.val (.int b), .val (.int d), .val (.long q), .second, .val (.int g), .val (.int lo), .val (.int hi), .val (.ref b3), .unset, .unset, .unset] [(.long ((lo.toInt64) + (g.toInt64)))])) (fun t_ k_ => XS.ladd X4.here hx rfl (hb hby at_33) rfl k_) ?_
  refine Go.st (T' := T4) (g' := (mkF m 36 #[.val (.int b), .val (.int d), .val (.long q), .second, .val (.int g), .val (.int lo), .val (.int hi), .val (.ref b3), .val (.long ((lo.toInt64) + (g.toInt64))), .second, .unset] [])) (fun t_ k_ => XS.lstore X4.here hx rfl (hb hby at_34) rfl (l' := #[.val (.int b), .val (.int d), .val (.long q), .second, .val (.int g), .val (.int lo), .val (.int hi), .val (.ref b3), .val (.long ((lo.toInt64) + (g.toInt64))), .second, .unset]) rfl k_) ?_
  refine Go.st (T' := T4) (g' := (mkF m 38 #[.val (.int b), .val (.int d), .val (.long q), .second, .val (.int g), .val (.int lo), .val (.int hi), .val (.ref b3), .val (.long ((lo.toInt64) + (g.toInt64))), .second, .unset] [(.ref b3)])) (fun t_ k_ => XS.aload X4.here hx rfl (hb hby at_36) rfl rfl k_) ?_
  refine Go.st (T' := T4) (g' := (mkF m 40 #[.val (.int b), .val (.int d), .val (.long q), .second, .val (.int g), .val (.int lo), .val (.int hi), .val (.ref b3), .val (.long ((lo.toInt64) + (g.toInt64))), .second, .unset] [(.int lo), (.ref b3)])) (fun t_ k_ => XS.iload X4.here hx rfl (hb hby at_38) rfl k_) ?_
  refine Go.st (T' := T4) (g' := (mkF m 41 #[.val (.int b), .val (.int d), .val (.long q), .second, .val (.int g), .val (.int lo), .val (.int hi), .val (.ref b3), .val (.long ((lo.toInt64) + (g.toInt64))), .second, .unset] [(.long (lo.toInt64)), (.ref b3)])) (fun t_ k_ => XS.i2l X4.here hx rfl (hb hby at_40) rfl k_) ?_
  refine goVirtS X4 hx hZ (y := (⟨"com/example/utu/utu/network/IntRange", "contains", "(J)Z"⟩ : MethodName)) hown (hw _ (List.mem_of_getElem? (i := 20) rfl)) (hw _ (List.mem_of_getElem? (i := 21) rfl)) (hw _ (List.mem_of_getElem? (i := 23) rfl)) (hw _ (List.mem_of_getElem? (i := 22) rfl)) (hw _ (List.mem_of_getElem? (i := 9) rfl)) (hw _ (List.mem_of_getElem? (i := 24) rfl)) (by decide) p4_0 (rm5 l Z a0 hw [] n0 h4 b3 (lo.toInt64) lo hi sz4 p4_1 p4_2) 0 (by decide) (by decide) (by rw [hml]; rfl) [(.long (lo.toInt64))] [] (lenOf pd_f63777da rfl) rfl rfl rfl (hb hby at_41) (by decide) (by decide) fun v5 T5 h5 X5 hq5 => ?_
  obtain ⟨r1, rfl, eh5, t1⟩ := hq5
  rw [eh5] at X5
  show Go p e below _ T5 (mkF m 44 #[.val (.int b), .val (.int d), .val (.long q), .second, .val (.int g), .val (.int lo), .val (.int hi), .val (.ref b3), .val (.long ((lo.toInt64) + (g.toInt64))), .second, .unset] [(.int r1)])
  have hc44 : ¬ (r1 = (0 : Int32)) := own_yes t1 (own_in_iff.mpr (by have hle := own_le tl th; simp only [Int32.lt_iff_toInt_lt] at hle; rw [Jvm.Kit.i64_of_i32]; omega))
  refine Go.st (T' := T5) (g' := (mkF m 47 #[.val (.int b), .val (.int d), .val (.long q), .second, .val (.int g), .val (.int lo), .val (.int hi), .val (.ref b3), .val (.long ((lo.toInt64) + (g.toInt64))), .second, .unset] [])) (fun t_ k_ => XS.ifNo X5.here hx rfl (hb hby at_44) rfl ((if0 _ _).trans (feq hc44).1) k_) ?_
  refine Go.st (T' := T5) (g' := (mkF m 49 #[.val (.int b), .val (.int d), .val (.long q), .second, .val (.int g), .val (.int lo), .val (.int hi), .val (.ref b3), .val (.long ((lo.toInt64) + (g.toInt64))), .second, .unset] [(.ref b3)])) (fun t_ k_ => XS.aload X5.here hx rfl (hb hby at_47) rfl rfl k_) ?_
  refine Go.st (T' := T5) (g' := (mkF m 51 #[.val (.int b), .val (.int d), .val (.long q), .second, .val (.int g), .val (.int lo), .val (.int hi), .val (.ref b3), .val (.long ((lo.toInt64) + (g.toInt64))), .second, .unset] [(.int hi), (.ref b3)])) (fun t_ k_ => XS.iload X5.here hx rfl (hb hby at_49) rfl k_) ?_
  refine Go.st (T' := T5) (g' := (mkF m 52 #[.val (.int b), .val (.int d), .val (.long q), .second, .val (.int g), .val (.int lo), .val (.int hi), .val (.ref b3), .val (.long ((lo.toInt64) + (g.toInt64))), .second, .unset] [(.long (hi.toInt64)), (.ref b3)])) (fun t_ k_ => XS.i2l X5.here hx rfl (hb hby at_51) rfl k_) ?_
  refine goVirtS X5 hx hZ (y := (⟨"com/example/utu/utu/network/IntRange", "contains", "(J)Z"⟩ : MethodName)) hown (hw _ (List.mem_of_getElem? (i := 20) rfl)) (hw _ (List.mem_of_getElem? (i := 21) rfl)) (hw _ (List.mem_of_getElem? (i := 23) rfl)) (hw _ (List.mem_of_getElem? (i := 22) rfl)) (hw _ (List.mem_of_getElem? (i := 9) rfl)) (hw _ (List.mem_of_getElem? (i := 24) rfl)) (by decide) p4_0 (rm5 l Z a0 hw [] n0 h4 b3 (hi.toInt64) lo hi sz4 p4_1 p4_2) 0 (by decide) (by decide) (by rw [hml]; rfl) [(.long (hi.toInt64))] [] (lenOf pd_f63777da rfl) rfl rfl rfl (hb hby at_52) (by decide) (by decide) fun v6 T6 h6 X6 hq6 => ?_
  obtain ⟨r2, rfl, eh6, t2⟩ := hq6
  rw [eh6] at X6
  show Go p e below _ T6 (mkF m 55 #[.val (.int b), .val (.int d), .val (.long q), .second, .val (.int g), .val (.int lo), .val (.int hi), .val (.ref b3), .val (.long ((lo.toInt64) + (g.toInt64))), .second, .unset] [(.int r2)])
  have hc55 : ¬ (r2 = (0 : Int32)) := own_yes t2 (own_in_iff.mpr (by have hle := own_le tl th; simp only [Int32.lt_iff_toInt_lt] at hle; rw [Jvm.Kit.i64_of_i32]; omega))
  refine Go.st (T' := T6) (g' := (mkF m 58 #[.val (.int b), .val (.int d), .val (.long q), .second, .val (.int g), .val (.int lo), .val (.int hi), .val (.ref b3), .val (.long ((lo.toInt64) + (g.toInt64))), .second, .unset] [])) (fun t_ k_ => XS.ifNo X6.here hx rfl (hb hby at_55) rfl ((if0 _ _).trans (feq hc55).1) k_) ?_
  refine Go.st (T' := T6) (g' := (mkF m 60 #[.val (.int b), .val (.int d), .val (.long q), .second, .val (.int g), .val (.int lo), .val (.int hi), .val (.ref b3), .val (.long ((lo.toInt64) + (g.toInt64))), .second, .unset] [(.ref b3)])) (fun t_ k_ => XS.aload X6.here hx rfl (hb hby at_58) rfl rfl k_) ?_
  refine Go.st (T' := T6) (g' := (mkF m 62 #[.val (.int b), .val (.int d), .val (.long q), .second, .val (.int g), .val (.int lo), .val (.int hi), .val (.ref b3), .val (.long ((lo.toInt64) + (g.toInt64))), .second, .unset] [(.int lo), (.ref b3)])) (fun t_ k_ => XS.iload X6.here hx rfl (hb hby at_60) rfl k_) ?_
  refine Go.st (T' := T6) (g' := (mkF m 63 #[.val (.int b), .val (.int d), .val (.long q), .second, .val (.int g), .val (.int lo), .val (.int hi), .val (.ref b3), .val (.long ((lo.toInt64) + (g.toInt64))), .second, .unset] [(.long (lo.toInt64)), (.ref b3)])) (fun t_ k_ => XS.i2l X6.here hx rfl (hb hby at_62) rfl k_) ?_
  refine Go.st (T' := T6) (g' := (mkF m 64 #[.val (.int b), .val (.int d), .val (.long q), .second, .val (.int g), .val (.int lo), .val (.int hi), .val (.ref b3), .val (.long ((lo.toInt64) + (g.toInt64))), .second, .unset] [(.long (1 : Int64)), (.long (lo.toInt64)), (.ref b3)])) (fun t_ k_ => XS.lconst X6.here hx rfl (hb hby at_63) k_) ?_
  refine Go.st (T' := T6) (g' := (mkF m 65 #[.val (.int b), .val (.int d), .val (.long q), .second, .val (.int g), .val (.int lo), .val (.int hi), .val (.ref b3), .val (.long ((lo.toInt64) + (g.toInt64))), .second, .unset] [(.long ((lo.toInt64) - (1 : Int64))), (.ref b3)])) (fun t_ k_ => XS.lsub X6.here hx rfl (hb hby at_64) rfl k_) ?_
  refine goVirtS X6 hx hZ (y := (⟨"com/example/utu/utu/network/IntRange", "contains", "(J)Z"⟩ : MethodName)) hown (hw _ (List.mem_of_getElem? (i := 20) rfl)) (hw _ (List.mem_of_getElem? (i := 21) rfl)) (hw _ (List.mem_of_getElem? (i := 23) rfl)) (hw _ (List.mem_of_getElem? (i := 22) rfl)) (hw _ (List.mem_of_getElem? (i := 9) rfl)) (hw _ (List.mem_of_getElem? (i := 24) rfl)) (by decide) p4_0 (rm5 l Z a0 hw [] n0 h4 b3 ((lo.toInt64) - (1 : Int64)) lo hi sz4 p4_1 p4_2) 0 (by decide) (by decide) (by rw [hml]; rfl) [(.long ((lo.toInt64) - (1 : Int64)))] [] (lenOf pd_f63777da rfl) rfl rfl rfl (hb hby at_65) (by decide) (by decide) fun v7 T7 h7 X7 hq7 => ?_
  obtain ⟨r3, rfl, eh7, t3⟩ := hq7
  rw [eh7] at X7
  show Go p e below _ T7 (mkF m 68 #[.val (.int b), .val (.int d), .val (.long q), .second, .val (.int g), .val (.int lo), .val (.int hi), .val (.ref b3), .val (.long ((lo.toInt64) + (g.toInt64))), .second, .unset] [(.int r3)])
  have hc68 : r3 = (0 : Int32) := own_no t3 (fun z => by have z' := own_in_iff.mp z; rw [own_dec] at z'; omega)
  refine Go.st (T' := T7) (g' := (mkF m 71 #[.val (.int b), .val (.int d), .val (.long q), .second, .val (.int g), .val (.int lo), .val (.int hi), .val (.ref b3), .val (.long ((lo.toInt64) + (g.toInt64))), .second, .unset] [])) (fun t_ k_ => XS.ifNo X7.here hx rfl (hb hby at_68) rfl ((if0 _ _).trans (teq hc68).2) k_) ?_
  refine Go.st (T' := T7) (g' := (mkF m 73 #[.val (.int b), .val (.int d), .val (.long q), .second, .val (.int g), .val (.int lo), .val (.int hi), .val (.ref b3), .val (.long ((lo.toInt64) + (g.toInt64))), .second, .unset] [(.ref b3)])) (fun t_ k_ => XS.aload X7.here hx rfl (hb hby at_71) rfl rfl k_) ?_
  refine Go.st (T' := T7) (g' := (mkF m 75 #[.val (.int b), .val (.int d), .val (.long q), .second, .val (.int g), .val (.int lo), .val (.int hi), .val (.ref b3), .val (.long ((lo.toInt64) + (g.toInt64))), .second, .unset] [(.int hi), (.ref b3)])) (fun t_ k_ => XS.iload X7.here hx rfl (hb hby at_73) rfl k_) ?_
  refine Go.st (T' := T7) (g' := (mkF m 76 #[.val (.int b), .val (.int d), .val (.long q), .second, .val (.int g), .val (.int lo), .val (.int hi), .val (.ref b3), .val (.long ((lo.toInt64) + (g.toInt64))), .second, .unset] [(.long (hi.toInt64)), (.ref b3)])) (fun t_ k_ => XS.i2l X7.here hx rfl (hb hby at_75) rfl k_) ?_
  refine Go.st (T' := T7) (g' := (mkF m 77 #[.val (.int b), .val (.int d), .val (.long q), .second, .val (.int g), .val (.int lo), .val (.int hi), .val (.ref b3), .val (.long ((lo.toInt64) + (g.toInt64))), .second, .unset] [(.long (1 : Int64)), (.long (hi.toInt64)), (.ref b3)])) (fun t_ k_ => XS.lconst X7.here hx rfl (hb hby at_76) k_) ?_
  refine Go.st (T' := T7) (g' := (mkF m 78 #[.val (.int b), .val (.int d), .val (.long q), .second, .val (.int g), .val (.int lo), .val (.int hi), .val (.ref b3), .val (.long ((lo.toInt64) + (g.toInt64))), .second, .unset] [(.long ((hi.toInt64) + (1 : Int64))), (.ref b3)])) (fun t_ k_ => XS.ladd X7.here hx rfl (hb hby at_77) rfl k_) ?_
  refine goVirtS X7 hx hZ (y := (⟨"com/example/utu/utu/network/IntRange", "contains", "(J)Z"⟩ : MethodName)) hown (hw _ (List.mem_of_getElem? (i := 20) rfl)) (hw _ (List.mem_of_getElem? (i := 21) rfl)) (hw _ (List.mem_of_getElem? (i := 23) rfl)) (hw _ (List.mem_of_getElem? (i := 22) rfl)) (hw _ (List.mem_of_getElem? (i := 9) rfl)) (hw _ (List.mem_of_getElem? (i := 24) rfl)) (by decide) p4_0 (rm5 l Z a0 hw [] n0 h4 b3 ((hi.toInt64) + (1 : Int64)) lo hi sz4 p4_1 p4_2) 0 (by decide) (by decide) (by rw [hml]; rfl) [(.long ((hi.toInt64) + (1 : Int64)))] [] (lenOf pd_f63777da rfl) rfl rfl rfl (hb hby at_78) (by decide) (by decide) fun v8 T8 h8 X8 hq8 => ?_
  obtain ⟨r4, rfl, eh8, t4⟩ := hq8
  rw [eh8] at X8
  show Go p e below _ T8 (mkF m 81 #[.val (.int b), .val (.int d), .val (.long q), .second, .val (.int g), .val (.int lo), .val (.int hi), .val (.ref b3), .val (.long ((lo.toInt64) + (g.toInt64))), .second, .unset] [(.int r4)])
  have hc81 : r4 = (0 : Int32) := own_no t4 (fun z => by have z' := own_in_iff.mp z; rw [own_inc] at z'; omega)
  refine Go.st (T' := T8) (g' := (mkF m 84 #[.val (.int b), .val (.int d), .val (.long q), .second, .val (.int g), .val (.int lo), .val (.int hi), .val (.ref b3), .val (.long ((lo.toInt64) + (g.toInt64))), .second, .unset] [])) (fun t_ k_ => XS.ifNo X8.here hx rfl (hb hby at_81) rfl ((if0 _ _).trans (teq hc81).2) k_) ?_
  refine Go.st (T' := T8) (g' := (mkF m 85 #[.val (.int b), .val (.int d), .val (.long q), .second, .val (.int g), .val (.int lo), .val (.int hi), .val (.ref b3), .val (.long ((lo.toInt64) + (g.toInt64))), .second, .unset] [(.int (1 : Int32))])) (fun t_ k_ => XS.iconst X8.here hx rfl (hb hby at_84) k_) ?_
  refine Go.st (T' := T8) (g' := (mkF m 89 #[.val (.int b), .val (.int d), .val (.long q), .second, .val (.int g), .val (.int lo), .val (.int hi), .val (.ref b3), .val (.long ((lo.toInt64) + (g.toInt64))), .second, .unset] [(.int (1 : Int32))])) (fun t_ k_ => XS.goto X8.here hx rfl (pc0 := 85) (pc' := 89) rfl (hb hby at_85) (by decide) (by decide) k_) ?_
  refine Go.st (T' := T8) (g' := (mkF m 91 #[.val (.int b), .val (.int d), .val (.long q), .second, .val (.int g), .val (.int lo), .val (.int hi), .val (.ref b3), .val (.long ((lo.toInt64) + (g.toInt64))), .second, .val (.int (1 : Int32))] [])) (fun t_ k_ => XS.istore X8.here hx rfl (hb hby at_89) rfl (l' := #[.val (.int b), .val (.int d), .val (.long q), .second, .val (.int g), .val (.int lo), .val (.int hi), .val (.ref b3), .val (.long ((lo.toInt64) + (g.toInt64))), .second, .val (.int (1 : Int32))]) rfl k_) ?_
  refine Go.st (T' := T8) (g' := (mkF m 93 #[.val (.int b), .val (.int d), .val (.long q), .second, .val (.int g), .val (.int lo), .val (.int hi), .val (.ref b3), .val (.long ((lo.toInt64) + (g.toInt64))), .second, .val (.int (1 : Int32))] [(.int (1 : Int32))])) (fun t_ k_ => XS.iload X8.here hx rfl (hb hby at_91) rfl k_) ?_
  refine Go.st (T' := T8) (g' := (mkF m 96 #[.val (.int b), .val (.int d), .val (.long q), .second, .val (.int g), .val (.int lo), .val (.int hi), .val (.ref b3), .val (.long ((lo.toInt64) + (g.toInt64))), .second, .val (.int (1 : Int32))] [])) (fun t_ k_ => XS.ifNo X8.here hx rfl (hb hby at_93) rfl (by decide) k_) ?_
  refine Go.st (T' := T8) (g' := (mkF m 98 #[.val (.int b), .val (.int d), .val (.long q), .second, .val (.int g), .val (.int lo), .val (.int hi), .val (.ref b3), .val (.long ((lo.toInt64) + (g.toInt64))), .second, .val (.int (1 : Int32))] [(.ref b3)])) (fun t_ k_ => XS.aload X8.here hx rfl (hb hby at_96) rfl rfl k_) ?_
  refine Go.st (T' := T8) (g' := (mkF m 99 #[.val (.int b), .val (.int d), .val (.long q), .second, .val (.int g), .val (.int lo), .val (.int hi), .val (.ref b3), .val (.long ((lo.toInt64) + (g.toInt64))), .second, .val (.int (1 : Int32))] [(.long q), (.ref b3)])) (fun t_ k_ => XS.lloadN X8.here hx rfl (hb hby at_98) rfl k_) ?_
  refine goVirtS X8 hx hZ (y := (⟨"com/example/utu/utu/network/IntRange", "contains", "(J)Z"⟩ : MethodName)) hown (hw _ (List.mem_of_getElem? (i := 20) rfl)) (hw _ (List.mem_of_getElem? (i := 21) rfl)) (hw _ (List.mem_of_getElem? (i := 23) rfl)) (hw _ (List.mem_of_getElem? (i := 22) rfl)) (hw _ (List.mem_of_getElem? (i := 9) rfl)) (hw _ (List.mem_of_getElem? (i := 24) rfl)) (by decide) p4_0 (rm5 l Z a0 hw [] n0 h4 b3 q lo hi sz4 p4_1 p4_2) 0 (by decide) (by decide) (by rw [hml]; rfl) [(.long q)] [] (lenOf pd_f63777da rfl) rfl rfl rfl (hb hby at_99) (by decide) (by decide) fun v9 T9 h9 X9 hq9 => ?_
  obtain ⟨r5, rfl, eh9, t5⟩ := hq9
  rw [eh9] at X9
  show Go p e below _ T9 (mkF m 102 #[.val (.int b), .val (.int d), .val (.long q), .second, .val (.int g), .val (.int lo), .val (.int hi), .val (.ref b3), .val (.long ((lo.toInt64) + (g.toInt64))), .second, .val (.int (1 : Int32))] [(.int r5)])
  refine Go.st (T' := T9) (g' := (mkF m 104 #[.val (.int b), .val (.int d), .val (.long q), .second, .val (.int g), .val (.int lo), .val (.int hi), .val (.ref b3), .val (.long ((lo.toInt64) + (g.toInt64))), .second, .val (.int (1 : Int32))] [(.int lo), (.int r5)])) (fun t_ k_ => XS.iload X9.here hx rfl (hb hby at_102) rfl k_) ?_
  refine Go.st (T' := T9) (g' := (mkF m 106 #[.val (.int b), .val (.int d), .val (.long q), .second, .val (.int g), .val (.int lo), .val (.int hi), .val (.ref b3), .val (.long ((lo.toInt64) + (g.toInt64))), .second, .val (.int (1 : Int32))] [(.int hi), (.int lo), (.int r5)])) (fun t_ k_ => XS.iload X9.here hx rfl (hb hby at_104) rfl k_) ?_
  refine Go.st (T' := T9) (g' := (mkF m 107 #[.val (.int b), .val (.int d), .val (.long q), .second, .val (.int g), .val (.int lo), .val (.int hi), .val (.ref b3), .val (.long ((lo.toInt64) + (g.toInt64))), .second, .val (.int (1 : Int32))] [(.long q), (.int hi), (.int lo), (.int r5)])) (fun t_ k_ => XS.lloadN X9.here hx rfl (hb hby at_106) rfl k_) ?_
  refine goStatic X9 hx hZ (y := (⟨"com/example/utu/utu/network/IntRangeContainsPinLaw", "inside", "(IIJ)Z"⟩ : MethodName)) hown (hw _ (List.mem_of_getElem? (i := 25) rfl)) (hw _ (List.mem_of_getElem? (i := 26) rfl)) (hw _ (List.mem_of_getElem? (i := 27) rfl)) (hw _ (List.mem_of_getElem? (i := 28) rfl)) (by decide) (rm6 l Z a0 hw [] n0 h4 lo hi q sz4 (own_le tl th)) 1 (by decide) (by decide) (by rw [hml]; rfl) [(.int lo), (.int hi), (.long q)] [(.int r5)] (lenOf pd_5b372460 rfl) rfl rfl rfl (hb hby at_107) (by decide) (by decide) fun v10 T10 h10 X10 hq10 => ?_
  obtain ⟨r6, rfl, eh10, t6⟩ := hq10
  rw [eh10] at X10
  show Go p e below _ T10 (mkF m 110 #[.val (.int b), .val (.int d), .val (.long q), .second, .val (.int g), .val (.int lo), .val (.int hi), .val (.ref b3), .val (.long ((lo.toInt64) + (g.toInt64))), .second, .val (.int (1 : Int32))] [(.int r6), (.int r5)])
  have hc110 : r5 = r6 := own_is_eq t5 t6
  refine Go.st (T' := T10) (g' := (mkF m 113 #[.val (.int b), .val (.int d), .val (.long q), .second, .val (.int g), .val (.int lo), .val (.int hi), .val (.ref b3), .val (.long ((lo.toInt64) + (g.toInt64))), .second, .val (.int (1 : Int32))] [])) (fun t_ k_ => XS.icmpNo X10.here hx rfl (hb hby at_110) rfl (teq hc110).2 k_) ?_
  refine Go.st (T' := T10) (g' := (mkF m 114 #[.val (.int b), .val (.int d), .val (.long q), .second, .val (.int g), .val (.int lo), .val (.int hi), .val (.ref b3), .val (.long ((lo.toInt64) + (g.toInt64))), .second, .val (.int (1 : Int32))] [(.int (1 : Int32))])) (fun t_ k_ => XS.iconst X10.here hx rfl (hb hby at_113) k_) ?_
  refine Go.st (T' := T10) (g' := (mkF m 118 #[.val (.int b), .val (.int d), .val (.long q), .second, .val (.int g), .val (.int lo), .val (.int hi), .val (.ref b3), .val (.long ((lo.toInt64) + (g.toInt64))), .second, .val (.int (1 : Int32))] [(.int (1 : Int32))])) (fun t_ k_ => XS.goto X10.here hx rfl (pc0 := 114) (pc' := 118) rfl (hb hby at_114) (by decide) (by decide) k_) ?_
  refine Go.st (T' := T10) (g' := (mkF m 120 #[.val (.int b), .val (.int d), .val (.long q), .second, .val (.int g), .val (.int lo), .val (.int hi), .val (.ref b3), .val (.long ((lo.toInt64) + (g.toInt64))), .second, .val (.int (1 : Int32))] [])) (fun t_ k_ => XS.istore X10.here hx rfl (hb hby at_118) rfl (l' := #[.val (.int b), .val (.int d), .val (.long q), .second, .val (.int g), .val (.int lo), .val (.int hi), .val (.ref b3), .val (.long ((lo.toInt64) + (g.toInt64))), .second, .val (.int (1 : Int32))]) rfl k_) ?_
  refine Go.st (T' := T10) (g' := (mkF m 122 #[.val (.int b), .val (.int d), .val (.long q), .second, .val (.int g), .val (.int lo), .val (.int hi), .val (.ref b3), .val (.long ((lo.toInt64) + (g.toInt64))), .second, .val (.int (1 : Int32))] [(.int (1 : Int32))])) (fun t_ k_ => XS.iload X10.here hx rfl (hb hby at_120) rfl k_) ?_
  refine Go.st (T' := T10) (g' := (mkF m 125 #[.val (.int b), .val (.int d), .val (.long q), .second, .val (.int g), .val (.int lo), .val (.int hi), .val (.ref b3), .val (.long ((lo.toInt64) + (g.toInt64))), .second, .val (.int (1 : Int32))] [])) (fun t_ k_ => XS.ifNo X10.here hx rfl (hb hby at_122) rfl (by decide) k_) ?_
  refine Go.st (T' := T10) (g' := (mkF m 127 #[.val (.int b), .val (.int d), .val (.long q), .second, .val (.int g), .val (.int lo), .val (.int hi), .val (.ref b3), .val (.long ((lo.toInt64) + (g.toInt64))), .second, .val (.int (1 : Int32))] [(.ref b3)])) (fun t_ k_ => XS.aload X10.here hx rfl (hb hby at_125) rfl rfl k_) ?_
  refine Go.st (T' := T10) (g' := (mkF m 129 #[.val (.int b), .val (.int d), .val (.long q), .second, .val (.int g), .val (.int lo), .val (.int hi), .val (.ref b3), .val (.long ((lo.toInt64) + (g.toInt64))), .second, .val (.int (1 : Int32))] [(.long ((lo.toInt64) + (g.toInt64))), (.ref b3)])) (fun t_ k_ => XS.lload X10.here hx rfl (hb hby at_127) rfl k_) ?_
  refine goVirtS X10 hx hZ (y := (⟨"com/example/utu/utu/network/IntRange", "contains", "(J)Z"⟩ : MethodName)) hown (hw _ (List.mem_of_getElem? (i := 20) rfl)) (hw _ (List.mem_of_getElem? (i := 21) rfl)) (hw _ (List.mem_of_getElem? (i := 23) rfl)) (hw _ (List.mem_of_getElem? (i := 22) rfl)) (hw _ (List.mem_of_getElem? (i := 9) rfl)) (hw _ (List.mem_of_getElem? (i := 24) rfl)) (by decide) p4_0 (rm5 l Z a0 hw [] n0 h4 b3 ((lo.toInt64) + (g.toInt64)) lo hi sz4 p4_1 p4_2) 0 (by decide) (by decide) (by rw [hml]; rfl) [(.long ((lo.toInt64) + (g.toInt64)))] [] (lenOf pd_f63777da rfl) rfl rfl rfl (hb hby at_129) (by decide) (by decide) fun v11 T11 h11 X11 hq11 => ?_
  obtain ⟨r7, rfl, eh11, t7⟩ := hq11
  rw [eh11] at X11
  show Go p e below _ T11 (mkF m 132 #[.val (.int b), .val (.int d), .val (.long q), .second, .val (.int g), .val (.int lo), .val (.int hi), .val (.ref b3), .val (.long ((lo.toInt64) + (g.toInt64))), .second, .val (.int (1 : Int32))] [(.int r7)])
  refine Go.st (T' := T11) (g' := (mkF m 134 #[.val (.int b), .val (.int d), .val (.long q), .second, .val (.int g), .val (.int lo), .val (.int hi), .val (.ref b3), .val (.long ((lo.toInt64) + (g.toInt64))), .second, .val (.int (1 : Int32))] [(.int lo), (.int r7)])) (fun t_ k_ => XS.iload X11.here hx rfl (hb hby at_132) rfl k_) ?_
  refine Go.st (T' := T11) (g' := (mkF m 136 #[.val (.int b), .val (.int d), .val (.long q), .second, .val (.int g), .val (.int lo), .val (.int hi), .val (.ref b3), .val (.long ((lo.toInt64) + (g.toInt64))), .second, .val (.int (1 : Int32))] [(.int hi), (.int lo), (.int r7)])) (fun t_ k_ => XS.iload X11.here hx rfl (hb hby at_134) rfl k_) ?_
  refine Go.st (T' := T11) (g' := (mkF m 138 #[.val (.int b), .val (.int d), .val (.long q), .second, .val (.int g), .val (.int lo), .val (.int hi), .val (.ref b3), .val (.long ((lo.toInt64) + (g.toInt64))), .second, .val (.int (1 : Int32))] [(.long ((lo.toInt64) + (g.toInt64))), (.int hi), (.int lo), (.int r7)])) (fun t_ k_ => XS.lload X11.here hx rfl (hb hby at_136) rfl k_) ?_
  refine goStatic X11 hx hZ (y := (⟨"com/example/utu/utu/network/IntRangeContainsPinLaw", "inside", "(IIJ)Z"⟩ : MethodName)) hown (hw _ (List.mem_of_getElem? (i := 25) rfl)) (hw _ (List.mem_of_getElem? (i := 26) rfl)) (hw _ (List.mem_of_getElem? (i := 27) rfl)) (hw _ (List.mem_of_getElem? (i := 28) rfl)) (by decide) (rm6 l Z a0 hw [] n0 h4 lo hi ((lo.toInt64) + (g.toInt64)) sz4 (own_le tl th)) 1 (by decide) (by decide) (by rw [hml]; rfl) [(.int lo), (.int hi), (.long ((lo.toInt64) + (g.toInt64)))] [(.int r7)] (lenOf pd_5b372460 rfl) rfl rfl rfl (hb hby at_138) (by decide) (by decide) fun v12 T12 h12 X12 hq12 => ?_
  obtain ⟨r8, rfl, eh12, t8⟩ := hq12
  rw [eh12] at X12
  show Go p e below _ T12 (mkF m 141 #[.val (.int b), .val (.int d), .val (.long q), .second, .val (.int g), .val (.int lo), .val (.int hi), .val (.ref b3), .val (.long ((lo.toInt64) + (g.toInt64))), .second, .val (.int (1 : Int32))] [(.int r8), (.int r7)])
  have hc141 : r7 = r8 := own_is_eq t7 t8
  refine Go.st (T' := T12) (g' := (mkF m 144 #[.val (.int b), .val (.int d), .val (.long q), .second, .val (.int g), .val (.int lo), .val (.int hi), .val (.ref b3), .val (.long ((lo.toInt64) + (g.toInt64))), .second, .val (.int (1 : Int32))] [])) (fun t_ k_ => XS.icmpNo X12.here hx rfl (hb hby at_141) rfl (teq hc141).2 k_) ?_
  refine Go.st (T' := T12) (g' := (mkF m 145 #[.val (.int b), .val (.int d), .val (.long q), .second, .val (.int g), .val (.int lo), .val (.int hi), .val (.ref b3), .val (.long ((lo.toInt64) + (g.toInt64))), .second, .val (.int (1 : Int32))] [(.int (1 : Int32))])) (fun t_ k_ => XS.iconst X12.here hx rfl (hb hby at_144) k_) ?_
  refine Go.st (T' := T12) (g' := (mkF m 149 #[.val (.int b), .val (.int d), .val (.long q), .second, .val (.int g), .val (.int lo), .val (.int hi), .val (.ref b3), .val (.long ((lo.toInt64) + (g.toInt64))), .second, .val (.int (1 : Int32))] [(.int (1 : Int32))])) (fun t_ k_ => XS.goto X12.here hx rfl (pc0 := 145) (pc' := 149) rfl (hb hby at_145) (by decide) (by decide) k_) ?_
  refine Go.st (T' := T12) (g' := (mkF m 151 #[.val (.int b), .val (.int d), .val (.long q), .second, .val (.int g), .val (.int lo), .val (.int hi), .val (.ref b3), .val (.long ((lo.toInt64) + (g.toInt64))), .second, .val (.int (1 : Int32))] [])) (fun t_ k_ => XS.istore X12.here hx rfl (hb hby at_149) rfl (l' := #[.val (.int b), .val (.int d), .val (.long q), .second, .val (.int g), .val (.int lo), .val (.int hi), .val (.ref b3), .val (.long ((lo.toInt64) + (g.toInt64))), .second, .val (.int (1 : Int32))]) rfl k_) ?_
  refine Go.st (T' := T12) (g' := (mkF m 153 #[.val (.int b), .val (.int d), .val (.long q), .second, .val (.int g), .val (.int lo), .val (.int hi), .val (.ref b3), .val (.long ((lo.toInt64) + (g.toInt64))), .second, .val (.int (1 : Int32))] [(.int (1 : Int32))])) (fun t_ k_ => XS.iload X12.here hx rfl (hb hby at_151) rfl k_) ?_
  refine goRetZ X12 hx hlk hret (hb hby at_153) (by decide) (by decide) (Or.inr rfl) ?_
  exact rfl
set_option maxRecDepth 65536 in
set_option maxHeartbeats 40000000 in
theorem comes_1 {Post : Tables → Env → Array Value → State → Outcome → State → Prop} (hpost : ∀ tb e args s v u, (limb_1_1.after args s (.returned v) u = true ∧ limb_1_2.after args s (.returned v) u = true ∧ True) → FrameEnd s (.returned v) u (Jvm.fieldLocs frame_1_writes args s ++ Jvm.arrayLocs frame_1_arrays args s ++ Jvm.staticLocs frame_1_statics s) 16 128 → Post tb e args s (.returned v) u) :
    ArmFor flags0 classFile x code maxLocals ret World_1 tables_1 room_1 Calls_1 rest_1 Pre_1 Post := by
  intro l hfl _ _ p e ha hc hk s m args below hf hA hF happ hP
  obtain ⟨hcalls, hrest, hpre⟩ := hP
  obtain ⟨-, -, -, hnamed, -, -, -, hat⟩ := (Spec.applies_iff hf).mp happ
  obtain ⟨hg, hn⟩ := and_e (Cond.before_iff.mp (show (Jvm.Cond.and given_1 narrow_1).before args s = true from hpre))
  obtain ⟨hcnt, hg⟩ := and_e hg
  obtain ⟨ha0, hg⟩ := and_e hg
  obtain ⟨ha1, hg⟩ := and_e hg
  obtain ⟨ha2, hg⟩ := and_e hg
  have ha3 := hg
  obtain ⟨w0, w1, w2, w3, rfl⟩ : ∃ w0 w1 w2 w3 : Value, args = #[w0, w1, w2, w3] := by
    have hs : args.size = 4 := by simpa [Cond.value, given_1] using hcnt
    obtain ⟨L⟩ := args
    match L, hs with
    | [w0, w1, w2, w3], _ => exact ⟨w0, w1, w2, w3, rfl⟩
  have hw := fun d (hd : d ∈ tables_1) => atoms_spec (ws := Jvm.Cond.code x code maxLocals ret :: tables_1) hat d (List.mem_cons_of_mem _ hd)
  have hfit : Fit s := fun {y c} hc i hi => by
    obtain ⟨ha, rfl⟩ := Array.getElem?_eq_some_iff.mp hc
    have q := List.all_eq_true.mp ((Array.all_eq_true_iff_forall_mem.mp hF) _ (Array.getElem_mem ha)) i (List.mem_range.mpr hi)
    simpa [Array.getElem?_eq_getElem hi] using q
  obtain ⟨i0, ei0⟩ := is_v ha0
  obtain rfl : w0 = (.int i0) := Option.some.inj ei0
  obtain ⟨i1, ei1⟩ := is_v ha1
  obtain rfl : w1 = (.int i1) := Option.some.inj ei1
  obtain ⟨i2, ei2⟩ := isL_v ha2
  obtain rfl : w2 = (.long i2) := Option.some.inj ei2
  obtain ⟨i3, ei3⟩ := is_v ha3
  obtain rfl : w3 = (.int i3) := Option.some.inj ei3
  obtain ⟨n, o, h1, h2, h3, v, L, rfl, ⟨N, hv⟩, hq⟩ := rm0 l s _ hw tables_1 s.heap.size s.heap i0 i1 i2 i3 (Nat.le_refl _) p e ha hc hk s m _ below hf ((Spec.applies_iff_loose hf).mp happ).1 ⟨rfl, State.Warmed39.refl s, rfl⟩ trivial
  obtain rfl : v = some (.int 1) := hv
  refine ⟨n, _, h1, h2, h3, hpost _ _ _ _ _ _ ⟨Cond.after_iff.mpr rfl, Cond.after_iff.mpr (eq_i res_at (Term.int_eval (1)) rfl), trivial⟩ ⟨hq.1, hq.2.1, (hq.2.2.sift fun y hy => Or.inr (N y hy)).mono (by decide) (by decide)⟩⟩
theorem main_1_1 : Claimed_1_1 := comes_1 fun _ _ _ _ _ _ h hF => ⟨h.1, hF⟩
theorem main_1_2 : Claimed_1_2 := comes_1 fun _ _ _ _ _ _ h hF => ⟨h.2.1, hF⟩
end Jvm.Pilot.@@N@@
namespace Jvm.Pilot.@@N@@
open Jvm Jvm.ClassFile Sem Op Lib Jvm.Free Jvm.Stand Jvm.Pilot.@@N@@.Jvm.D
/-! MADE BY PROGRAM (witnessworld.py) out of the Statement's table words and the real class files: 10 classes; the members and pool entries that the words name. The judged class is class 1, her method 1. -/
namespace start1
open Jvm.ClassFile
def u (s : String) : CpInfo := .utf8 (stringToUtf16 s)
/-- a pool by its gaps: so many unusable entries, then the entry; so many at the end -/
def gap : Nat → List CpInfo → List CpInfo
  | 0, r => r
  | n + 1, r => .unusable :: gap n r
def poolList (es : List (Nat × CpInfo)) (last : Nat) : List CpInfo := es.foldr (fun e r => gap e.1 (e.2 :: r)) (gap last [])
def pool (es : List (Nat × CpInfo)) (last : Nat) : Array CpInfo := ⟨poolList es last⟩
def fileOf (pool : Array CpInfo) (this : Nat) (attrs : Array Attribute := #[]) (ms : Array MethodInfo := #[]) (fl : Nat := 33) (sup : Nat := 0) (ifs : Array Nat := #[]) (fds : Array FieldInfo := #[]) : ClassFile where
  minorVersion := 0
  majorVersion := 65
  constantPool := pool
  accessFlags := fl
  thisClass := this
  superClass := sup
  interfaces := ifs
  fields := fds
  methods := ms
  attributes := attrs
def plain (name : String) (sup : Option ClassId) : Class where
  name := name
  kind := .ordinary
  loader := none
  accessFlags := 33
  super := sup
  interfaces := #[]
  cf := none
  fields := #[]
  methods := #[]
  instanceTypes := #[]
  staticTypes := #[]
  resolved := #[]
  callSites := []
  init := .initialized
  statics := none
  mirror := none

def pool0 : Array CpInfo := pool [(5, u "<init>"), (0, u "()V"), (1, .class_ 10), (1, u "java/lang/Object")] 113

def k0c0 : Code := { maxStack := 0, maxLocals := 1, code := object_method_1_code, exceptionTable := #[], attributes := #[] }
def k0m0 : Method := { name := "<init>", desc := "()V", sig := { parameters := [], returnType := none }, accessFlags := 1, code := some k0c0 }
/-- java/lang/Object -/
def k0 : Class := { plain "java/lang/Object" none with
  accessFlags := 33
  interfaces := #[]
  cf := some (fileOf pool0 8 #[] #[{ accessFlags := 1, nameIndex := 5, descriptorIndex := 6, attributes := #[] }] 33 0 #[] #[])
  fields := #[]
  methods := #[k0m0]
  instanceTypes := #[]
  staticTypes := #[]
  resolved := Array.replicate 124 none
  statics := none }

def pool1 : Array CpInfo := pool [(2, .class_ 4), (1, u "java/lang/Object"), (0, u "<init>"), (0, u "()V"), (0, .methodref 8 9), (0, .class_ 10), (0, .nameAndType 11 12), (0, u "java/lang/Math"), (0, u "min"), (0, u "(II)I"), (0, .methodref 8 14), (0, .nameAndType 15 12), (0, u "max"), (0, .class_ 17), (0, u "com/example/utu/utu/network/IntRange"), (0, .methodref 16 19), (0, .nameAndType 5 20), (0, u "(II)V"), (0, .methodref 16 22), (0, .nameAndType 23 24), (0, u "contains"), (0, u "(J)Z"), (0, .methodref 26 27), (0, .class_ 28), (0, .nameAndType 29 30), (0, u "com/example/utu/utu/network/IntRangeContainsPinLaw"), (0, u "inside"), (0, u "(IIJ)Z"), (0, .methodref 8 32), (0, .nameAndType 11 33), (0, u "(JJ)J"), (0, .methodref 8 35), (0, .nameAndType 15 33), (2, u "law"), (0, u "(IIJI)Z")] 3

def k1m0 : Method := { name := "<init>", desc := "()V", sig := { parameters := [], returnType := none }, accessFlags := 1, code := none }
def k1c1 : Code := { maxStack := 5, maxLocals := 11, code := code, exceptionTable := #[], attributes := #[] }
def k1m1 : Method := { name := "law", desc := "(IIJI)Z", sig := { parameters := [.int, .int, .long, .int], returnType := some .boolean }, accessFlags := 9, code := some k1c1 }
def k1c2 : Code := { maxStack := 6, maxLocals := 4, code := method_3_code, exceptionTable := #[], attributes := #[] }
def k1m2 : Method := { name := "inside", desc := "(IIJ)Z", sig := { parameters := [.int, .int, .long], returnType := some .boolean }, accessFlags := 10, code := some k1c2 }
/-- com/example/utu/utu/network/IntRangeContainsPinLaw -/
def k1 : Class := { plain "com/example/utu/utu/network/IntRangeContainsPinLaw" (some 0) with
  accessFlags := 49
  interfaces := #[]
  cf := some (fileOf pool1 26 #[] #[{ accessFlags := 1, nameIndex := 5, descriptorIndex := 6, attributes := #[] }, { accessFlags := 9, nameIndex := 38, descriptorIndex := 39, attributes := #[] }, { accessFlags := 10, nameIndex := 29, descriptorIndex := 30, attributes := #[] }] 49 2 #[] #[])
  fields := #[]
  methods := #[k1m0, k1m1, k1m2]
  instanceTypes := #[]
  staticTypes := #[]
  resolved := Array.replicate 43 none
  statics := none }

def pool2 : Array CpInfo := pool [(1, .class_ 2), (0, u "java/lang/Math"), (1, .class_ 6), (1, u "java/lang/Object"), (0, u "<init>"), (0, u "()V"), (89, .class_ 100), (1, u "java/lang/Math$RandomNumberGeneratorHolder"), (20, u "(JJ)J"), (50, u "negativeZeroFloatBits"), (0, u "J"), (2, u "negativeZeroDoubleBits"), (21, u "max"), (2, u "min"), (43, u "$assertionsDisabled"), (0, u "Z"), (88, u "(II)I"), (2, u "twoToTheDoubleScaleDown"), (0, u "D"), (4, u "twoToTheDoubleScaleUp"), (9, u "E"), (3, u "PI"), (2, u "TAU"), (2, u "DEGREES_TO_RADIANS"), (0, u "RADIANS_TO_DEGREES")] 94

def k2m0 : Method := { name := "<init>", desc := "()V", sig := { parameters := [], returnType := none }, accessFlags := 2, code := none }
def k2c1 : Code := { maxStack := 2, maxLocals := 2, code := jdk_29_method_65_code, exceptionTable := #[], attributes := #[] }
def k2m1 : Method := { name := "max", desc := "(II)I", sig := { parameters := [.int, .int], returnType := some .int }, accessFlags := 9, code := some k2c1 }
def k2c2 : Code := { maxStack := 4, maxLocals := 4, code := jdk_29_method_66_code, exceptionTable := #[], attributes := #[] }
def k2m2 : Method := { name := "max", desc := "(JJ)J", sig := { parameters := [.long, .long], returnType := some .long }, accessFlags := 9, code := some k2c2 }
def k2c3 : Code := { maxStack := 2, maxLocals := 2, code := jdk_29_method_69_code, exceptionTable := #[], attributes := #[] }
def k2m3 : Method := { name := "min", desc := "(II)I", sig := { parameters := [.int, .int], returnType := some .int }, accessFlags := 9, code := some k2c3 }
def k2c4 : Code := { maxStack := 4, maxLocals := 4, code := jdk_29_method_70_code, exceptionTable := #[], attributes := #[] }
def k2m4 : Method := { name := "min", desc := "(JJ)J", sig := { parameters := [.long, .long], returnType := some .long }, accessFlags := 9, code := some k2c4 }
/-- java/lang/Math -/
def k2 : Class := { plain "java/lang/Math" (some 0) with
  accessFlags := 49
  interfaces := #[]
  cf := some (fileOf pool2 1 #[.nestMembers #[98]] #[{ accessFlags := 2, nameIndex := 7, descriptorIndex := 8, attributes := #[] }, { accessFlags := 9, nameIndex := 198, descriptorIndex := 335, attributes := #[] }, { accessFlags := 9, nameIndex := 198, descriptorIndex := 121, attributes := #[] }, { accessFlags := 9, nameIndex := 201, descriptorIndex := 335, attributes := #[] }, { accessFlags := 9, nameIndex := 201, descriptorIndex := 121, attributes := #[] }] 49 4 #[] #[{ accessFlags := 25, nameIndex := 354, descriptorIndex := 339, attributes := #[] }, { accessFlags := 25, nameIndex := 358, descriptorIndex := 339, attributes := #[] }, { accessFlags := 25, nameIndex := 361, descriptorIndex := 339, attributes := #[] }, { accessFlags := 26, nameIndex := 364, descriptorIndex := 339, attributes := #[] }, { accessFlags := 26, nameIndex := 365, descriptorIndex := 339, attributes := #[] }, { accessFlags := 26, nameIndex := 172, descriptorIndex := 173, attributes := #[] }, { accessFlags := 26, nameIndex := 176, descriptorIndex := 173, attributes := #[] }, { accessFlags := 8, nameIndex := 344, descriptorIndex := 339, attributes := #[] }, { accessFlags := 8, nameIndex := 338, descriptorIndex := 339, attributes := #[] }, { accessFlags := 4120, nameIndex := 245, descriptorIndex := 246, attributes := #[] }])
  fields := #[{ name := "E", type := .double, accessFlags := 25, slot := 0, constantValue := 0 }, { name := "PI", type := .double, accessFlags := 25, slot := 1, constantValue := 0 }, { name := "TAU", type := .double, accessFlags := 25, slot := 2, constantValue := 0 }, { name := "DEGREES_TO_RADIANS", type := .double, accessFlags := 26, slot := 3, constantValue := 0 }, { name := "RADIANS_TO_DEGREES", type := .double, accessFlags := 26, slot := 4, constantValue := 0 }, { name := "negativeZeroFloatBits", type := .long, accessFlags := 26, slot := 5, constantValue := 0 }, { name := "negativeZeroDoubleBits", type := .long, accessFlags := 26, slot := 6, constantValue := 0 }, { name := "twoToTheDoubleScaleUp", type := .double, accessFlags := 8, slot := 7, constantValue := 0 }, { name := "twoToTheDoubleScaleDown", type := .double, accessFlags := 8, slot := 8, constantValue := 0 }, { name := "$assertionsDisabled", type := .boolean, accessFlags := 4120, slot := 9, constantValue := 0 }]
  methods := #[k2m0, k2m1, k2m2, k2m3, k2m4]
  instanceTypes := #[]
  staticTypes := #[.double, .double, .double, .double, .double, .long, .long, .double, .double, .boolean]
  resolved := Array.replicate 460 none
  statics := none }

def pool3 : Array CpInfo := pool [(1, .methodref 2 3), (0, .class_ 4), (0, .nameAndType 5 6), (0, u "java/lang/Object"), (0, u "<init>"), (0, u "()V"), (3, .class_ 12), (1, u "com/example/utu/utu/network/IntRange"), (9, .fieldref 10 23), (0, .nameAndType 24 25), (0, u "low"), (0, u "I"), (0, .fieldref 10 27), (0, .nameAndType 28 25), (0, u "high"), (4, u "(II)V"), (2, u "BOOLEAN_VALUES"), (0, u "Lcom/example/utu/utu/network/IntRange;"), (6, u "contains"), (0, u "(J)Z")] 24

def k3c0 : Code := { maxStack := 4, maxLocals := 3, code := prog_40_method_1_code, exceptionTable := #[], attributes := #[] }
def k3m0 : Method := { name := "<init>", desc := "(II)V", sig := { parameters := [.int, .int], returnType := none }, accessFlags := 1, code := some k3c0 }
def k3c1 : Code := { maxStack := 4, maxLocals := 3, code := prog_40_method_4_code, exceptionTable := #[], attributes := #[] }
def k3m1 : Method := { name := "contains", desc := "(J)Z", sig := { parameters := [.long], returnType := some .boolean }, accessFlags := 1, code := some k3c1 }
/-- com/example/utu/utu/network/IntRange -/
def k3 : Class := { plain "com/example/utu/utu/network/IntRange" (some 0) with
  accessFlags := 49
  interfaces := #[]
  cf := some (fileOf pool3 10 #[] #[{ accessFlags := 1, nameIndex := 5, descriptorIndex := 33, attributes := #[] }, { accessFlags := 1, nameIndex := 44, descriptorIndex := 45, attributes := #[] }] 49 2 #[] #[{ accessFlags := 24, nameIndex := 36, descriptorIndex := 37, attributes := #[] }, { accessFlags := 18, nameIndex := 24, descriptorIndex := 25, attributes := #[] }, { accessFlags := 18, nameIndex := 28, descriptorIndex := 25, attributes := #[] }])
  fields := #[{ name := "BOOLEAN_VALUES", type := (.object "com/example/utu/utu/network/IntRange"), accessFlags := 24, slot := 0, constantValue := 0 }, { name := "low", type := .int, accessFlags := 18, slot := 0, constantValue := 0 }, { name := "high", type := .int, accessFlags := 18, slot := 1, constantValue := 0 }]
  methods := #[k3m0, k3m1]
  instanceTypes := #[.int, .int]
  staticTypes := #[(.object "com/example/utu/utu/network/IntRange")]
  resolved := Array.replicate 70 none
  statics := none }

def pool4 : Array CpInfo := pool [(1, u "java/lang/Cloneable"), (0, .class_ 1), (0, u "java/lang/Object"), (0, .class_ 3)] 3

/-- java/lang/Cloneable -/
def k4 : Class := { plain "java/lang/Cloneable" (some 0) with
  accessFlags := 1537
  interfaces := #[]
  cf := some (fileOf pool4 2 #[] #[] 1537 4 #[] #[])
  fields := #[]
  methods := #[]
  instanceTypes := #[]
  staticTypes := #[]
  resolved := Array.replicate 8 none
  statics := none }

def pool5 : Array CpInfo := pool [(1, u "java/io/Serializable"), (0, .class_ 1), (0, u "java/lang/Object"), (0, .class_ 3)] 3

/-- java/io/Serializable -/
def k5 : Class := { plain "java/io/Serializable" (some 0) with
  accessFlags := 1537
  interfaces := #[]
  cf := some (fileOf pool5 2 #[] #[] 1537 4 #[] #[])
  fields := #[]
  methods := #[]
  instanceTypes := #[]
  staticTypes := #[]
  resolved := Array.replicate 8 none
  statics := none }

/-- the primitive byte -/
def k6 : Class := { plain "byte" none with kind := .primitive 'B', accessFlags := 0x411 }
/-- [B -/
def k7 : Class := { plain "[B" (some 0) with kind := .array 6 .byte, interfaces := #[4, 5], accessFlags := 1041 }

/-- the primitive int -/
def k8 : Class := { plain "int" none with kind := .primitive 'I', accessFlags := 0x411 }
/-- [I -/
def k9 : Class := { plain "[I" (some 0) with kind := .array 8 .int, interfaces := #[4, 5], accessFlags := 1041 }

def heap : Heap := #[]
def classes : Array Class := #[k0, k1, k2, k3, k4, k5, k6, k7, k8, k9]
def interned : List (Array UInt16 × Addr) := []
def slotsUsed : Nat := 0
def theMethod : MethodId := ⟨1, 1⟩
def args0 : Array Value := #[.int 5, .int 1, .long 1, .int 1]
def aboutOver (below : List Frame) : State where
  vm := { classes := classes, interned := interned.toArray }
  heap := heap
  slotsUsed := slotsUsed
  threads := #[{ frames := .invoking theMethod args0 :: below }]
def below0 : List Frame := [.native { method := ⟨0, 0⟩, args := #[] }]
def about1 : State := aboutOver below0
def p0 : Program := .bare "" "" ""
def e0 : Env := launch0.env 0 0 0
theorem w_frames : about1.frames = Frame.invoking theMethod args0 :: below0 := rfl
set_option maxRecDepth 65536 in
theorem w_args : argsFit about1.vm theMethod args0 = true := by decide +kernel
set_option maxRecDepth 65536 in
theorem w_heap : heapFits about1 = true := by decide +kernel
set_option maxRecDepth 65536 in
theorem w_runnable : about1.curStatus? = some .runnable := by decide +kernel
set_option maxRecDepth 65536 in
theorem w_alone : about1.alone = true := by decide +kernel
set_option maxRecDepth 65536 in
theorem w_named : about1.methodNamed? x = some theMethod := by decide +kernel
set_option maxRecDepth 65536 in
theorem w_hears : about1.hears theMethod below0 = true := by decide +kernel
set_option maxRecDepth 65536 in
theorem w_ripe : about1.ripe theMethod args0 below0 = true := by decide +kernel
theorem w_running : about1.status = .running := rfl
set_option maxRecDepth 65536 in
theorem w_room : about1.hasRoom e0.platform room_1 = true :=
  launch0.hasRoom_least _ room_1 (by decide +kernel) (by decide +kernel) (by decide +kernel) (by decide +kernel) (by decide +kernel) (by decide +kernel)
theorem allAtoms_all (ts : List Jvm.Cond) (a : Array Jvm.Value) (st : Jvm.State) : (allAtoms ts).before a st = ts.all (fun c => c.before a st) := by
  induction ts with
  | nil => rfl
  | cons c t ih =>
    show (Jvm.Cond.and c (allAtoms t)).before a st = _
    rw [Jvm.Cond.before_and, ih, List.all_cons]
def words1 : List Jvm.Cond := Jvm.Cond.code x code maxLocals ret :: tables_1
/-- a 'code' word, met by the world's own term for the bytes: nothing is compared byte by byte -/
theorem code_word {y : MethodName} {bytes : ByteArray} {mx : Nat} {rt : Option FieldType} {a : Array Value} {s : State} {m : MethodId} {meth : Method} {c : Code} (h1 : s.methodNamed? y = some m) (h2 : s.vm.method? m = some meth) (h3 : meth.code = some c) (h4 : c.code = bytes)
    (h5 : (c.maxLocals == mx && c.exceptionTable.isEmpty && decide (c.maxStack ≤ mostOperands) && decide (meth.sig.returnType = rt) && !meth.locks && decide (parseMethodDescriptor y.desc = some meth.sig)) = true) : (Jvm.Cond.code y bytes mx rt).before a s = true := by
  simp only [Bool.and_eq_true, beq_iff_eq, Bool.not_eq_true', decide_eq_true_eq] at h5
  obtain ⟨⟨⟨⟨⟨g1, g2⟩, g3⟩, g4⟩, g5⟩, g6⟩ := h5
  simp [Cond.before, Cond.holds, Cond.value, h1, h2, h3, h4, g1, g2, g3, g4, g5, g6]
def isCode : Jvm.Cond → Bool
  | .code _ _ _ _ => true
  | _ => false
theorem all_split {L : List Jvm.Cond} {P : Jvm.Cond → Bool} (h1 : L.all (fun c => isCode c || P c) = true) (h2 : ∀ c ∈ L.filter isCode, P c = true) : L.all P = true := by
  refine List.all_eq_true.mpr fun c hc => ?_
  have h := List.all_eq_true.mp h1 c hc
  rcases Bool.eq_false_or_eq_true (isCode c) with hi | hi
  · exact h2 c (List.mem_filter.mpr ⟨hc, hi⟩)
  · simpa [hi] using h
set_option maxRecDepth 65536 in
theorem w_c0 : (Jvm.Cond.code x code maxLocals ret).before args0 about1 = true := code_word (m := ⟨1, 1⟩) (meth := k1m1) (c := k1c1) (by decide +kernel) rfl rfl rfl (by decide +kernel)
set_option maxRecDepth 65536 in
theorem w_c1 : (Jvm.Cond.code ({ cls := "java/lang/Math", name := "min", desc := "(II)I" } : Jvm.MethodName) jdk_29_method_69_code (2 : Nat) (Option.some Jvm.ClassFile.FieldType.int)).before args0 about1 = true := code_word (m := ⟨2, 3⟩) (meth := k2m3) (c := k2c3) (by decide +kernel) rfl rfl rfl (by decide +kernel)
set_option maxRecDepth 65536 in
theorem w_c2 : (Jvm.Cond.code ({ cls := "java/lang/Math", name := "max", desc := "(II)I" } : Jvm.MethodName) jdk_29_method_65_code (2 : Nat) (Option.some Jvm.ClassFile.FieldType.int)).before args0 about1 = true := code_word (m := ⟨2, 1⟩) (meth := k2m1) (c := k2c1) (by decide +kernel) rfl rfl rfl (by decide +kernel)
set_option maxRecDepth 65536 in
theorem w_c3 : (Jvm.Cond.code ({ cls := "com/example/utu/utu/network/IntRange", name := "<init>", desc := "(II)V" } : Jvm.MethodName) prog_40_method_1_code (3 : Nat) (Option.none : Option Jvm.ClassFile.FieldType)).before args0 about1 = true := code_word (m := ⟨3, 0⟩) (meth := k3m0) (c := k3c0) (by decide +kernel) rfl rfl rfl (by decide +kernel)
set_option maxRecDepth 65536 in
theorem w_c4 : (Jvm.Cond.code ({ cls := "java/lang/Object", name := "<init>", desc := "()V" } : Jvm.MethodName) object_method_1_code (1 : Nat) (Option.none : Option Jvm.ClassFile.FieldType)).before args0 about1 = true := code_word (m := ⟨0, 0⟩) (meth := k0m0) (c := k0c0) (by decide +kernel) rfl rfl rfl (by decide +kernel)
set_option maxRecDepth 65536 in
theorem w_c5 : (Jvm.Cond.code ({ cls := "com/example/utu/utu/network/IntRange", name := "contains", desc := "(J)Z" } : Jvm.MethodName) prog_40_method_4_code (3 : Nat) (Option.some Jvm.ClassFile.FieldType.boolean)).before args0 about1 = true := code_word (m := ⟨3, 1⟩) (meth := k3m1) (c := k3c1) (by decide +kernel) rfl rfl rfl (by decide +kernel)
set_option maxRecDepth 65536 in
theorem w_c6 : (Jvm.Cond.code ({ cls := "com/example/utu/utu/network/IntRangeContainsPinLaw", name := "inside", desc := "(IIJ)Z" } : Jvm.MethodName) method_3_code (4 : Nat) (Option.some Jvm.ClassFile.FieldType.boolean)).before args0 about1 = true := code_word (m := ⟨1, 2⟩) (meth := k1m2) (c := k1c2) (by decide +kernel) rfl rfl rfl (by decide +kernel)
set_option maxRecDepth 65536 in
theorem w_c7 : (Jvm.Cond.code ({ cls := "java/lang/Math", name := "min", desc := "(JJ)J" } : Jvm.MethodName) jdk_29_method_70_code (4 : Nat) (Option.some Jvm.ClassFile.FieldType.long)).before args0 about1 = true := code_word (m := ⟨2, 4⟩) (meth := k2m4) (c := k2c4) (by decide +kernel) rfl rfl rfl (by decide +kernel)
set_option maxRecDepth 65536 in
theorem w_c8 : (Jvm.Cond.code ({ cls := "java/lang/Math", name := "max", desc := "(JJ)J" } : Jvm.MethodName) jdk_29_method_66_code (4 : Nat) (Option.some Jvm.ClassFile.FieldType.long)).before args0 about1 = true := code_word (m := ⟨2, 2⟩) (meth := k2m2) (c := k2c2) (by decide +kernel) rfl rfl rfl (by decide +kernel)
def codes1 : List Jvm.Cond := [Jvm.Cond.code x code maxLocals ret, Jvm.Cond.code ({ cls := "java/lang/Math", name := "min", desc := "(II)I" } : Jvm.MethodName) jdk_29_method_69_code (2 : Nat) (Option.some Jvm.ClassFile.FieldType.int), Jvm.Cond.code ({ cls := "java/lang/Math", name := "max", desc := "(II)I" } : Jvm.MethodName) jdk_29_method_65_code (2 : Nat) (Option.some Jvm.ClassFile.FieldType.int), Jvm.Cond.code ({ cls := "com/example/utu/utu/network/IntRange", name := "<init>", desc := "(II)V" } : Jvm.MethodName) prog_40_method_1_code (3 : Nat) (Option.none : Option Jvm.ClassFile.FieldType), Jvm.Cond.code ({ cls := "java/lang/Object", name := "<init>", desc := "()V" } : Jvm.MethodName) object_method_1_code (1 : Nat) (Option.none : Option Jvm.ClassFile.FieldType), Jvm.Cond.code ({ cls := "com/example/utu/utu/network/IntRange", name := "contains", desc := "(J)Z" } : Jvm.MethodName) prog_40_method_4_code (3 : Nat) (Option.some Jvm.ClassFile.FieldType.boolean), Jvm.Cond.code ({ cls := "com/example/utu/utu/network/IntRangeContainsPinLaw", name := "inside", desc := "(IIJ)Z" } : Jvm.MethodName) method_3_code (4 : Nat) (Option.some Jvm.ClassFile.FieldType.boolean), Jvm.Cond.code ({ cls := "java/lang/Math", name := "min", desc := "(JJ)J" } : Jvm.MethodName) jdk_29_method_70_code (4 : Nat) (Option.some Jvm.ClassFile.FieldType.long), Jvm.Cond.code ({ cls := "java/lang/Math", name := "max", desc := "(JJ)J" } : Jvm.MethodName) jdk_29_method_66_code (4 : Nat) (Option.some Jvm.ClassFile.FieldType.long)]
set_option maxRecDepth 65536 in
theorem codes_eq : words1.filter isCode = codes1 := rfl
theorem w_codes : ∀ c ∈ words1.filter isCode, c.before args0 about1 = true := by
  rw [codes_eq]
  intro c hc
  simp only [codes1, List.mem_cons, List.not_mem_nil, or_false] at hc
  rcases hc with rfl | rfl | rfl | rfl | rfl | rfl | rfl | rfl | rfl
  · exact w_c0
  · exact w_c1
  · exact w_c2
  · exact w_c3
  · exact w_c4
  · exact w_c5
  · exact w_c6
  · exact w_c7
  · exact w_c8
set_option maxRecDepth 65536 in
theorem w_t1 : (words1.take 24).all (fun c => isCode c || c.before args0 about1) = true := by decide +kernel
set_option maxRecDepth 65536 in
theorem w_t2 : (words1.drop 24).all (fun c => isCode c || c.before args0 about1) = true := by decide +kernel
theorem w_tables : (allAtoms (Jvm.Cond.code x code maxLocals ret :: tables_1)).before args0 about1 = true := by
  rw [allAtoms_all]
  show words1.all (fun c => c.before args0 about1) = true
  refine all_split ?_ w_codes
  rw [← List.take_append_drop 24 words1, List.all_append, w_t1, w_t2]
  rfl
set_option maxRecDepth 65536 in
theorem w_case : (Jvm.Cond.and given_1 narrow_1).before args0 about1 = true := by decide +kernel
theorem w_applies : (headSpec (Jvm.Cond.code x code maxLocals ret :: tables_1) room_1).applies x e0.platform about1 = true :=
  (Spec.applies_iff w_frames).mpr ⟨w_running, w_runnable, w_alone, w_named, w_hears, w_ripe, w_room, w_tables⟩
theorem atStart : AtStart classFile x code maxLocals ret World_1 tables_1 room_1 Calls_1 rest_1 Pre_1 launch0 p0 e0 about1 theMethod args0 below0 :=
  ⟨lists_1, trivial, launch0.admits_env _ _ _, launch0.least_env, fairChoices_fair.cas, fairChoices_fair.clock, w_frames, w_args, w_heap, w_applies, trivial, trivial, w_case⟩
end start1
theorem witness_1 : WitnessClaimed_1 := ⟨start1.p0, start1.e0, start1.about1, start1.theMethod, start1.args0, start1.below0, start1.atStart⟩
end Jvm.Pilot.@@N@@
