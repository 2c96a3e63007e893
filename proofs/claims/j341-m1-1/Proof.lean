import JvmDerived
import JvmDerived.Pilot.@@N@@Statement
import JvmDerived.Pilot.@@N@@Code
set_option linter.unusedVariables false
set_option linter.unusedSimpArgs false
namespace Jvm.RoadKit
open Sem ClassFile Op Lib Jvm.Stand Jvm.Free Jvm.LawKit
section New
variable {p : Program} {l : Launch} {e : Env} {R : Room} {s : State} {m : MethodId} {args : Array Value} {below : List Frame} {meth : Method} {c : Code} {T : State} {locs : List Loc} {cells slots : Nat}
theorem retI (X : Stand p l e R s m args below meth c T locs cells slots) (hx : p.tables.exec = Jvm.exec) {pc : Nat} {Ls : Array Slot} {z : Int32} {rest : List Value} (hret : meth.sig.returnType = some .int) (hd : decode c.code pc = .ok (.ireturn, 1)) {fs : List Frame}
    (hl : ∀ (f : JFrame) (acts : List Action), f.method = m → f.locked = none → f.entered = [] → (doReturn e (T.setTop f) acts (some (.int z))).1 = T.setFrames fs) : Steps p.tables e below (T.setTop (mkF m pc Ls (.int z :: rest))) (T.setFrames fs) := by
  have hm' : T.vm.method? m = some meth := X.method'
  have hn : narrow .int (.int z) = .int z := rfl
  show Steps p.tables e below (T.setTop { method := m, pc := pc, locals := Ls, stack := _ :: rest, locked := none }) _
  jvm_step X.here [X.here.top, hx, hd, hm', hret, hn]
  first | (intro acts; rw [hl _ acts rfl rfl rfl]) | rw [hl _ _ rfl rfl rfl]
  exact Steps.refl _
end New
end Jvm.RoadKit
namespace Jvm.Pilot.@@N@@
open Jvm Jvm.ClassFile Sem Op Lib Jvm.Free Jvm.Stand Jvm.LawKit Jvm.RoadKit Bundle Jvm.Pilot.@@N@@.Jvm.D
section OwnKit
variable {p : Program} {l : Launch} {e : Env} {R : Room} {s : State} {m : MethodId} {args : Array Value} {below : List Frame} {meth : Method} {c : Code} {Z : State} {own nm : String} {bytes : ByteArray} {maxL : Nat} {rt : Option FieldType} {n0 : Nat} {h0 : Heap} {ws : List Addr} {Q : Option Value → Heap → Prop} {cells slots : Nat} {h : Heap} {pc pc' : Nat} {ls ls' : Array Slot} {st : List Value} {a0 : Array Value}
/-- what is fixed in a body -/
def Cx (p : Program) (s : State) (m : MethodId) (meth : Method) (c : Code) (Z : State) (own nm : String) (bytes : ByteArray) (maxL : Nat) (rt : Option FieldType) (n0 : Nat) (h0 : Heap) (ws : List Addr) : Prop :=
  (p.tables.exec = Jvm.exec ∧ c.code = bytes ∧ c.maxLocals = maxL ∧ s.vm.findClass own = some m.cls ∧ Z.Warmed39 s.vm) ∧ (meth.sig.returnType = rt ∧ meth.locks = false ∧ meth.name = nm ∧ n0 ≤ h0.size ∧ ∀ x ∈ ws, n0 ≤ x)
/-- from every state that stands here with the heap h at the frame g, the run returns and Q holds at the end -/
def G (p : Program) (l : Launch) (e : Env) (R : Room) (s : State) (m : MethodId) (args : Array Value) (below : List Frame) (meth : Method) (c : Code) (n0 : Nat) (h0 : Heap) (ws : List Addr) (Q : Option Value → Heap → Prop) (cells slots : Nat) (h : Heap) (g : JFrame) : Prop :=
  ∀ (T : State) (locs : List Loc) (k n : Nat), Stand p l e R s m args below meth c T locs k n → k ≤ cells → n ≤ slots → T.heap = h → Fr n0 locs → Keep h0 h ws →
    ∃ (U : State) (v : Option Value) (L : List Loc), Steps p.tables e below (T.setTop g) U ∧ U.status = .running ∧ Ended U below (.returned v) ∧ (Fr n0 L ∧ Keep h0 U.heap ws ∧ Q v U.heap) ∧ FrameEnd s (.returned v) U L R.cells R.slots
/-- the contract of a callee: called with these arguments at this heap it returns, writes old cells of ws alone, and Q holds -/
def Mt (l : Launch) (Z : State) (y : MethodName) (bytes : ByteArray) (maxL : Nat) (rt : Option FieldType) (cs : List Jvm.Cond) (rm : Room) (n0 : Nat) (as' : Array Value) (h : Heap) (ws : List Addr) (Q : Option Value → Heap → Prop) : Prop :=
  MetFree l y (head1 (Jvm.Cond.code y bytes maxL rt :: cs) rm) (fun a U => a = as' ∧ Z.Warmed39 U.vm ∧ U.heap = h) (fun _ _ _ _ _ => True) (fun _ U o U' => ∃ v L, o = .returned v ∧ (Fr n0 L ∧ Keep h U'.heap ws ∧ Q v U'.heap) ∧ FrameEnd U o U' L rm.cells rm.slots)
def RV (Q : Heap → Prop) : Option Value → Heap → Prop := fun v h => v = none ∧ Q h
def RI (Q : Int32 → Heap → Prop) : Option Value → Heap → Prop := fun v h => ∃ z : Int32, v = some (.int z) ∧ Q z h
def RJ (Q : Int64 → Heap → Prop) : Option Value → Heap → Prop := fun v h => ∃ z : Int64, v = some (.long z) ∧ Q z h
def RA (Q : Addr → Heap → Prop) : Option Value → Heap → Prop := fun v h => ∃ z : Addr, v = some (.ref z) ∧ Q z h
theorem G.mono {g : JFrame} {cells' slots' : Nat} (hc : cells ≤ cells') (hs : slots ≤ slots') (kk : G p l e R s m args below meth c n0 h0 ws Q cells' slots' h g) : G p l e R s m args below meth c n0 h0 ws Q cells slots h g := fun T locs k n X hk hn eT N K => kk T locs k n X (Nat.le_trans hk hc) (Nat.le_trans hn hs) eT N K
theorem G.stepX {g g' : JFrame} (stp : ∀ T locs k n t, Stand p l e R s m args below meth c T locs k n → T.heap = h → Steps p.tables e below (T.setTop g') t → Steps p.tables e below (T.setTop g) t) (kk : G p l e R s m args below meth c n0 h0 ws Q cells slots h g') : G p l e R s m args below meth c n0 h0 ws Q cells slots h g := fun T locs k n X hk hn eT N K => by
  obtain ⟨U, v, L, hs, r⟩ := kk T locs k n X hk hn eT N K
  exact ⟨U, v, L, stp T locs k n U X eT hs, r⟩
theorem G.stepT {g g' : JFrame} (stp : ∀ T locs k n, Stand p l e R s m args below meth c T locs k n → T.heap = h → ∃ T', Stand p l e R s m args below meth c T' locs k n ∧ T'.heap = h ∧ ∀ t, Steps p.tables e below (T'.setTop g') t → Steps p.tables e below (T.setTop g) t) (kk : G p l e R s m args below meth c n0 h0 ws Q cells slots h g') : G p l e R s m args below meth c n0 h0 ws Q cells slots h g := fun T locs k n X hk hn eT N K => by
  obtain ⟨T', X', e', stp'⟩ := stp T locs k n X eT
  obtain ⟨U, v, L, hs, r⟩ := kk T' locs k n X' hk hn e' N K
  exact ⟨U, v, L, stp' U hs, r⟩
theorem own_fr {a : Addr} (B : Cx p s m meth c Z own nm bytes maxL rt n0 h0 ws) (ha : a ∈ ws ∨ h0.size ≤ a) : n0 ≤ a := ha.elim (B.2.2.2.2.2 a) (Nat.le_trans B.2.2.2.2.1)
theorem G.wr {g g' : JFrame} {a : Addr} {sl : Nat} {v : Value} (B : Cx p s m meth c Z own nm bytes maxL rt n0 h0 ws) (ha : a ∈ ws ∨ h0.size ≤ a) (stp : ∀ T locs k n, Stand p l e R s m args below meth c T locs k n → T.heap = h → ∃ T' h', Stand p l e R s m args below meth c T' (locs ++ [⟨a, sl⟩]) k n ∧ T'.heap = h' ∧ Wr h h' a sl v ∧ ∀ t, Steps p.tables e below (T'.setTop g') t → Steps p.tables e below (T.setTop g) t) (kk : ∀ h', Wr h h' a sl v → G p l e R s m args below meth c n0 h0 ws Q cells slots h' g') : G p l e R s m args below meth c n0 h0 ws Q cells slots h g := fun T locs k n X hk hn eT N K => by
  obtain ⟨T', h', X', e', W, stp'⟩ := stp T locs k n X eT
  obtain ⟨U, v, L, hs, r⟩ := kk h' W T' _ k n X' hk hn e' (Fr.snoc X' N (own_fr B ha)) (K.wr W ha)
  exact ⟨U, v, L, stp' U hs, r⟩
theorem G.out {g : JFrame} {v : Option Value} (B : Cx p s m meth c Z own nm bytes maxL rt n0 h0 ws) (hv : rt = none → v = none) (hc : cells ≤ R.cells) (hs : slots ≤ R.slots) (hQ : Q v h)
    (stp : ∀ T locs k n fs, Stand p l e R s m args below meth c T locs k n → (∀ (f : JFrame) (acts : List Action), f.method = m → f.locked = none → f.entered = [] → (doReturn e (T.setTop f) acts v).1 = T.setFrames fs) → Steps p.tables e below (T.setTop g) (T.setFrames fs)) : G p l e R s m args below meth c n0 h0 ws Q cells slots h g := fun T locs k n X hk hn eT N K => by
  obtain ⟨fs, hr, hrun, hended, hW, hsame⟩ := X.leave (v := v) (fun q => hv (B.2.1.symm.trans q)) B.2.2.1
  refine ⟨T.setFrames fs, v, locs, stp T locs k n fs X hr, hrun, hended, ⟨N, ?_, ?_⟩, ⟨_, rfl⟩, hW, hsame.mono (Nat.le_trans hk hc) (Nat.le_trans hn hs)⟩
  · show Keep h0 T.heap ws
    rw [eT]; exact K
  · show Q v T.heap
    rw [eT]; exact hQ
theorem Mt.intro {y : MethodName} {cs : List Jvm.Cond} {as' : Array Value} (hpl : plainFor y = true) (hn : n0 ≤ h0.size) (hws : ∀ x ∈ ws, n0 ≤ x)
    (body : ∀ p e s m below meth c, Cx p s m meth c Z y.cls y.name bytes maxL rt n0 h0 ws → G p l e R s m as' below meth c n0 h0 ws Q 0 0 h0 (entryFrame m as' maxL)) : Mt l Z y bytes maxL rt cs R n0 as' h0 ws Q := by
  refine MetFree.of_bodySF hpl hisR ?_
  intro p e s m args below meth c s₁ Bd hml0 hP hK
  obtain ⟨rfl, hZ, hh⟩ := hP
  have B : Cx p s m meth c Z y.cls y.name bytes maxL rt n0 h0 ws := ⟨⟨Bd.exec, Bd.bytes, hml0, findClass_of_methodNamed Bd.named, hZ⟩, Bd.returns, Bd.notSynchronized, (name_of_methodNamed Bd.named Bd.method).1, hn, hws⟩
  have X0 : Stand p l e R s m args below meth c s₁ [] 0 0 := Stand.of_body Bd
  have e0 : s₁.heap = h0 := by rw [← hh, Bd.state]; rfl
  obtain ⟨U, v, L, hs, h1, h2, h3, h4⟩ := body p e s m below meth c B s₁ [] 0 0 X0 (Nat.le_refl _) (Nat.le_refl _) e0 (Fr.nil n0) (Keep.refl _ _)
  exact ⟨U, _, hs, h1, h2, v, L, rfl, h3, h4⟩
theorem G.entry {g g' : JFrame} (q : g = g') (kk : G p l e R s m args below meth c n0 h0 ws Q cells slots h g') : G p l e R s m args below meth c n0 h0 ws Q cells slots h g := q ▸ kk
theorem G.iloadN {k : Fin 4} {v : Int32} (B : Cx p s m meth c Z own nm bytes maxL rt n0 h0 ws) (hd : decode bytes pc = .ok (.iload_n k, 1)) (hl : ls[k.val]? = some (.val (.int v))) (hp : pc + 1 = pc') (kk : G p l e R s m args below meth c n0 h0 ws Q cells slots h (mkF m pc' ls (.int v :: st))) : G p l e R s m args below meth c n0 h0 ws Q cells slots h (mkF m pc ls st) := by
  subst hp
  exact G.stepX (fun T locs k n t X _ q => XS.iloadN X.here B.1.1 rfl (hb B.1.2.1 hd) hl q) kk
theorem G.iload {k : Nat} {v : Int32} (B : Cx p s m meth c Z own nm bytes maxL rt n0 h0 ws) (hd : decode bytes pc = .ok (.iload k, 2)) (hl : ls[k]? = some (.val (.int v))) (hp : pc + 2 = pc') (kk : G p l e R s m args below meth c n0 h0 ws Q cells slots h (mkF m pc' ls (.int v :: st))) : G p l e R s m args below meth c n0 h0 ws Q cells slots h (mkF m pc ls st) := by
  subst hp
  exact G.stepX (fun T locs k n t X _ q => XS.iload X.here B.1.1 rfl (hb B.1.2.1 hd) hl q) kk
theorem G.lloadN {k : Fin 4} {v : Int64} (B : Cx p s m meth c Z own nm bytes maxL rt n0 h0 ws) (hd : decode bytes pc = .ok (.lload_n k, 1)) (hl : ls[k.val]? = some (.val (.long v))) (hp : pc + 1 = pc') (kk : G p l e R s m args below meth c n0 h0 ws Q cells slots h (mkF m pc' ls (.long v :: st))) : G p l e R s m args below meth c n0 h0 ws Q cells slots h (mkF m pc ls st) := by
  subst hp
  exact G.stepX (fun T locs k n t X _ q => XS.lloadN X.here B.1.1 rfl (hb B.1.2.1 hd) hl q) kk
theorem G.lload {k : Nat} {v : Int64} (B : Cx p s m meth c Z own nm bytes maxL rt n0 h0 ws) (hd : decode bytes pc = .ok (.lload k, 2)) (hl : ls[k]? = some (.val (.long v))) (hp : pc + 2 = pc') (kk : G p l e R s m args below meth c n0 h0 ws Q cells slots h (mkF m pc' ls (.long v :: st))) : G p l e R s m args below meth c n0 h0 ws Q cells slots h (mkF m pc ls st) := by
  subst hp
  exact G.stepX (fun T locs k n t X _ q => XS.lload X.here B.1.1 rfl (hb B.1.2.1 hd) hl q) kk
theorem G.aloadN {k : Fin 4} {v : Value} (B : Cx p s m meth c Z own nm bytes maxL rt n0 h0 ws) (hd : decode bytes pc = .ok (.aload_n k, 1)) (hl : ls[k.val]? = some (.val v)) (hv : v.isRef = true) (hp : pc + 1 = pc') (kk : G p l e R s m args below meth c n0 h0 ws Q cells slots h (mkF m pc' ls (v :: st))) : G p l e R s m args below meth c n0 h0 ws Q cells slots h (mkF m pc ls st) := by
  subst hp
  exact G.stepX (fun T locs k n t X _ q => XS.aloadN X.here B.1.1 rfl (hb B.1.2.1 hd) hl hv q) kk
theorem G.aload {k : Nat} {v : Value} (B : Cx p s m meth c Z own nm bytes maxL rt n0 h0 ws) (hd : decode bytes pc = .ok (.aload k, 2)) (hl : ls[k]? = some (.val v)) (hv : v.isRef = true) (hp : pc + 2 = pc') (kk : G p l e R s m args below meth c n0 h0 ws Q cells slots h (mkF m pc' ls (v :: st))) : G p l e R s m args below meth c n0 h0 ws Q cells slots h (mkF m pc ls st) := by
  subst hp
  exact G.stepX (fun T locs k n t X _ q => XS.aload X.here B.1.1 rfl (hb B.1.2.1 hd) hl hv q) kk
theorem G.istoreN {k : Fin 4} {v : Int32} (B : Cx p s m meth c Z own nm bytes maxL rt n0 h0 ws) (hd : decode bytes pc = .ok (.istore_n k, 1)) (hl : storeLocals ls k.val (.int v) = some ls') (hp : pc + 1 = pc') (kk : G p l e R s m args below meth c n0 h0 ws Q cells slots h (mkF m pc' ls' st)) : G p l e R s m args below meth c n0 h0 ws Q cells slots h (mkF m pc ls (.int v :: st)) := by
  subst hp
  exact G.stepX (fun T locs k n t X _ q => XS.istoreN X.here B.1.1 rfl (hb B.1.2.1 hd) rfl hl q) kk
theorem G.istore {k : Nat} {v : Int32} (B : Cx p s m meth c Z own nm bytes maxL rt n0 h0 ws) (hd : decode bytes pc = .ok (.istore k, 2)) (hl : storeLocals ls k (.int v) = some ls') (hp : pc + 2 = pc') (kk : G p l e R s m args below meth c n0 h0 ws Q cells slots h (mkF m pc' ls' st)) : G p l e R s m args below meth c n0 h0 ws Q cells slots h (mkF m pc ls (.int v :: st)) := by
  subst hp
  exact G.stepX (fun T locs k n t X _ q => XS.istore X.here B.1.1 rfl (hb B.1.2.1 hd) rfl hl q) kk
theorem G.lstoreN {k : Fin 4} {v : Int64} (B : Cx p s m meth c Z own nm bytes maxL rt n0 h0 ws) (hd : decode bytes pc = .ok (.lstore_n k, 1)) (hl : storeLocals ls k.val (.long v) = some ls') (hp : pc + 1 = pc') (kk : G p l e R s m args below meth c n0 h0 ws Q cells slots h (mkF m pc' ls' st)) : G p l e R s m args below meth c n0 h0 ws Q cells slots h (mkF m pc ls (.long v :: st)) := by
  subst hp
  exact G.stepX (fun T locs k n t X _ q => XS.lstoreN X.here B.1.1 rfl (hb B.1.2.1 hd) rfl hl q) kk
theorem G.lstore {k : Nat} {v : Int64} (B : Cx p s m meth c Z own nm bytes maxL rt n0 h0 ws) (hd : decode bytes pc = .ok (.lstore k, 2)) (hl : storeLocals ls k (.long v) = some ls') (hp : pc + 2 = pc') (kk : G p l e R s m args below meth c n0 h0 ws Q cells slots h (mkF m pc' ls' st)) : G p l e R s m args below meth c n0 h0 ws Q cells slots h (mkF m pc ls (.long v :: st)) := by
  subst hp
  exact G.stepX (fun T locs k n t X _ q => XS.lstore X.here B.1.1 rfl (hb B.1.2.1 hd) rfl hl q) kk
theorem G.astoreN {k : Fin 4} {v : Value} (B : Cx p s m meth c Z own nm bytes maxL rt n0 h0 ws) (hd : decode bytes pc = .ok (.astore_n k, 1)) (hv : v.isRef = true) (hl : storeLocals ls k.val v = some ls') (hp : pc + 1 = pc') (kk : G p l e R s m args below meth c n0 h0 ws Q cells slots h (mkF m pc' ls' st)) : G p l e R s m args below meth c n0 h0 ws Q cells slots h (mkF m pc ls (v :: st)) := by
  subst hp
  exact G.stepX (fun T locs k n t X _ q => XS.astoreN X.here B.1.1 rfl (hb B.1.2.1 hd) rfl hv hl q) kk
theorem G.astore {k : Nat} {v : Value} (B : Cx p s m meth c Z own nm bytes maxL rt n0 h0 ws) (hd : decode bytes pc = .ok (.astore k, 2)) (hv : v.isRef = true) (hl : storeLocals ls k v = some ls') (hp : pc + 2 = pc') (kk : G p l e R s m args below meth c n0 h0 ws Q cells slots h (mkF m pc' ls' st)) : G p l e R s m args below meth c n0 h0 ws Q cells slots h (mkF m pc ls (v :: st)) := by
  subst hp
  exact G.stepX (fun T locs k n t X _ q => XS.astore X.here B.1.1 rfl (hb B.1.2.1 hd) rfl hv hl q) kk
theorem G.iconst {i : Int} {z : Int32} (B : Cx p s m meth c Z own nm bytes maxL rt n0 h0 ws) (hd : decode bytes pc = .ok (.iconst i, 1)) (hz : Int32.ofInt i = z) (hp : pc + 1 = pc') (kk : G p l e R s m args below meth c n0 h0 ws Q cells slots h (mkF m pc' ls (.int z :: st))) : G p l e R s m args below meth c n0 h0 ws Q cells slots h (mkF m pc ls st) := by
  subst hp hz
  exact G.stepX (fun T locs k n t X _ q => XS.iconst X.here B.1.1 rfl (hb B.1.2.1 hd) q) kk
theorem G.bipush {i : Int} {z : Int32} (B : Cx p s m meth c Z own nm bytes maxL rt n0 h0 ws) (hd : decode bytes pc = .ok (.bipush i, 2)) (hz : (Int8.ofInt i).toInt32 = z) (hp : pc + 2 = pc') (kk : G p l e R s m args below meth c n0 h0 ws Q cells slots h (mkF m pc' ls (.int z :: st))) : G p l e R s m args below meth c n0 h0 ws Q cells slots h (mkF m pc ls st) := by
  subst hp hz
  exact G.stepX (fun T locs k n t X _ q => XS.bipush X.here B.1.1 rfl (hb B.1.2.1 hd) q) kk
theorem G.sipush {i : Int} {z : Int32} (B : Cx p s m meth c Z own nm bytes maxL rt n0 h0 ws) (hd : decode bytes pc = .ok (.sipush i, 3)) (hz : (Int16.ofInt i).toInt32 = z) (hp : pc + 3 = pc') (kk : G p l e R s m args below meth c n0 h0 ws Q cells slots h (mkF m pc' ls (.int z :: st))) : G p l e R s m args below meth c n0 h0 ws Q cells slots h (mkF m pc ls st) := by
  subst hp hz
  exact G.stepX (fun T locs k n t X _ q => XS.sipush X.here B.1.1 rfl (hb B.1.2.1 hd) q) kk
theorem G.lconst {i : Fin 2} {z : Int64} (B : Cx p s m meth c Z own nm bytes maxL rt n0 h0 ws) (hd : decode bytes pc = .ok (.lconst i, 1)) (hz : Int64.ofNat i = z) (hp : pc + 1 = pc') (kk : G p l e R s m args below meth c n0 h0 ws Q cells slots h (mkF m pc' ls (.long z :: st))) : G p l e R s m args below meth c n0 h0 ws Q cells slots h (mkF m pc ls st) := by
  subst hp hz
  exact G.stepX (fun T locs k n t X _ q => XS.lconst X.here B.1.1 rfl (hb B.1.2.1 hd) q) kk
theorem G.aconstNull (B : Cx p s m meth c Z own nm bytes maxL rt n0 h0 ws) (hd : decode bytes pc = .ok (.aconst_null, 1)) (hp : pc + 1 = pc') (kk : G p l e R s m args below meth c n0 h0 ws Q cells slots h (mkF m pc' ls (.null :: st))) : G p l e R s m args below meth c n0 h0 ws Q cells slots h (mkF m pc ls st) := by
  subst hp
  exact G.stepX (fun T locs k n t X _ q => XS.aconstNull X.here B.1.1 rfl (hb B.1.2.1 hd) q) kk
theorem G.iadd {x y : Int32} (B : Cx p s m meth c Z own nm bytes maxL rt n0 h0 ws) (hd : decode bytes pc = .ok (.iadd, 1)) (hp : pc + 1 = pc') (kk : G p l e R s m args below meth c n0 h0 ws Q cells slots h (mkF m pc' ls (.int (x + y) :: st))) : G p l e R s m args below meth c n0 h0 ws Q cells slots h (mkF m pc ls (.int y :: .int x :: st)) := by
  subst hp
  exact G.stepX (fun T locs k n t X _ q => XS.iadd X.here B.1.1 rfl (hb B.1.2.1 hd) rfl q) kk
theorem G.ladd {x y : Int64} (B : Cx p s m meth c Z own nm bytes maxL rt n0 h0 ws) (hd : decode bytes pc = .ok (.ladd, 1)) (hp : pc + 1 = pc') (kk : G p l e R s m args below meth c n0 h0 ws Q cells slots h (mkF m pc' ls (.long (x + y) :: st))) : G p l e R s m args below meth c n0 h0 ws Q cells slots h (mkF m pc ls (.long y :: .long x :: st)) := by
  subst hp
  exact G.stepX (fun T locs k n t X _ q => XS.ladd X.here B.1.1 rfl (hb B.1.2.1 hd) rfl q) kk
theorem G.isub {x y : Int32} (B : Cx p s m meth c Z own nm bytes maxL rt n0 h0 ws) (hd : decode bytes pc = .ok (.isub, 1)) (hp : pc + 1 = pc') (kk : G p l e R s m args below meth c n0 h0 ws Q cells slots h (mkF m pc' ls (.int (x - y) :: st))) : G p l e R s m args below meth c n0 h0 ws Q cells slots h (mkF m pc ls (.int y :: .int x :: st)) := by
  subst hp
  exact G.stepX (fun T locs k n t X _ q => XS.isub X.here B.1.1 rfl (hb B.1.2.1 hd) rfl q) kk
theorem G.lsub {x y : Int64} (B : Cx p s m meth c Z own nm bytes maxL rt n0 h0 ws) (hd : decode bytes pc = .ok (.lsub, 1)) (hp : pc + 1 = pc') (kk : G p l e R s m args below meth c n0 h0 ws Q cells slots h (mkF m pc' ls (.long (x - y) :: st))) : G p l e R s m args below meth c n0 h0 ws Q cells slots h (mkF m pc ls (.long y :: .long x :: st)) := by
  subst hp
  exact G.stepX (fun T locs k n t X _ q => XS.lsub X.here B.1.1 rfl (hb B.1.2.1 hd) rfl q) kk
theorem G.imul {x y : Int32} (B : Cx p s m meth c Z own nm bytes maxL rt n0 h0 ws) (hd : decode bytes pc = .ok (.imul, 1)) (hp : pc + 1 = pc') (kk : G p l e R s m args below meth c n0 h0 ws Q cells slots h (mkF m pc' ls (.int (x * y) :: st))) : G p l e R s m args below meth c n0 h0 ws Q cells slots h (mkF m pc ls (.int y :: .int x :: st)) := by
  subst hp
  exact G.stepX (fun T locs k n t X _ q => XS.imul X.here B.1.1 rfl (hb B.1.2.1 hd) rfl q) kk
theorem G.lmul {x y : Int64} (B : Cx p s m meth c Z own nm bytes maxL rt n0 h0 ws) (hd : decode bytes pc = .ok (.lmul, 1)) (hp : pc + 1 = pc') (kk : G p l e R s m args below meth c n0 h0 ws Q cells slots h (mkF m pc' ls (.long (x * y) :: st))) : G p l e R s m args below meth c n0 h0 ws Q cells slots h (mkF m pc ls (.long y :: .long x :: st)) := by
  subst hp
  exact G.stepX (fun T locs k n t X _ q => XS.lmul X.here B.1.1 rfl (hb B.1.2.1 hd) rfl q) kk
theorem G.iand {x y : Int32} (B : Cx p s m meth c Z own nm bytes maxL rt n0 h0 ws) (hd : decode bytes pc = .ok (.iand, 1)) (hp : pc + 1 = pc') (kk : G p l e R s m args below meth c n0 h0 ws Q cells slots h (mkF m pc' ls (.int (x &&& y) :: st))) : G p l e R s m args below meth c n0 h0 ws Q cells slots h (mkF m pc ls (.int y :: .int x :: st)) := by
  subst hp
  exact G.stepX (fun T locs k n t X _ q => XS.iand X.here B.1.1 rfl (hb B.1.2.1 hd) rfl q) kk
theorem G.land {x y : Int64} (B : Cx p s m meth c Z own nm bytes maxL rt n0 h0 ws) (hd : decode bytes pc = .ok (.land, 1)) (hp : pc + 1 = pc') (kk : G p l e R s m args below meth c n0 h0 ws Q cells slots h (mkF m pc' ls (.long (x &&& y) :: st))) : G p l e R s m args below meth c n0 h0 ws Q cells slots h (mkF m pc ls (.long y :: .long x :: st)) := by
  subst hp
  exact G.stepX (fun T locs k n t X _ q => XS.land X.here B.1.1 rfl (hb B.1.2.1 hd) rfl q) kk
theorem G.ior {x y : Int32} (B : Cx p s m meth c Z own nm bytes maxL rt n0 h0 ws) (hd : decode bytes pc = .ok (.ior, 1)) (hp : pc + 1 = pc') (kk : G p l e R s m args below meth c n0 h0 ws Q cells slots h (mkF m pc' ls (.int (x ||| y) :: st))) : G p l e R s m args below meth c n0 h0 ws Q cells slots h (mkF m pc ls (.int y :: .int x :: st)) := by
  subst hp
  exact G.stepX (fun T locs k n t X _ q => XS.ior X.here B.1.1 rfl (hb B.1.2.1 hd) rfl q) kk
theorem G.lor {x y : Int64} (B : Cx p s m meth c Z own nm bytes maxL rt n0 h0 ws) (hd : decode bytes pc = .ok (.lor, 1)) (hp : pc + 1 = pc') (kk : G p l e R s m args below meth c n0 h0 ws Q cells slots h (mkF m pc' ls (.long (x ||| y) :: st))) : G p l e R s m args below meth c n0 h0 ws Q cells slots h (mkF m pc ls (.long y :: .long x :: st)) := by
  subst hp
  exact G.stepX (fun T locs k n t X _ q => XS.lor X.here B.1.1 rfl (hb B.1.2.1 hd) rfl q) kk
theorem G.ixor {x y : Int32} (B : Cx p s m meth c Z own nm bytes maxL rt n0 h0 ws) (hd : decode bytes pc = .ok (.ixor, 1)) (hp : pc + 1 = pc') (kk : G p l e R s m args below meth c n0 h0 ws Q cells slots h (mkF m pc' ls (.int (x ^^^ y) :: st))) : G p l e R s m args below meth c n0 h0 ws Q cells slots h (mkF m pc ls (.int y :: .int x :: st)) := by
  subst hp
  exact G.stepX (fun T locs k n t X _ q => XS.ixor X.here B.1.1 rfl (hb B.1.2.1 hd) rfl q) kk
theorem G.lxor {x y : Int64} (B : Cx p s m meth c Z own nm bytes maxL rt n0 h0 ws) (hd : decode bytes pc = .ok (.lxor, 1)) (hp : pc + 1 = pc') (kk : G p l e R s m args below meth c n0 h0 ws Q cells slots h (mkF m pc' ls (.long (x ^^^ y) :: st))) : G p l e R s m args below meth c n0 h0 ws Q cells slots h (mkF m pc ls (.long y :: .long x :: st)) := by
  subst hp
  exact G.stepX (fun T locs k n t X _ q => XS.lxor X.here B.1.1 rfl (hb B.1.2.1 hd) rfl q) kk
theorem G.idiv {x y : Int32} (B : Cx p s m meth c Z own nm bytes maxL rt n0 h0 ws) (hd : decode bytes pc = .ok (.idiv, 1)) (hy : y ≠ 0) (hp : pc + 1 = pc') (kk : G p l e R s m args below meth c n0 h0 ws Q cells slots h (mkF m pc' ls (.int (x / y) :: st))) : G p l e R s m args below meth c n0 h0 ws Q cells slots h (mkF m pc ls (.int y :: .int x :: st)) := by
  subst hp
  exact G.stepX (fun T locs k n t X _ q => XS.idiv X.here B.1.1 rfl (hb B.1.2.1 hd) rfl hy q) kk
theorem G.irem {x y : Int32} (B : Cx p s m meth c Z own nm bytes maxL rt n0 h0 ws) (hd : decode bytes pc = .ok (.irem, 1)) (hy : y ≠ 0) (hp : pc + 1 = pc') (kk : G p l e R s m args below meth c n0 h0 ws Q cells slots h (mkF m pc' ls (.int (x % y) :: st))) : G p l e R s m args below meth c n0 h0 ws Q cells slots h (mkF m pc ls (.int y :: .int x :: st)) := by
  subst hp
  exact G.stepX (fun T locs k n t X _ q => Jvm.RoadKit.iremM X B.1.1 rfl (hb B.1.2.1 hd) rfl hy q) kk
theorem G.ldiv {x y : Int64} (B : Cx p s m meth c Z own nm bytes maxL rt n0 h0 ws) (hd : decode bytes pc = .ok (.ldiv, 1)) (hy : y ≠ 0) (hp : pc + 1 = pc') (kk : G p l e R s m args below meth c n0 h0 ws Q cells slots h (mkF m pc' ls (.long (x / y) :: st))) : G p l e R s m args below meth c n0 h0 ws Q cells slots h (mkF m pc ls (.long y :: .long x :: st)) := by
  subst hp
  exact G.stepX (fun T locs k n t X _ q => XS.ldiv X.here B.1.1 rfl (hb B.1.2.1 hd) rfl hy q) kk
theorem G.lrem {x y : Int64} (B : Cx p s m meth c Z own nm bytes maxL rt n0 h0 ws) (hd : decode bytes pc = .ok (.lrem, 1)) (hy : y ≠ 0) (hp : pc + 1 = pc') (kk : G p l e R s m args below meth c n0 h0 ws Q cells slots h (mkF m pc' ls (.long (x % y) :: st))) : G p l e R s m args below meth c n0 h0 ws Q cells slots h (mkF m pc ls (.long y :: .long x :: st)) := by
  subst hp
  rw [← lrem_mod] at kk
  exact G.stepX (fun T locs k n t X _ q => XS.lrem X.here B.1.1 rfl (hb B.1.2.1 hd) rfl hy q) kk
theorem G.ishl {x y : Int32} (B : Cx p s m meth c Z own nm bytes maxL rt n0 h0 ws) (hd : decode bytes pc = .ok (.ishl, 1)) (hp : pc + 1 = pc') (kk : G p l e R s m args below meth c n0 h0 ws Q cells slots h (mkF m pc' ls (.int (x <<< (y &&& 31)) :: st))) : G p l e R s m args below meth c n0 h0 ws Q cells slots h (mkF m pc ls (.int y :: .int x :: st)) := by
  subst hp
  exact G.stepX (fun T locs k n t X _ q => XS.ishl X.here B.1.1 rfl (hb B.1.2.1 hd) rfl q) kk
theorem G.ishr {x y : Int32} (B : Cx p s m meth c Z own nm bytes maxL rt n0 h0 ws) (hd : decode bytes pc = .ok (.ishr, 1)) (hp : pc + 1 = pc') (kk : G p l e R s m args below meth c n0 h0 ws Q cells slots h (mkF m pc' ls (.int (x >>> (y &&& 31)) :: st))) : G p l e R s m args below meth c n0 h0 ws Q cells slots h (mkF m pc ls (.int y :: .int x :: st)) := by
  subst hp
  exact G.stepX (fun T locs k n t X _ q => XS.ishr X.here B.1.1 rfl (hb B.1.2.1 hd) rfl q) kk
theorem G.iushr {x y : Int32} (B : Cx p s m meth c Z own nm bytes maxL rt n0 h0 ws) (hd : decode bytes pc = .ok (.iushr, 1)) (hp : pc + 1 = pc') (kk : G p l e R s m args below meth c n0 h0 ws Q cells slots h (mkF m pc' ls (.int ((x.toUInt32 >>> (y &&& 31).toUInt32).toInt32) :: st))) : G p l e R s m args below meth c n0 h0 ws Q cells slots h (mkF m pc ls (.int y :: .int x :: st)) := by
  subst hp
  exact G.stepX (fun T locs k n t X _ q => XS.iushr X.here B.1.1 rfl (hb B.1.2.1 hd) rfl q) kk
theorem G.lshl {x : Int64} {y : Int32} (B : Cx p s m meth c Z own nm bytes maxL rt n0 h0 ws) (hd : decode bytes pc = .ok (.lshl, 1)) (hp : pc + 1 = pc') (kk : G p l e R s m args below meth c n0 h0 ws Q cells slots h (mkF m pc' ls (.long (x <<< (y &&& 0x3f).toInt64) :: st))) : G p l e R s m args below meth c n0 h0 ws Q cells slots h (mkF m pc ls (.int y :: .long x :: st)) := by
  subst hp
  exact G.stepX (fun T locs k n t X _ q => XS.lshl X.here B.1.1 rfl (hb B.1.2.1 hd) rfl q) kk
theorem G.lshr {x : Int64} {y : Int32} (B : Cx p s m meth c Z own nm bytes maxL rt n0 h0 ws) (hd : decode bytes pc = .ok (.lshr, 1)) (hp : pc + 1 = pc') (kk : G p l e R s m args below meth c n0 h0 ws Q cells slots h (mkF m pc' ls (.long (x >>> (y &&& 0x3f).toInt64) :: st))) : G p l e R s m args below meth c n0 h0 ws Q cells slots h (mkF m pc ls (.int y :: .long x :: st)) := by
  subst hp
  exact G.stepX (fun T locs k n t X _ q => XS.lshr X.here B.1.1 rfl (hb B.1.2.1 hd) rfl q) kk
theorem G.lushr {x : Int64} {y : Int32} (B : Cx p s m meth c Z own nm bytes maxL rt n0 h0 ws) (hd : decode bytes pc = .ok (.lushr, 1)) (hp : pc + 1 = pc') (kk : G p l e R s m args below meth c n0 h0 ws Q cells slots h (mkF m pc' ls (.long ((x.toUInt64 >>> (y &&& 0x3f).toInt64.toUInt64).toInt64) :: st))) : G p l e R s m args below meth c n0 h0 ws Q cells slots h (mkF m pc ls (.int y :: .long x :: st)) := by
  subst hp
  exact G.stepX (fun T locs k n t X _ q => XS.lushr X.here B.1.1 rfl (hb B.1.2.1 hd) rfl q) kk
theorem G.ineg {x : Int32} (B : Cx p s m meth c Z own nm bytes maxL rt n0 h0 ws) (hd : decode bytes pc = .ok (.ineg, 1)) (hp : pc + 1 = pc') (kk : G p l e R s m args below meth c n0 h0 ws Q cells slots h (mkF m pc' ls (.int (-x) :: st))) : G p l e R s m args below meth c n0 h0 ws Q cells slots h (mkF m pc ls (.int x :: st)) := by
  subst hp
  exact G.stepX (fun T locs k n t X _ q => XS.ineg X.here B.1.1 rfl (hb B.1.2.1 hd) rfl q) kk
theorem G.lneg {x : Int64} (B : Cx p s m meth c Z own nm bytes maxL rt n0 h0 ws) (hd : decode bytes pc = .ok (.lneg, 1)) (hp : pc + 1 = pc') (kk : G p l e R s m args below meth c n0 h0 ws Q cells slots h (mkF m pc' ls (.long (-x) :: st))) : G p l e R s m args below meth c n0 h0 ws Q cells slots h (mkF m pc ls (.long x :: st)) := by
  subst hp
  exact G.stepX (fun T locs k n t X _ q => XS.lneg X.here B.1.1 rfl (hb B.1.2.1 hd) rfl q) kk
theorem G.i2l {x : Int32} (B : Cx p s m meth c Z own nm bytes maxL rt n0 h0 ws) (hd : decode bytes pc = .ok (.i2l, 1)) (hp : pc + 1 = pc') (kk : G p l e R s m args below meth c n0 h0 ws Q cells slots h (mkF m pc' ls (.long x.toInt64 :: st))) : G p l e R s m args below meth c n0 h0 ws Q cells slots h (mkF m pc ls (.int x :: st)) := by
  subst hp
  exact G.stepX (fun T locs k n t X _ q => XS.i2l X.here B.1.1 rfl (hb B.1.2.1 hd) rfl q) kk
theorem G.l2i {x : Int64} (B : Cx p s m meth c Z own nm bytes maxL rt n0 h0 ws) (hd : decode bytes pc = .ok (.l2i, 1)) (hp : pc + 1 = pc') (kk : G p l e R s m args below meth c n0 h0 ws Q cells slots h (mkF m pc' ls (.int x.toInt32 :: st))) : G p l e R s m args below meth c n0 h0 ws Q cells slots h (mkF m pc ls (.long x :: st)) := by
  subst hp
  exact G.stepX (fun T locs k n t X _ q => XS.l2i X.here B.1.1 rfl (hb B.1.2.1 hd) rfl q) kk
theorem G.i2b {x : Int32} (B : Cx p s m meth c Z own nm bytes maxL rt n0 h0 ws) (hd : decode bytes pc = .ok (.i2b, 1)) (hp : pc + 1 = pc') (kk : G p l e R s m args below meth c n0 h0 ws Q cells slots h (mkF m pc' ls (.int x.toInt8.toInt32 :: st))) : G p l e R s m args below meth c n0 h0 ws Q cells slots h (mkF m pc ls (.int x :: st)) := by
  subst hp
  exact G.stepX (fun T locs k n t X _ q => XS.i2b X.here B.1.1 rfl (hb B.1.2.1 hd) rfl q) kk
theorem G.i2s {x : Int32} (B : Cx p s m meth c Z own nm bytes maxL rt n0 h0 ws) (hd : decode bytes pc = .ok (.i2s, 1)) (hp : pc + 1 = pc') (kk : G p l e R s m args below meth c n0 h0 ws Q cells slots h (mkF m pc' ls (.int x.toInt16.toInt32 :: st))) : G p l e R s m args below meth c n0 h0 ws Q cells slots h (mkF m pc ls (.int x :: st)) := by
  subst hp
  exact G.stepX (fun T locs k n t X _ q => XS.i2s X.here B.1.1 rfl (hb B.1.2.1 hd) rfl q) kk
theorem G.i2c {x : Int32} (B : Cx p s m meth c Z own nm bytes maxL rt n0 h0 ws) (hd : decode bytes pc = .ok (.i2c, 1)) (hp : pc + 1 = pc') (kk : G p l e R s m args below meth c n0 h0 ws Q cells slots h (mkF m pc' ls (.int x.toUInt32.toUInt16.toUInt32.toInt32 :: st))) : G p l e R s m args below meth c n0 h0 ws Q cells slots h (mkF m pc ls (.int x :: st)) := by
  subst hp
  exact G.stepX (fun T locs k n t X _ q => XS.i2c X.here B.1.1 rfl (hb B.1.2.1 hd) rfl q) kk
theorem G.lcmp {x y : Int64} (B : Cx p s m meth c Z own nm bytes maxL rt n0 h0 ws) (hd : decode bytes pc = .ok (.lcmp, 1)) (hp : pc + 1 = pc') (kk : G p l e R s m args below meth c n0 h0 ws Q cells slots h (mkF m pc' ls (.int (lcmpW x y) :: st))) : G p l e R s m args below meth c n0 h0 ws Q cells slots h (mkF m pc ls (.long y :: .long x :: st)) := by
  subst hp
  exact G.stepX (fun T locs k n t X _ q => XS.lcmp X.here B.1.1 rfl (hb B.1.2.1 hd) rfl q) kk
theorem G.iinc {k : Nat} {cst : Int} {x z : Int32} (B : Cx p s m meth c Z own nm bytes maxL rt n0 h0 ws) (hd : decode bytes pc = .ok (.iinc k cst, 3)) (hl : ls[k]? = some (.val (.int x))) (hz : x + Int32.ofInt cst = z) (hl' : storeLocals ls k (.int z) = some ls') (hp : pc + 3 = pc') (kk : G p l e R s m args below meth c n0 h0 ws Q cells slots h (mkF m pc' ls' st)) : G p l e R s m args below meth c n0 h0 ws Q cells slots h (mkF m pc ls st) := by
  subst hp
  exact G.stepX (fun T locs k n t X _ q => XS.iinc X.here B.1.1 rfl (hb B.1.2.1 hd) hl (by rw [hz]; exact hl') q) kk
theorem G.dup {v : Value} (B : Cx p s m meth c Z own nm bytes maxL rt n0 h0 ws) (hd : decode bytes pc = .ok (.dup, 1)) (hc : v.category = 1) (hp : pc + 1 = pc') (kk : G p l e R s m args below meth c n0 h0 ws Q cells slots h (mkF m pc' ls (v :: v :: st))) : G p l e R s m args below meth c n0 h0 ws Q cells slots h (mkF m pc ls (v :: st)) := by
  subst hp
  exact G.stepX (fun T locs k n t X _ q => XS.dup X.here B.1.1 rfl (hb B.1.2.1 hd) rfl hc q) kk
theorem G.pop {v : Value} (B : Cx p s m meth c Z own nm bytes maxL rt n0 h0 ws) (hd : decode bytes pc = .ok (.pop, 1)) (hc : v.category = 1) (hp : pc + 1 = pc') (kk : G p l e R s m args below meth c n0 h0 ws Q cells slots h (mkF m pc' ls st)) : G p l e R s m args below meth c n0 h0 ws Q cells slots h (mkF m pc ls (v :: st)) := by
  subst hp
  exact G.stepX (fun T locs k n t X _ q => XS.pop X.here B.1.1 rfl (hb B.1.2.1 hd) rfl hc q) kk
theorem G.dupX1 {v w : Value} (B : Cx p s m meth c Z own nm bytes maxL rt n0 h0 ws) (hd : decode bytes pc = .ok (.dup_x1, 1)) (hc : v.category = 1) (hc' : w.category = 1) (hp : pc + 1 = pc') (kk : G p l e R s m args below meth c n0 h0 ws Q cells slots h (mkF m pc' ls (v :: w :: v :: st))) : G p l e R s m args below meth c n0 h0 ws Q cells slots h (mkF m pc ls (v :: w :: st)) := by
  subst hp
  exact G.stepX (fun T locs k n t X _ q => XS.dupX1 X.here B.1.1 rfl (hb B.1.2.1 hd) rfl hc hc' q) kk
theorem G.dup2 {v w : Value} (B : Cx p s m meth c Z own nm bytes maxL rt n0 h0 ws) (hd : decode bytes pc = .ok (.dup2, 1)) (hc : v.category = 1) (hc' : w.category = 1) (hp : pc + 1 = pc') (kk : G p l e R s m args below meth c n0 h0 ws Q cells slots h (mkF m pc' ls (v :: w :: v :: w :: st))) : G p l e R s m args below meth c n0 h0 ws Q cells slots h (mkF m pc ls (v :: w :: st)) := by
  subst hp
  exact G.stepX (fun T locs k n t X _ q => XT.dup2 X.here B.1.1 rfl (hb B.1.2.1 hd) rfl hc hc' q) kk
theorem G.goto {o : Int} (B : Cx p s m meth c Z own nm bytes maxL rt n0 h0 ws) (hd : decode bytes pc = .ok (.goto o, 3)) (ho : 0 ≤ (pc : Int) + o) (hp : ((pc : Int) + o).toNat = pc') (kk : G p l e R s m args below meth c n0 h0 ws Q cells slots h (mkF m pc' ls st)) : G p l e R s m args below meth c n0 h0 ws Q cells slots h (mkF m pc ls st) := by
  exact G.stepX (fun T locs k n t X _ q => XS.goto X.here B.1.1 rfl (pc0 := pc) (pc' := pc') rfl (hb B.1.2.1 hd) ho hp q) kk
theorem own_nlt {x y : Int32} (h : y.toInt ≤ x.toInt) : ¬ x < y := fun q => by rw [Int32.lt_iff_toInt_lt] at q; omega
theorem own_ylt {x y : Int32} (h : x.toInt < y.toInt) : x < y := Int32.lt_iff_toInt_lt.mpr h
theorem G.icmp_eq {x y : Int32} {o : Int} {pcT : Nat} (B : Cx p s m meth c Z own nm bytes maxL rt n0 h0 ws) (hd : decode bytes pc = .ok (.if_icmp .eq o, 3)) (ho : 0 ≤ (pc : Int) + o) (hT : ((pc : Int) + o).toNat = pcT) (hp : pc + 3 = pc') (k1 : x = y → G p l e R s m args below meth c n0 h0 ws Q cells slots h (mkF m pcT ls st)) (k2 : x ≠ y → G p l e R s m args below meth c n0 h0 ws Q cells slots h (mkF m pc' ls st)) : G p l e R s m args below meth c n0 h0 ws Q cells slots h (mkF m pc ls (.int y :: .int x :: st)) := by
  subst hp
  by_cases h : x = y
  · exact G.stepX (fun T locs k n t X _ q => XS.icmpYes X.here B.1.1 rfl (pc0 := pc) (pc' := pcT) rfl (hb B.1.2.1 hd) rfl (teq h).1 ho hT q) (k1 h)
  · exact G.stepX (fun T locs k n t X _ q => XS.icmpNo X.here B.1.1 rfl (hb B.1.2.1 hd) rfl (feq h).1 q) (k2 h)
theorem G.if_eq {x : Int32} {o : Int} {pcT : Nat} (B : Cx p s m meth c Z own nm bytes maxL rt n0 h0 ws) (hd : decode bytes pc = .ok (.ifCond .eq o, 3)) (ho : 0 ≤ (pc : Int) + o) (hT : ((pc : Int) + o).toNat = pcT) (hp : pc + 3 = pc') (k1 : x = 0 → G p l e R s m args below meth c n0 h0 ws Q cells slots h (mkF m pcT ls st)) (k2 : x ≠ 0 → G p l e R s m args below meth c n0 h0 ws Q cells slots h (mkF m pc' ls st)) : G p l e R s m args below meth c n0 h0 ws Q cells slots h (mkF m pc ls (.int x :: st)) := by
  subst hp
  by_cases h : x = 0
  · exact G.stepX (fun T locs k n t X _ q => XS.ifYes X.here B.1.1 rfl (pc0 := pc) (pc' := pcT) rfl (hb B.1.2.1 hd) rfl ((if0 _ _).trans (teq h).1) ho hT q) (k1 h)
  · exact G.stepX (fun T locs k n t X _ q => XS.ifNo X.here B.1.1 rfl (hb B.1.2.1 hd) rfl ((if0 _ _).trans (feq h).1) q) (k2 h)
theorem G.lcmp_eq {x y : Int64} {o : Int} {pc1 pcT : Nat} (B : Cx p s m meth c Z own nm bytes maxL rt n0 h0 ws) (hd0 : decode bytes pc = .ok (.lcmp, 1)) (hp0 : pc + 1 = pc1) (hd : decode bytes pc1 = .ok (.ifCond .eq o, 3)) (ho : 0 ≤ (pc1 : Int) + o) (hT : ((pc1 : Int) + o).toNat = pcT) (hp : pc1 + 3 = pc') (k1 : x = y → G p l e R s m args below meth c n0 h0 ws Q cells slots h (mkF m pcT ls st)) (k2 : x ≠ y → G p l e R s m args below meth c n0 h0 ws Q cells slots h (mkF m pc' ls st)) : G p l e R s m args below meth c n0 h0 ws Q cells slots h (mkF m pc ls (.long y :: .long x :: st)) :=
  G.lcmp B hd0 hp0 (G.if_eq B hd ho hT hp (fun q => k1 ((lw_eq x y).mp q)) (fun q => k2 (fun r => q ((lw_eq x y).mpr r))))
theorem G.icmp_ne {x y : Int32} {o : Int} {pcT : Nat} (B : Cx p s m meth c Z own nm bytes maxL rt n0 h0 ws) (hd : decode bytes pc = .ok (.if_icmp .ne o, 3)) (ho : 0 ≤ (pc : Int) + o) (hT : ((pc : Int) + o).toNat = pcT) (hp : pc + 3 = pc') (k1 : x ≠ y → G p l e R s m args below meth c n0 h0 ws Q cells slots h (mkF m pcT ls st)) (k2 : x = y → G p l e R s m args below meth c n0 h0 ws Q cells slots h (mkF m pc' ls st)) : G p l e R s m args below meth c n0 h0 ws Q cells slots h (mkF m pc ls (.int y :: .int x :: st)) := by
  subst hp
  by_cases h : x ≠ y
  · exact G.stepX (fun T locs k n t X _ q => XS.icmpYes X.here B.1.1 rfl (pc0 := pc) (pc' := pcT) rfl (hb B.1.2.1 hd) rfl (feq h).2 ho hT q) (k1 h)
  · replace h : x = y := Decidable.of_not_not h
    exact G.stepX (fun T locs k n t X _ q => XS.icmpNo X.here B.1.1 rfl (hb B.1.2.1 hd) rfl (teq h).2 q) (k2 h)
theorem G.if_ne {x : Int32} {o : Int} {pcT : Nat} (B : Cx p s m meth c Z own nm bytes maxL rt n0 h0 ws) (hd : decode bytes pc = .ok (.ifCond .ne o, 3)) (ho : 0 ≤ (pc : Int) + o) (hT : ((pc : Int) + o).toNat = pcT) (hp : pc + 3 = pc') (k1 : x ≠ 0 → G p l e R s m args below meth c n0 h0 ws Q cells slots h (mkF m pcT ls st)) (k2 : x = 0 → G p l e R s m args below meth c n0 h0 ws Q cells slots h (mkF m pc' ls st)) : G p l e R s m args below meth c n0 h0 ws Q cells slots h (mkF m pc ls (.int x :: st)) := by
  subst hp
  by_cases h : x ≠ 0
  · exact G.stepX (fun T locs k n t X _ q => XS.ifYes X.here B.1.1 rfl (pc0 := pc) (pc' := pcT) rfl (hb B.1.2.1 hd) rfl ((if0 _ _).trans (feq h).2) ho hT q) (k1 h)
  · replace h : x = 0 := Decidable.of_not_not h
    exact G.stepX (fun T locs k n t X _ q => XS.ifNo X.here B.1.1 rfl (hb B.1.2.1 hd) rfl ((if0 _ _).trans (teq h).2) q) (k2 h)
theorem G.lcmp_ne {x y : Int64} {o : Int} {pc1 pcT : Nat} (B : Cx p s m meth c Z own nm bytes maxL rt n0 h0 ws) (hd0 : decode bytes pc = .ok (.lcmp, 1)) (hp0 : pc + 1 = pc1) (hd : decode bytes pc1 = .ok (.ifCond .ne o, 3)) (ho : 0 ≤ (pc1 : Int) + o) (hT : ((pc1 : Int) + o).toNat = pcT) (hp : pc1 + 3 = pc') (k1 : x ≠ y → G p l e R s m args below meth c n0 h0 ws Q cells slots h (mkF m pcT ls st)) (k2 : x = y → G p l e R s m args below meth c n0 h0 ws Q cells slots h (mkF m pc' ls st)) : G p l e R s m args below meth c n0 h0 ws Q cells slots h (mkF m pc ls (.long y :: .long x :: st)) :=
  G.lcmp B hd0 hp0 (G.if_ne B hd ho hT hp (fun q => k1 (fun r => q ((lw_eq x y).mpr r))) (fun q => k2 ((lw_eq x y).mp q)))
theorem G.icmp_lt {x y : Int32} {o : Int} {pcT : Nat} (B : Cx p s m meth c Z own nm bytes maxL rt n0 h0 ws) (hd : decode bytes pc = .ok (.if_icmp .lt o, 3)) (ho : 0 ≤ (pc : Int) + o) (hT : ((pc : Int) + o).toNat = pcT) (hp : pc + 3 = pc') (k1 : x.toInt < y.toInt → G p l e R s m args below meth c n0 h0 ws Q cells slots h (mkF m pcT ls st)) (k2 : y.toInt ≤ x.toInt → G p l e R s m args below meth c n0 h0 ws Q cells slots h (mkF m pc' ls st)) : G p l e R s m args below meth c n0 h0 ws Q cells slots h (mkF m pc ls (.int y :: .int x :: st)) := by
  subst hp
  by_cases h : x.toInt < y.toInt
  · exact G.stepX (fun T locs k n t X _ q => XS.icmpYes X.here B.1.1 rfl (pc0 := pc) (pc' := pcT) rfl (hb B.1.2.1 hd) rfl (tlt (own_ylt h)).1 ho hT q) (k1 h)
  · replace h := Int.not_lt.mp h
    exact G.stepX (fun T locs k n t X _ q => XS.icmpNo X.here B.1.1 rfl (hb B.1.2.1 hd) rfl (flt (own_nlt h)).1 q) (k2 h)
theorem G.if_lt {x : Int32} {o : Int} {pcT : Nat} (B : Cx p s m meth c Z own nm bytes maxL rt n0 h0 ws) (hd : decode bytes pc = .ok (.ifCond .lt o, 3)) (ho : 0 ≤ (pc : Int) + o) (hT : ((pc : Int) + o).toNat = pcT) (hp : pc + 3 = pc') (k1 : x.toInt < 0 → G p l e R s m args below meth c n0 h0 ws Q cells slots h (mkF m pcT ls st)) (k2 : 0 ≤ x.toInt → G p l e R s m args below meth c n0 h0 ws Q cells slots h (mkF m pc' ls st)) : G p l e R s m args below meth c n0 h0 ws Q cells slots h (mkF m pc ls (.int x :: st)) := by
  subst hp
  by_cases h : x.toInt < 0
  · exact G.stepX (fun T locs k n t X _ q => XS.ifYes X.here B.1.1 rfl (pc0 := pc) (pc' := pcT) rfl (hb B.1.2.1 hd) rfl ((if0 _ _).trans (tlt (own_ylt (y := 0) h)).1) ho hT q) (k1 h)
  · replace h := Int.not_lt.mp h
    exact G.stepX (fun T locs k n t X _ q => XS.ifNo X.here B.1.1 rfl (hb B.1.2.1 hd) rfl ((if0 _ _).trans (flt (own_nlt (y := 0) h)).1) q) (k2 h)
theorem G.lcmp_lt {x y : Int64} {o : Int} {pc1 pcT : Nat} (B : Cx p s m meth c Z own nm bytes maxL rt n0 h0 ws) (hd0 : decode bytes pc = .ok (.lcmp, 1)) (hp0 : pc + 1 = pc1) (hd : decode bytes pc1 = .ok (.ifCond .lt o, 3)) (ho : 0 ≤ (pc1 : Int) + o) (hT : ((pc1 : Int) + o).toNat = pcT) (hp : pc1 + 3 = pc') (k1 : x.toInt < y.toInt → G p l e R s m args below meth c n0 h0 ws Q cells slots h (mkF m pcT ls st)) (k2 : y.toInt ≤ x.toInt → G p l e R s m args below meth c n0 h0 ws Q cells slots h (mkF m pc' ls st)) : G p l e R s m args below meth c n0 h0 ws Q cells slots h (mkF m pc ls (.long y :: .long x :: st)) :=
  G.lcmp B hd0 hp0 (G.if_lt B hd ho hT hp (fun q => k1 (by have := c_lcmp x y; omega)) (fun q => k2 (by have := c_lcmp x y; omega)))
theorem G.icmp_ge {x y : Int32} {o : Int} {pcT : Nat} (B : Cx p s m meth c Z own nm bytes maxL rt n0 h0 ws) (hd : decode bytes pc = .ok (.if_icmp .ge o, 3)) (ho : 0 ≤ (pc : Int) + o) (hT : ((pc : Int) + o).toNat = pcT) (hp : pc + 3 = pc') (k1 : y.toInt ≤ x.toInt → G p l e R s m args below meth c n0 h0 ws Q cells slots h (mkF m pcT ls st)) (k2 : x.toInt < y.toInt → G p l e R s m args below meth c n0 h0 ws Q cells slots h (mkF m pc' ls st)) : G p l e R s m args below meth c n0 h0 ws Q cells slots h (mkF m pc ls (.int y :: .int x :: st)) := by
  subst hp
  by_cases h : y.toInt ≤ x.toInt
  · exact G.stepX (fun T locs k n t X _ q => XS.icmpYes X.here B.1.1 rfl (pc0 := pc) (pc' := pcT) rfl (hb B.1.2.1 hd) rfl (flt (own_nlt h)).2.1 ho hT q) (k1 h)
  · replace h := Int.not_le.mp h
    exact G.stepX (fun T locs k n t X _ q => XS.icmpNo X.here B.1.1 rfl (hb B.1.2.1 hd) rfl (tlt (own_ylt h)).2.1 q) (k2 h)
theorem G.if_ge {x : Int32} {o : Int} {pcT : Nat} (B : Cx p s m meth c Z own nm bytes maxL rt n0 h0 ws) (hd : decode bytes pc = .ok (.ifCond .ge o, 3)) (ho : 0 ≤ (pc : Int) + o) (hT : ((pc : Int) + o).toNat = pcT) (hp : pc + 3 = pc') (k1 : 0 ≤ x.toInt → G p l e R s m args below meth c n0 h0 ws Q cells slots h (mkF m pcT ls st)) (k2 : x.toInt < 0 → G p l e R s m args below meth c n0 h0 ws Q cells slots h (mkF m pc' ls st)) : G p l e R s m args below meth c n0 h0 ws Q cells slots h (mkF m pc ls (.int x :: st)) := by
  subst hp
  by_cases h : 0 ≤ x.toInt
  · exact G.stepX (fun T locs k n t X _ q => XS.ifYes X.here B.1.1 rfl (pc0 := pc) (pc' := pcT) rfl (hb B.1.2.1 hd) rfl ((if0 _ _).trans (flt (own_nlt (y := 0) h)).2.1) ho hT q) (k1 h)
  · replace h := Int.not_le.mp h
    exact G.stepX (fun T locs k n t X _ q => XS.ifNo X.here B.1.1 rfl (hb B.1.2.1 hd) rfl ((if0 _ _).trans (tlt (own_ylt (y := 0) h)).2.1) q) (k2 h)
theorem G.lcmp_ge {x y : Int64} {o : Int} {pc1 pcT : Nat} (B : Cx p s m meth c Z own nm bytes maxL rt n0 h0 ws) (hd0 : decode bytes pc = .ok (.lcmp, 1)) (hp0 : pc + 1 = pc1) (hd : decode bytes pc1 = .ok (.ifCond .ge o, 3)) (ho : 0 ≤ (pc1 : Int) + o) (hT : ((pc1 : Int) + o).toNat = pcT) (hp : pc1 + 3 = pc') (k1 : y.toInt ≤ x.toInt → G p l e R s m args below meth c n0 h0 ws Q cells slots h (mkF m pcT ls st)) (k2 : x.toInt < y.toInt → G p l e R s m args below meth c n0 h0 ws Q cells slots h (mkF m pc' ls st)) : G p l e R s m args below meth c n0 h0 ws Q cells slots h (mkF m pc ls (.long y :: .long x :: st)) :=
  G.lcmp B hd0 hp0 (G.if_ge B hd ho hT hp (fun q => k1 (by have := c_lcmp x y; omega)) (fun q => k2 (by have := c_lcmp x y; omega)))
theorem G.icmp_gt {x y : Int32} {o : Int} {pcT : Nat} (B : Cx p s m meth c Z own nm bytes maxL rt n0 h0 ws) (hd : decode bytes pc = .ok (.if_icmp .gt o, 3)) (ho : 0 ≤ (pc : Int) + o) (hT : ((pc : Int) + o).toNat = pcT) (hp : pc + 3 = pc') (k1 : y.toInt < x.toInt → G p l e R s m args below meth c n0 h0 ws Q cells slots h (mkF m pcT ls st)) (k2 : x.toInt ≤ y.toInt → G p l e R s m args below meth c n0 h0 ws Q cells slots h (mkF m pc' ls st)) : G p l e R s m args below meth c n0 h0 ws Q cells slots h (mkF m pc ls (.int y :: .int x :: st)) := by
  subst hp
  by_cases h : y.toInt < x.toInt
  · exact G.stepX (fun T locs k n t X _ q => XS.icmpYes X.here B.1.1 rfl (pc0 := pc) (pc' := pcT) rfl (hb B.1.2.1 hd) rfl (tlt (own_ylt h)).2.2.1 ho hT q) (k1 h)
  · replace h := Int.not_lt.mp h
    exact G.stepX (fun T locs k n t X _ q => XS.icmpNo X.here B.1.1 rfl (hb B.1.2.1 hd) rfl (flt (own_nlt h)).2.2.1 q) (k2 h)
theorem G.if_gt {x : Int32} {o : Int} {pcT : Nat} (B : Cx p s m meth c Z own nm bytes maxL rt n0 h0 ws) (hd : decode bytes pc = .ok (.ifCond .gt o, 3)) (ho : 0 ≤ (pc : Int) + o) (hT : ((pc : Int) + o).toNat = pcT) (hp : pc + 3 = pc') (k1 : 0 < x.toInt → G p l e R s m args below meth c n0 h0 ws Q cells slots h (mkF m pcT ls st)) (k2 : x.toInt ≤ 0 → G p l e R s m args below meth c n0 h0 ws Q cells slots h (mkF m pc' ls st)) : G p l e R s m args below meth c n0 h0 ws Q cells slots h (mkF m pc ls (.int x :: st)) := by
  subst hp
  by_cases h : 0 < x.toInt
  · exact G.stepX (fun T locs k n t X _ q => XS.ifYes X.here B.1.1 rfl (pc0 := pc) (pc' := pcT) rfl (hb B.1.2.1 hd) rfl ((if0 _ _).trans (tlt (own_ylt (x := 0) h)).2.2.1) ho hT q) (k1 h)
  · replace h := Int.not_lt.mp h
    exact G.stepX (fun T locs k n t X _ q => XS.ifNo X.here B.1.1 rfl (hb B.1.2.1 hd) rfl ((if0 _ _).trans (flt (own_nlt (x := 0) h)).2.2.1) q) (k2 h)
theorem G.lcmp_gt {x y : Int64} {o : Int} {pc1 pcT : Nat} (B : Cx p s m meth c Z own nm bytes maxL rt n0 h0 ws) (hd0 : decode bytes pc = .ok (.lcmp, 1)) (hp0 : pc + 1 = pc1) (hd : decode bytes pc1 = .ok (.ifCond .gt o, 3)) (ho : 0 ≤ (pc1 : Int) + o) (hT : ((pc1 : Int) + o).toNat = pcT) (hp : pc1 + 3 = pc') (k1 : y.toInt < x.toInt → G p l e R s m args below meth c n0 h0 ws Q cells slots h (mkF m pcT ls st)) (k2 : x.toInt ≤ y.toInt → G p l e R s m args below meth c n0 h0 ws Q cells slots h (mkF m pc' ls st)) : G p l e R s m args below meth c n0 h0 ws Q cells slots h (mkF m pc ls (.long y :: .long x :: st)) :=
  G.lcmp B hd0 hp0 (G.if_gt B hd ho hT hp (fun q => k1 (by have := c_lcmp x y; omega)) (fun q => k2 (by have := c_lcmp x y; omega)))
theorem G.icmp_le {x y : Int32} {o : Int} {pcT : Nat} (B : Cx p s m meth c Z own nm bytes maxL rt n0 h0 ws) (hd : decode bytes pc = .ok (.if_icmp .le o, 3)) (ho : 0 ≤ (pc : Int) + o) (hT : ((pc : Int) + o).toNat = pcT) (hp : pc + 3 = pc') (k1 : x.toInt ≤ y.toInt → G p l e R s m args below meth c n0 h0 ws Q cells slots h (mkF m pcT ls st)) (k2 : y.toInt < x.toInt → G p l e R s m args below meth c n0 h0 ws Q cells slots h (mkF m pc' ls st)) : G p l e R s m args below meth c n0 h0 ws Q cells slots h (mkF m pc ls (.int y :: .int x :: st)) := by
  subst hp
  by_cases h : x.toInt ≤ y.toInt
  · exact G.stepX (fun T locs k n t X _ q => XS.icmpYes X.here B.1.1 rfl (pc0 := pc) (pc' := pcT) rfl (hb B.1.2.1 hd) rfl (flt (own_nlt h)).2.2.2 ho hT q) (k1 h)
  · replace h := Int.not_le.mp h
    exact G.stepX (fun T locs k n t X _ q => XS.icmpNo X.here B.1.1 rfl (hb B.1.2.1 hd) rfl (tlt (own_ylt h)).2.2.2 q) (k2 h)
theorem G.if_le {x : Int32} {o : Int} {pcT : Nat} (B : Cx p s m meth c Z own nm bytes maxL rt n0 h0 ws) (hd : decode bytes pc = .ok (.ifCond .le o, 3)) (ho : 0 ≤ (pc : Int) + o) (hT : ((pc : Int) + o).toNat = pcT) (hp : pc + 3 = pc') (k1 : x.toInt ≤ 0 → G p l e R s m args below meth c n0 h0 ws Q cells slots h (mkF m pcT ls st)) (k2 : 0 < x.toInt → G p l e R s m args below meth c n0 h0 ws Q cells slots h (mkF m pc' ls st)) : G p l e R s m args below meth c n0 h0 ws Q cells slots h (mkF m pc ls (.int x :: st)) := by
  subst hp
  by_cases h : x.toInt ≤ 0
  · exact G.stepX (fun T locs k n t X _ q => XS.ifYes X.here B.1.1 rfl (pc0 := pc) (pc' := pcT) rfl (hb B.1.2.1 hd) rfl ((if0 _ _).trans (flt (own_nlt (x := 0) h)).2.2.2) ho hT q) (k1 h)
  · replace h := Int.not_le.mp h
    exact G.stepX (fun T locs k n t X _ q => XS.ifNo X.here B.1.1 rfl (hb B.1.2.1 hd) rfl ((if0 _ _).trans (tlt (own_ylt (x := 0) h)).2.2.2) q) (k2 h)
theorem G.lcmp_le {x y : Int64} {o : Int} {pc1 pcT : Nat} (B : Cx p s m meth c Z own nm bytes maxL rt n0 h0 ws) (hd0 : decode bytes pc = .ok (.lcmp, 1)) (hp0 : pc + 1 = pc1) (hd : decode bytes pc1 = .ok (.ifCond .le o, 3)) (ho : 0 ≤ (pc1 : Int) + o) (hT : ((pc1 : Int) + o).toNat = pcT) (hp : pc1 + 3 = pc') (k1 : x.toInt ≤ y.toInt → G p l e R s m args below meth c n0 h0 ws Q cells slots h (mkF m pcT ls st)) (k2 : y.toInt < x.toInt → G p l e R s m args below meth c n0 h0 ws Q cells slots h (mkF m pc' ls st)) : G p l e R s m args below meth c n0 h0 ws Q cells slots h (mkF m pc ls (.long y :: .long x :: st)) :=
  G.lcmp B hd0 hp0 (G.if_le B hd ho hT hp (fun q => k1 (by have := c_lcmp x y; omega)) (fun q => k2 (by have := c_lcmp x y; omega)))
theorem G.ifnull_t {b : Addr} {o : Int} {pcT : Nat} (B : Cx p s m meth c Z own nm bytes maxL rt n0 h0 ws) (hd : decode bytes pc = .ok (.ifnull o, 3)) (ho : 0 ≤ (pc : Int) + o) (hT : ((pc : Int) + o).toNat = pcT) (kk : G p l e R s m args below meth c n0 h0 ws Q cells slots h (mkF m pcT ls st)) : G p l e R s m args below meth c n0 h0 ws Q cells slots h (mkF m pc ls (.null :: st)) :=
  G.stepX (fun T locs k n t X _ q => XS.ifnullYes X.here B.1.1 rfl (pc0 := pc) (pc' := pcT) rfl (hb B.1.2.1 hd) rfl ho hT q) kk
theorem G.ifnull_f {b : Addr} {o : Int} (B : Cx p s m meth c Z own nm bytes maxL rt n0 h0 ws) (hd : decode bytes pc = .ok (.ifnull o, 3)) (hp : pc + 3 = pc') (kk : G p l e R s m args below meth c n0 h0 ws Q cells slots h (mkF m pc' ls st)) : G p l e R s m args below meth c n0 h0 ws Q cells slots h (mkF m pc ls (.ref b :: st)) := by
  subst hp
  exact G.stepX (fun T locs k n t X _ q => XS.ifnullNo X.here B.1.1 rfl (hb B.1.2.1 hd) rfl q) kk
theorem G.ifnonnull_t {b : Addr} {o : Int} {pcT : Nat} (B : Cx p s m meth c Z own nm bytes maxL rt n0 h0 ws) (hd : decode bytes pc = .ok (.ifnonnull o, 3)) (ho : 0 ≤ (pc : Int) + o) (hT : ((pc : Int) + o).toNat = pcT) (kk : G p l e R s m args below meth c n0 h0 ws Q cells slots h (mkF m pcT ls st)) : G p l e R s m args below meth c n0 h0 ws Q cells slots h (mkF m pc ls (.ref b :: st)) :=
  G.stepX (fun T locs k n t X _ q => XS.ifnonnullYes X.here B.1.1 rfl (pc0 := pc) (pc' := pcT) rfl (hb B.1.2.1 hd) rfl ho hT q) kk
theorem G.ifnonnull_f {b : Addr} {o : Int} (B : Cx p s m meth c Z own nm bytes maxL rt n0 h0 ws) (hd : decode bytes pc = .ok (.ifnonnull o, 3)) (hp : pc + 3 = pc') (kk : G p l e R s m args below meth c n0 h0 ws Q cells slots h (mkF m pc' ls st)) : G p l e R s m args below meth c n0 h0 ws Q cells slots h (mkF m pc ls (.null :: st)) := by
  subst hp
  exact G.stepX (fun T locs k n t X _ q => XS.ifnonnullNo X.here B.1.1 rfl (hb B.1.2.1 hd) rfl q) kk
theorem G.ldc2 {index : Nat} {v : Int64} (B : Cx p s m meth c Z own nm bytes maxL rt n0 h0 ws) (w : (Jvm.Cond.constantLong own index v).before a0 Z = true) (hd : decode bytes pc = .ok (.ldc2_w index, 3)) (hp : pc + 3 = pc') (kk : G p l e R s m args below meth c n0 h0 ws Q cells slots h (mkF m pc' ls (.long v :: st))) : G p l e R s m args below meth c n0 h0 ws Q cells slots h (mkF m pc ls st) := by
  subst hp
  exact G.stepX (fun T locs k n t X _ q => X.ldc2Long B.1.1 B.1.2.2.2.1 (mvT B.1.2.2.2.2 w) (g := mkF m pc ls st) rfl (hb B.1.2.1 hd) t q) kk
theorem G.ldcI {index : Nat} {v : Int32} (B : Cx p s m meth c Z own nm bytes maxL rt n0 h0 ws) (w : (Jvm.Cond.constant own index v).before a0 Z = true) (hd : decode bytes pc = .ok (.ldc index, 2)) (hp : pc + 2 = pc') (kk : G p l e R s m args below meth c n0 h0 ws Q cells slots h (mkF m pc' ls (.int v :: st))) : G p l e R s m args below meth c n0 h0 ws Q cells slots h (mkF m pc ls st) := by
  subst hp
  exact G.stepX (fun T locs k n t X _ q => X.ldcInt B.1.1 B.1.2.2.2.1 (mvT B.1.2.2.2.2 w) (g := mkF m pc ls st) rfl (hb B.1.2.1 hd) t q) kk
theorem G.ldcW {index : Nat} {v : Int32} (B : Cx p s m meth c Z own nm bytes maxL rt n0 h0 ws) (w : (Jvm.Cond.constant own index v).before a0 Z = true) (hd : decode bytes pc = .ok (.ldc_w index, 3)) (hp : pc + 3 = pc') (kk : G p l e R s m args below meth c n0 h0 ws Q cells slots h (mkF m pc' ls (.int v :: st))) : G p l e R s m args below meth c n0 h0 ws Q cells slots h (mkF m pc ls st) := by
  subst hp
  exact G.stepX (fun T locs k n t X _ q => X.ldcwInt B.1.1 B.1.2.2.2.1 (mvT B.1.2.2.2.2 w) (g := mkF m pc ls st) rfl (hb B.1.2.1 hd) t q) kk
theorem G.retV {Q' : Heap → Prop} (B : Cx p s m meth c Z own nm bytes maxL none n0 h0 ws) (hd : decode bytes pc = .ok (.return_, 1)) (hc : cells ≤ R.cells) (hs : slots ≤ R.slots) (hQ : Q' h) : G p l e R s m args below meth c n0 h0 ws (RV Q') cells slots h (mkF m pc ls []) :=
  G.out (v := none) B (fun _ => rfl) hc hs ⟨rfl, hQ⟩ (fun T locs k n fs X hr => X.returnOut B.1.1 B.2.1 (hb B.1.2.1 hd) hr)
theorem G.retI {Q' : Int32 → Heap → Prop} {z : Int32} (B : Cx p s m meth c Z own nm bytes maxL (some .int) n0 h0 ws) (hd : decode bytes pc = .ok (.ireturn, 1)) (hc : cells ≤ R.cells) (hs : slots ≤ R.slots) (hQ : Q' z h) : G p l e R s m args below meth c n0 h0 ws (RI Q') cells slots h (mkF m pc ls (.int z :: st)) :=
  G.out (v := some (.int z)) B (fun q => nomatch q) hc hs ⟨z, rfl, hQ⟩ (fun T locs k n fs X hr => Jvm.RoadKit.retI X B.1.1 B.2.1 (hb B.1.2.1 hd) hr)
theorem G.retN {Q' : Int32 → Heap → Prop} {z : Int32} {t : FieldType} (B : Cx p s m meth c Z own nm bytes maxL (some t) n0 h0 ws) (ht : t = .boolean ∨ t = .byte ∨ t = .char ∨ t = .short) (hd : decode bytes pc = .ok (.ireturn, 1)) (hc : cells ≤ R.cells) (hs : slots ≤ R.slots) (hQ : Q' (nar t z) h) : G p l e R s m args below meth c n0 h0 ws (RI Q') cells slots h (mkF m pc ls (.int z :: st)) :=
  G.out (v := some (.int (nar t z))) B (fun q => nomatch q) hc hs ⟨_, rfl, hQ⟩ (fun T locs k n fs X hr => Jvm.RoadKit.retN X B.1.1 B.2.1 ht (hb B.1.2.1 hd) hr)
theorem G.retZ {Q' : Int32 → Heap → Prop} {z : Int32} (B : Cx p s m meth c Z own nm bytes maxL (some .boolean) n0 h0 ws) (hd : decode bytes pc = .ok (.ireturn, 1)) (hc : cells ≤ R.cells) (hs : slots ≤ R.slots) (hz : z = 0 ∨ z = 1) (hQ : Q' z h) : G p l e R s m args below meth c n0 h0 ws (RI Q') cells slots h (mkF m pc ls (.int z :: st)) :=
  G.retN B (Or.inl rfl) hd hc hs (by rcases hz with rfl | rfl <;> exact hQ)
theorem own_retJ {T : State} {locs : List Loc} {Ls : Array Slot} {w : Int64} {rest : List Value} (X : Stand p l e R s m args below meth c T locs cells slots) (hx : p.tables.exec = Jvm.exec) (hret : meth.sig.returnType = some .long) (hd : decode c.code pc = .ok (.lreturn, 1)) {fs : List Frame}
    (hr : ∀ (f : JFrame) (acts : List Action), f.method = m → f.locked = none → f.entered = [] → (doReturn e (T.setTop f) acts (some (.long w))).1 = T.setFrames fs) : Steps p.tables e below (T.setTop (mkF m pc Ls (.long w :: rest))) (T.setFrames fs) := by
  have hm' : T.vm.method? m = some meth := X.method'
  show Steps p.tables e below (T.setTop { method := m, pc := pc, locals := Ls, stack := _ :: rest, locked := none }) _
  jvm_step X.here [X.here.top, hx, hd, hm', hret, narrow]
  first | (intro acts; rw [hr _ acts rfl rfl rfl]) | rw [hr _ _ rfl rfl rfl]
  exact Steps.refl _
theorem G.retJ {Q' : Int64 → Heap → Prop} {z : Int64} (B : Cx p s m meth c Z own nm bytes maxL (some .long) n0 h0 ws) (hd : decode bytes pc = .ok (.lreturn, 1)) (hc : cells ≤ R.cells) (hs : slots ≤ R.slots) (hQ : Q' z h) : G p l e R s m args below meth c n0 h0 ws (RJ Q') cells slots h (mkF m pc ls (.long z :: st)) :=
  G.out (v := some (.long z)) B (fun q => nomatch q) hc hs ⟨z, rfl, hQ⟩ (fun T locs k n fs X hr => own_retJ X B.1.1 B.2.1 (hb B.1.2.1 hd) hr)
theorem own_retA {T : State} {locs : List Loc} {Ls : Array Slot} {w : Addr} {rest : List Value} {t : FieldType} (X : Stand p l e R s m args below meth c T locs cells slots) (hx : p.tables.exec = Jvm.exec) (hret : meth.sig.returnType = some t) (ht : t.isReference = true) (hd : decode c.code pc = .ok (.areturn, 1)) {fs : List Frame}
    (hr : ∀ (f : JFrame) (acts : List Action), f.method = m → f.locked = none → f.entered = [] → (doReturn e (T.setTop f) acts (some (.ref w))).1 = T.setFrames fs) : Steps p.tables e below (T.setTop (mkF m pc Ls (.ref w :: rest))) (T.setFrames fs) := by
  have hm' : T.vm.method? m = some meth := X.method'
  show Steps p.tables e below (T.setTop { method := m, pc := pc, locals := Ls, stack := _ :: rest, locked := none }) _
  jvm_step X.here [X.here.top, hx, hd, hm', hret, Value.isRef, ht]
  first | (intro acts; rw [hr _ acts rfl rfl rfl]) | rw [hr _ _ rfl rfl rfl]
  exact Steps.refl _
theorem G.retA {Q' : Addr → Heap → Prop} {z : Addr} {t : FieldType} (B : Cx p s m meth c Z own nm bytes maxL (some t) n0 h0 ws) (ht : t.isReference = true) (hd : decode bytes pc = .ok (.areturn, 1)) (hc : cells ≤ R.cells) (hs : slots ≤ R.slots) (hQ : Q' z h) : G p l e R s m args below meth c n0 h0 ws (RA Q') cells slots h (mkF m pc ls (.ref z :: st)) :=
  G.out (v := some (.ref z)) B (fun q => nomatch q) hc hs ⟨z, rfl, hQ⟩ (fun T locs k n fs X hr => own_retA X B.1.1 B.2.1 ht (hb B.1.2.1 hd) hr)
theorem G.getF {R0 O n d host : String} {index : Nat} {a : Addr} {v : Value} (B : Cx p s m meth c Z own nm bytes maxL rt n0 h0 ws) (w : (Jvm.Cond.fieldLink own index R0 n d).before a0 Z = true ∨ (Jvm.Cond.fieldLinkNest own index R0 n d host).before a0 Z = true) (via : Via Z R0 O n d) (Fd : Fld Z h a O n d v) (hd : decode bytes pc = .ok (.getfield index, 3)) (hp : pc + 3 = pc') (kk : G p l e R s m args below meth c n0 h0 ws Q cells slots h (mkF m pc' ls (v :: st))) : G p l e R s m args below meth c n0 h0 ws Q cells slots h (mkF m pc ls (.ref a :: st)) := by
  subst hp
  exact G.stepT (fun T locs k n X eT => Jvm.RoadKit.getF X B.1.1 B.1.2.2.2.2 B.1.2.2.2.1 w via eT Fd (g := (mkF m pc ls (.ref a :: st))) rfl rfl (hb B.1.2.1 hd)) kk
theorem G.putF {R0 O n d C : String} {index kq : Nat} {ty : FieldType} {a : Addr} {v v' old : Value} (B : Cx p s m meth c Z own nm bytes maxL rt n0 h0 ws) (w : (Jvm.Cond.fieldLink own index R0 n d).before a0 Z = true) (via : Via Z R0 O n d) (Fd : Fld Z h a O n d old) (E : Exa Z h a C) (L : (Jvm.Cond.lays C O n d).before a0 Z = true ∨ ((Jvm.Cond.laysFinal C O n d).before a0 Z = true ∧ own = O ∧ nm = "<init>")) (wi : (Jvm.Cond.instantiable C kq).before a0 Z = true)
    (hty : parseFieldDescriptor d = some ty) (hn : narrow ty v = v') (hf : fits ty v' = true) (ha : a ∈ ws ∨ h0.size ≤ a) (hd : decode bytes pc = .ok (.putfield index, 3)) (hp : pc + 3 = pc') (kk : ∀ h', Wr h h' a (Jvm.RoadKit.slotOf Z O n d) v' → G p l e R s m args below meth c n0 h0 ws Q cells slots h' (mkF m pc' ls st)) : G p l e R s m args below meth c n0 h0 ws Q cells slots h (mkF m pc ls (v :: .ref a :: st)) := by
  subst hp
  exact G.wr B ha (fun T locs k n X eT => Jvm.RoadKit.putFN X B.1.1 B.1.2.2.2.2 B.1.2.2.2.1 w via eT Fd E (L.imp id (fun q => ⟨q.1, q.2.1, B.2.2.2.1.trans q.2.2⟩)) wi hty hn hf (g := (mkF m pc ls (v :: .ref a :: st))) rfl rfl (hb B.1.2.1 hd)) kk
theorem G.newO {C : String} {index q : Nat} (B : Cx p s m meth c Z own nm bytes maxL rt n0 h0 ws) (w : (Jvm.Cond.classLink own index C).before a0 Z = true) (wi : (Jvm.Cond.instantiable C q).before a0 Z = true) (wz : (Jvm.Cond.initialized C).before a0 Z = true) (hd : decode bytes pc = .ok (.new index, 3)) (hp : pc + 3 = pc') (hc : cells + 1 ≤ R.cells) (hl : slots + q ≤ R.slots)
    (kk : ∀ h' a, a = h.size → h0.size ≤ a → Keep h h' [] → a < h'.size → Exa Z h' a C → (∀ {O n d : String} {ty : FieldType}, Laid Z a0 C O n d → parseFieldDescriptor d = some ty → Fld Z h' a O n d (defaultValue ty)) → G p l e R s m args below meth c n0 h0 ws Q (cells + 1) (slots + q) h' (mkF m pc' ls (.ref a :: st))) : G p l e R s m args below meth c n0 h0 ws Q cells slots h (mkF m pc ls st) := fun T locs k n X hk hn eT N K => by
  subst hp
  obtain ⟨T', h', X', e', E', A', D', -, stp⟩ := Jvm.RoadKit.newO X B.1.1 B.1.2.2.2.2 B.1.2.2.2.1 w wi wz eT (g := (mkF m pc ls st)) rfl (hb B.1.2.1 hd) (Nat.le_trans (Nat.add_le_add_right hk 1) hc) (Nat.le_trans (Nat.add_le_add_right hn q) hl)
  obtain ⟨U, v, L, hs, r⟩ := kk h' h.size rfl K.1 ((Keep.refl h []).ext E') A'.lt A' D' T' locs (k + 1) (n + q) X' (Nat.add_le_add_right hk 1) (Nat.add_le_add_right hn q) e' N (K.ext E')
  exact ⟨U, v, L, stp U hs, r⟩
theorem G.initO {index W : Nat} {a : Addr} (B : Cx p s m meth c Z own nm bytes maxL rt n0 h0 ws) (w1 : (Jvm.Cond.methodLink own index Lib.objectInit).before a0 Z = true) (w2 : (Jvm.Cond.instanceMethod Lib.objectInit).before a0 Z = true) (w3 : (Jvm.Cond.code Lib.objectInit ⟨#[0xb1]⟩ 1 none).before a0 Z = true) (hsz : ls.size = maxL) (hd : decode bytes pc = .ok (.invokespecial index, 3)) (hp : pc + 3 = pc') (hf : 1 ≤ R.frames) (hW : 2 * 0 + (st.map fun v => v.category).sum ≤ W) (hl : W + 12 ≤ R.locals) (kk : G p l e R s m args below meth c n0 h0 ws Q cells slots h (mkF m pc' ls st)) : G p l e R s m args below meth c n0 h0 ws Q cells slots h (mkF m pc ls (.ref a :: st)) := by
  subst hp
  exact G.stepT (fun T locs k n X eT => Jvm.RoadKit.initO X B.1.1 B.1.2.2.2.2 B.1.2.2.2.1 w1 w2 w3 eT (g := (mkF m pc ls (.ref a :: st))) rfl (hsz.trans B.1.2.2.1.symm) rfl (hb B.1.2.1 hd) hf (W := W) hW hl) kk
/-- an array of longs, of length n, its elements f -/
def ArJ (Z : State) (h : Heap) (a : Addr) (n : Nat) (f : Nat → Int64) : Prop := ∃ cl : Cell, Arr Z h a cl .long ∧ cl.slots.size = n ∧ n < 2147483648 ∧ ∀ i, i < n → cl.slots[i]? = some (.long (f i))
/-- an array of ints, bytes, booleans, chars or shorts -/
def ArI (Z : State) (h : Heap) (a : Addr) (ty : FieldType) (n : Nat) (f : Nat → Int32) : Prop := ∃ cl : Cell, Arr Z h a cl ty ∧ cl.slots.size = n ∧ n < 2147483648 ∧ ∀ i, i < n → cl.slots[i]? = some (.int (f i))
/-- f with v at the place j -/
def up {α : Type} (f : Nat → α) (j : Nat) (v : α) : Nat → α := fun i => if i = j then v else f i
theorem ArJ.lt {a : Addr} {n : Nat} {f : Nat → Int64} (A : ArJ Z h a n f) : a < h.size := by obtain ⟨cl, A, -⟩ := A; exact A.lt
theorem ArI.lt {a : Addr} {ty : FieldType} {n : Nat} {f : Nat → Int32} (A : ArI Z h a ty n f) : a < h.size := by obtain ⟨cl, A, -⟩ := A; exact A.lt
theorem ArJ.keep {a : Addr} {n : Nat} {f : Nat → Int64} {h' : Heap} {vs : List Addr} (A : ArJ Z h a n f) (K : Keep h h' vs) (q : a ∉ vs) : ArJ Z h' a n f := by obtain ⟨cl, A, r⟩ := A; exact ⟨cl, ⟨K.2.1 a cl A.1 q, A.2⟩, r⟩
theorem ArI.keep {a : Addr} {ty : FieldType} {n : Nat} {f : Nat → Int32} {h' : Heap} {vs : List Addr} (A : ArI Z h a ty n f) (K : Keep h h' vs) (q : a ∉ vs) : ArI Z h' a ty n f := by obtain ⟨cl, A, r⟩ := A; exact ⟨cl, ⟨K.2.1 a cl A.1 q, A.2⟩, r⟩
theorem own_idx {j : Int32} {i n : Nat} (hj : j.toInt = (i : Int)) (hi : i < n) : ¬ (j < 0 ∨ n ≤ j.toNatClampNeg) ∧ j.toNatClampNeg = i := by
  have h1 : j.toNatClampNeg = i := by show j.toInt.toNat = i; omega
  refine ⟨?_, h1⟩
  rintro (q | q)
  · rw [Int32.lt_iff_toInt_lt, Int32.toInt_zero] at q; omega
  · omega
theorem own_set {a : Addr} {cl : Cell} {ty : FieldType} {h' : Heap} {i n : Nat} {v : Value} {g : Nat → Value} (A : Arr Z h a cl ty) (hs : cl.slots.size = n) (hv : ∀ i, i < n → cl.slots[i]? = some (g i)) (W : Wr h h' a i v) : ∃ cl' : Cell, Arr Z h' a cl' ty ∧ cl'.slots.size = n ∧ ∀ k, k < n → cl'.slots[k]? = some (if k = i then v else g k) := by
  obtain ⟨cb', q1, q2, q3, q4, q5, q6, q7⟩ := wr_at W A.1
  obtain ⟨r1, r2, r3⟩ := q7 rfl
  subst r1
  refine ⟨_, A.same W, q4.trans hs, fun k hk => ?_⟩
  by_cases e : k = i
  · subst e; rw [if_pos rfl]; exact r2
  · rw [if_neg e, q6 k e]; exact hv k hk
theorem ArJ.set {a : Addr} {n : Nat} {f : Nat → Int64} {h' : Heap} {i : Nat} {v : Int64} (A : ArJ Z h a n f) (W : Wr h h' a i (.long v)) : ArJ Z h' a n (up f i v) := by
  obtain ⟨cl, A, hs, hn, hv⟩ := A
  obtain ⟨cl', A', hs', hv'⟩ := own_set (g := fun i => .long (f i)) A hs hv W
  refine ⟨cl', A', hs', hn, fun k hk => ?_⟩
  rw [hv' k hk]; unfold up; split <;> rfl
theorem ArI.set {a : Addr} {ty : FieldType} {n : Nat} {f : Nat → Int32} {h' : Heap} {i : Nat} {v : Int32} (A : ArI Z h a ty n f) (W : Wr h h' a i (.int v)) : ArI Z h' a ty n (up f i v) := by
  obtain ⟨cl, A, hs, hn, hv⟩ := A
  obtain ⟨cl', A', hs', hv'⟩ := own_set (g := fun i => .int (f i)) A hs hv W
  refine ⟨cl', A', hs', hn, fun k hk => ?_⟩
  rw [hv' k hk]; unfold up; split <;> rfl
theorem ArJ.congr {a : Addr} {n : Nat} {f g : Nat → Int64} (A : ArJ Z h a n f) (q : ∀ i, i < n → f i = g i) : ArJ Z h a n g := by
  obtain ⟨cl, A, hs, hn, hv⟩ := A
  exact ⟨cl, A, hs, hn, fun i hi => by rw [← q i hi]; exact hv i hi⟩
theorem ArI.congr {a : Addr} {ty : FieldType} {n : Nat} {f g : Nat → Int32} (A : ArI Z h a ty n f) (q : ∀ i, i < n → f i = g i) : ArI Z h a ty n g := by
  obtain ⟨cl, A, hs, hn, hv⟩ := A
  exact ⟨cl, A, hs, hn, fun i hi => by rw [← q i hi]; exact hv i hi⟩
theorem G.stJ {a : Addr} {j : Int32} {i n : Nat} {f : Nat → Int64} {x : Int64} (B : Cx p s m meth c Z own nm bytes maxL rt n0 h0 ws) (A : ArJ Z h a n f) (hj : j.toInt = (i : Int)) (hi : i < n) (ha : a ∈ ws ∨ h0.size ≤ a) (hd : decode bytes pc = .ok (.lastore, 1)) (hp : pc + 1 = pc') (kk : ∀ h', Keep h h' [a] → ArJ Z h' a n (up f i x) → G p l e R s m args below meth c n0 h0 ws Q cells slots h' (mkF m pc' ls st)) : G p l e R s m args below meth c n0 h0 ws Q cells slots h (mkF m pc ls (.long x :: .int j :: .ref a :: st)) := by
  subst hp
  have A0 := A
  obtain ⟨cl, A, hs, hn, hv⟩ := A
  obtain ⟨hin, hjn⟩ := own_idx hj (hs.symm ▸ hi : i < cl.slots.size)
  exact G.wr B ha (fun T locs k n X eT => Jvm.RoadKit.stJ X B.1.1 B.1.2.2.2.2 eT A (j := j) hin (g := (mkF m pc ls (.long x :: .int j :: .ref a :: st))) rfl rfl (hb B.1.2.1 hd)) (fun h' W => kk h' (Keep.of_wr W) (A0.set (hjn ▸ W)))
theorem G.stI {a : Addr} {j : Int32} {i n : Nat} {f : Nat → Int32} {x : Int32} (B : Cx p s m meth c Z own nm bytes maxL rt n0 h0 ws) (A : ArI Z h a .int n f) (hj : j.toInt = (i : Int)) (hi : i < n) (ha : a ∈ ws ∨ h0.size ≤ a) (hd : decode bytes pc = .ok (.iastore, 1)) (hp : pc + 1 = pc') (kk : ∀ h', Keep h h' [a] → ArI Z h' a .int n (up f i x) → G p l e R s m args below meth c n0 h0 ws Q cells slots h' (mkF m pc' ls st)) : G p l e R s m args below meth c n0 h0 ws Q cells slots h (mkF m pc ls (.int x :: .int j :: .ref a :: st)) := by
  subst hp
  have A0 := A
  obtain ⟨cl, A, hs, hn, hv⟩ := A
  obtain ⟨hin, hjn⟩ := own_idx hj (hs.symm ▸ hi : i < cl.slots.size)
  exact G.wr B ha (fun T locs k n X eT => Jvm.RoadKit.stI X B.1.1 B.1.2.2.2.2 eT A (j := j) hin (g := (mkF m pc ls (.int x :: .int j :: .ref a :: st))) rfl rfl (hb B.1.2.1 hd)) (fun h' W => kk h' (Keep.of_wr W) (A0.set (hjn ▸ W)))
theorem G.stB {a : Addr} {j : Int32} {i n : Nat} {f : Nat → Int32} {x z : Int32} (B : Cx p s m meth c Z own nm bytes maxL rt n0 h0 ws) (A : ArI Z h a .byte n f) (hj : j.toInt = (i : Int)) (hi : i < n) (ha : a ∈ ws ∨ h0.size ≤ a) (hz : nar .byte x = z) (hd : decode bytes pc = .ok (.bastore, 1)) (hp : pc + 1 = pc') (kk : ∀ h', Keep h h' [a] → ArI Z h' a .byte n (up f i z) → G p l e R s m args below meth c n0 h0 ws Q cells slots h' (mkF m pc' ls st)) : G p l e R s m args below meth c n0 h0 ws Q cells slots h (mkF m pc ls (.int x :: .int j :: .ref a :: st)) := by
  subst hp hz
  have A0 := A
  obtain ⟨cl, A, hs, hn, hv⟩ := A
  obtain ⟨hin, hjn⟩ := own_idx hj (hs.symm ▸ hi : i < cl.slots.size)
  exact G.wr B ha (fun T locs k n X eT => Jvm.RoadKit.stB X B.1.1 B.1.2.2.2.2 eT A (j := j) hin (g := (mkF m pc ls (.int x :: .int j :: .ref a :: st))) rfl rfl (hb B.1.2.1 hd)) (fun h' W => kk h' (Keep.of_wr W) (A0.set (hjn ▸ W)))
theorem G.stZ {a : Addr} {j : Int32} {i n : Nat} {f : Nat → Int32} {x z : Int32} (B : Cx p s m meth c Z own nm bytes maxL rt n0 h0 ws) (A : ArI Z h a .boolean n f) (hj : j.toInt = (i : Int)) (hi : i < n) (ha : a ∈ ws ∨ h0.size ≤ a) (hz : nar .boolean x = z) (hd : decode bytes pc = .ok (.bastore, 1)) (hp : pc + 1 = pc') (kk : ∀ h', Keep h h' [a] → ArI Z h' a .boolean n (up f i z) → G p l e R s m args below meth c n0 h0 ws Q cells slots h' (mkF m pc' ls st)) : G p l e R s m args below meth c n0 h0 ws Q cells slots h (mkF m pc ls (.int x :: .int j :: .ref a :: st)) := by
  subst hp hz
  have A0 := A
  obtain ⟨cl, A, hs, hn, hv⟩ := A
  obtain ⟨hin, hjn⟩ := own_idx hj (hs.symm ▸ hi : i < cl.slots.size)
  exact G.wr B ha (fun T locs k n X eT => Jvm.RoadKit.stZ X B.1.1 B.1.2.2.2.2 eT A (j := j) hin (g := (mkF m pc ls (.int x :: .int j :: .ref a :: st))) rfl rfl (hb B.1.2.1 hd)) (fun h' W => kk h' (Keep.of_wr W) (A0.set (hjn ▸ W)))
theorem G.stC {a : Addr} {j : Int32} {i n : Nat} {f : Nat → Int32} {x z : Int32} (B : Cx p s m meth c Z own nm bytes maxL rt n0 h0 ws) (A : ArI Z h a .char n f) (hj : j.toInt = (i : Int)) (hi : i < n) (ha : a ∈ ws ∨ h0.size ≤ a) (hz : nar .char x = z) (hd : decode bytes pc = .ok (.castore, 1)) (hp : pc + 1 = pc') (kk : ∀ h', Keep h h' [a] → ArI Z h' a .char n (up f i z) → G p l e R s m args below meth c n0 h0 ws Q cells slots h' (mkF m pc' ls st)) : G p l e R s m args below meth c n0 h0 ws Q cells slots h (mkF m pc ls (.int x :: .int j :: .ref a :: st)) := by
  subst hp hz
  have A0 := A
  obtain ⟨cl, A, hs, hn, hv⟩ := A
  obtain ⟨hin, hjn⟩ := own_idx hj (hs.symm ▸ hi : i < cl.slots.size)
  exact G.wr B ha (fun T locs k n X eT => Jvm.RoadKit.stC X B.1.1 B.1.2.2.2.2 eT A (j := j) hin (g := (mkF m pc ls (.int x :: .int j :: .ref a :: st))) rfl rfl (hb B.1.2.1 hd)) (fun h' W => kk h' (Keep.of_wr W) (A0.set (hjn ▸ W)))
theorem G.ldJ {a : Addr} {j : Int32} {i n : Nat} {f : Nat → Int64} {x : Int64} (B : Cx p s m meth c Z own nm bytes maxL rt n0 h0 ws) (A : ArJ Z h a n f) (hj : j.toInt = (i : Int)) (hi : i < n) (hv : f i = x) (hd : decode bytes pc = .ok (.laload, 1)) (hp : pc + 1 = pc') (kk : G p l e R s m args below meth c n0 h0 ws Q cells slots h (mkF m pc' ls (.long x :: st))) : G p l e R s m args below meth c n0 h0 ws Q cells slots h (mkF m pc ls (.int j :: .ref a :: st)) := by
  subst hp hv
  obtain ⟨cl, A, hs, hn, hv⟩ := A
  obtain ⟨hin, hjn⟩ := own_idx hj (hs.symm ▸ hi : i < cl.slots.size)
  exact G.stepX (fun T locs k n t X eT q => X.laload B.1.1 (j := j) (by rw [eT]; exact A.1) (State.isArrayOf_alike B.1.2.2.2.2.alike A.2.1) A.2.2 hin (by rw [hjn]; exact hv i hi) (g := (mkF m pc ls (.int j :: .ref a :: st))) rfl rfl (hb B.1.2.1 hd) _ q) kk
theorem G.ldI {a : Addr} {j : Int32} {i n : Nat} {f : Nat → Int32} {x : Int32} (B : Cx p s m meth c Z own nm bytes maxL rt n0 h0 ws) (A : ArI Z h a .int n f) (hj : j.toInt = (i : Int)) (hi : i < n) (hv : f i = x) (hd : decode bytes pc = .ok (.iaload, 1)) (hp : pc + 1 = pc') (kk : G p l e R s m args below meth c n0 h0 ws Q cells slots h (mkF m pc' ls (.int x :: st))) : G p l e R s m args below meth c n0 h0 ws Q cells slots h (mkF m pc ls (.int j :: .ref a :: st)) := by
  subst hp hv
  obtain ⟨cl, A, hs, hn, hv⟩ := A
  obtain ⟨hin, hjn⟩ := own_idx hj (hs.symm ▸ hi : i < cl.slots.size)
  exact G.stepX (fun T locs k n t X eT q => X.iaload B.1.1 (j := j) (by rw [eT]; exact A.1) (State.isArrayOf_alike B.1.2.2.2.2.alike A.2.1) A.2.2 hin (by rw [hjn]; exact hv i hi) (g := (mkF m pc ls (.int j :: .ref a :: st))) rfl rfl (hb B.1.2.1 hd) _ q) kk
theorem G.ldC {a : Addr} {j : Int32} {i n : Nat} {f : Nat → Int32} {x : Int32} (B : Cx p s m meth c Z own nm bytes maxL rt n0 h0 ws) (A : ArI Z h a .char n f) (hj : j.toInt = (i : Int)) (hi : i < n) (hv : f i = x) (hd : decode bytes pc = .ok (.caload, 1)) (hp : pc + 1 = pc') (kk : G p l e R s m args below meth c n0 h0 ws Q cells slots h (mkF m pc' ls (.int x :: st))) : G p l e R s m args below meth c n0 h0 ws Q cells slots h (mkF m pc ls (.int j :: .ref a :: st)) := by
  subst hp hv
  obtain ⟨cl, A, hs, hn, hv⟩ := A
  obtain ⟨hin, hjn⟩ := own_idx hj (hs.symm ▸ hi : i < cl.slots.size)
  exact G.stepX (fun T locs k n t X eT q => X.caload B.1.1 (j := j) (by rw [eT]; exact A.1) (State.isArrayOf_alike B.1.2.2.2.2.alike A.2.1) A.2.2 hin (by rw [hjn]; exact hv i hi) (g := (mkF m pc ls (.int j :: .ref a :: st))) rfl rfl (hb B.1.2.1 hd) _ q) kk
theorem G.ldB {a : Addr} {j : Int32} {i n : Nat} {f : Nat → Int32} {x : Int32} (B : Cx p s m meth c Z own nm bytes maxL rt n0 h0 ws) (A : ArI Z h a .byte n f) (hj : j.toInt = (i : Int)) (hi : i < n) (hv : f i = x) (hd : decode bytes pc = .ok (.baload, 1)) (hp : pc + 1 = pc') (kk : G p l e R s m args below meth c n0 h0 ws Q cells slots h (mkF m pc' ls (.int x :: st))) : G p l e R s m args below meth c n0 h0 ws Q cells slots h (mkF m pc ls (.int j :: .ref a :: st)) := by
  subst hp hv
  obtain ⟨cl, A, hs, hn, hv⟩ := A
  obtain ⟨hin, hjn⟩ := own_idx hj (hs.symm ▸ hi : i < cl.slots.size)
  exact G.stepX (fun T locs k n t X eT q => X.baloadBytes B.1.1 (j := j) (by rw [eT]; exact A.1) (State.isArrayOf_alike B.1.2.2.2.2.alike A.2.1) A.2.2 hin (by rw [hjn]; exact hv i hi) (g := (mkF m pc ls (.int j :: .ref a :: st))) rfl rfl (hb B.1.2.1 hd) _ q) kk
theorem G.ldZ {a : Addr} {j : Int32} {i n : Nat} {f : Nat → Int32} {x : Int32} (B : Cx p s m meth c Z own nm bytes maxL rt n0 h0 ws) (A : ArI Z h a .boolean n f) (hj : j.toInt = (i : Int)) (hi : i < n) (hv : f i = x) (hd : decode bytes pc = .ok (.baload, 1)) (hp : pc + 1 = pc') (kk : G p l e R s m args below meth c n0 h0 ws Q cells slots h (mkF m pc' ls (.int x :: st))) : G p l e R s m args below meth c n0 h0 ws Q cells slots h (mkF m pc ls (.int j :: .ref a :: st)) := by
  subst hp hv
  obtain ⟨cl, A, hs, hn, hv⟩ := A
  obtain ⟨hin, hjn⟩ := own_idx hj (hs.symm ▸ hi : i < cl.slots.size)
  exact G.stepX (fun T locs k n t X eT q => X.baloadBooleans B.1.1 (j := j) (by rw [eT]; exact A.1) (State.isArrayOf_alike B.1.2.2.2.2.alike A.2.1) A.2.2 hin (by rw [hjn]; exact hv i hi) (g := (mkF m pc ls (.int j :: .ref a :: st))) rfl rfl (hb B.1.2.1 hd) _ q) kk
theorem G.lenJ {a : Addr} {n : Nat} {z : Int32} {f : Nat → Int64} (B : Cx p s m meth c Z own nm bytes maxL rt n0 h0 ws) (A : ArJ Z h a n f) (hz : Int32.ofNat n = z) (hd : decode bytes pc = .ok (.arraylength, 1)) (hp : pc + 1 = pc') (kk : G p l e R s m args below meth c n0 h0 ws Q cells slots h (mkF m pc' ls (.int z :: st))) : G p l e R s m args below meth c n0 h0 ws Q cells slots h (mkF m pc ls (.ref a :: st)) := by
  subst hp hz
  obtain ⟨cl, A, hs, hn, hv⟩ := A
  subst hs
  exact G.stepX (fun T locs k n t X eT q => X.arraylength B.1.1 (by rw [eT]; exact A.1) (State.isArrayOf_alike B.1.2.2.2.2.alike A.2.1) (g := (mkF m pc ls (.ref a :: st))) rfl rfl (hb B.1.2.1 hd) _ q) kk
theorem G.lenI {a : Addr} {n : Nat} {z : Int32} {f : Nat → Int32} {ty : FieldType} (B : Cx p s m meth c Z own nm bytes maxL rt n0 h0 ws) (A : ArI Z h a ty n f) (hz : Int32.ofNat n = z) (hd : decode bytes pc = .ok (.arraylength, 1)) (hp : pc + 1 = pc') (kk : G p l e R s m args below meth c n0 h0 ws Q cells slots h (mkF m pc' ls (.int z :: st))) : G p l e R s m args below meth c n0 h0 ws Q cells slots h (mkF m pc ls (.ref a :: st)) := by
  subst hp hz
  obtain ⟨cl, A, hs, hn, hv⟩ := A
  subst hs
  exact G.stepX (fun T locs k n t X eT q => X.arraylength B.1.1 (by rw [eT]; exact A.1) (State.isArrayOf_alike B.1.2.2.2.2.alike A.2.1) (g := (mkF m pc ls (.ref a :: st))) rfl rfl (hb B.1.2.1 hd) _ q) kk
theorem own_newJ {a : Addr} {cA : ClassId} {z : Int32} {n : Nat} (A : Arr Z h a (newA cA .long z) .long) (hz : z.toInt = (n : Int)) : ArJ Z h a n (fun _ => 0) := by
  have hr := rng32 z
  have h1 : z.toNatClampNeg = n := by show z.toInt.toNat = n; omega
  exact ⟨_, A, (sz_new _ _ _).trans h1, by omega, fun i hi => by simp [newA, h1, hi, defaultValue]⟩
theorem own_newI {a : Addr} {cA : ClassId} {z : Int32} {n : Nat} {ty : FieldType} (hd : defaultValue ty = .int 0) (A : Arr Z h a (newA cA ty z) ty) (hz : z.toInt = (n : Int)) : ArI Z h a ty n (fun _ => 0) := by
  have hr := rng32 z
  have h1 : z.toNatClampNeg = n := by show z.toInt.toNat = n; omega
  exact ⟨_, A, (sz_new _ _ _).trans h1, by omega, fun i hi => by simp [newA, h1, hi, hd]⟩
theorem G.newJ {z : Int32} {n cap : Nat} (B : Cx p s m meth c Z own nm bytes maxL rt n0 h0 ws) (w : (Jvm.Cond.arrayClass .long).before a0 Z = true) (hz : z.toInt = (n : Int)) (hcap : n ≤ cap) (hb8 : cap * 8 ≤ 536870912) (hd : decode bytes pc = .ok (.newarray .long, 2)) (hp : pc + 2 = pc') (hc : cells + 1 ≤ R.cells) (hl : slots + cap ≤ R.slots)
    (kk : ∀ h' a, a = h.size → h0.size ≤ a → Keep h h' [] → ArJ Z h' a n (fun _ => 0) → G p l e R s m args below meth c n0 h0 ws Q (cells + 1) (slots + cap) h' (mkF m pc' ls (.ref a :: st))) : G p l e R s m args below meth c n0 h0 ws Q cells slots h (mkF m pc ls (.int z :: st)) := fun T locs k n' X hk hn eT N K => by
  subst hp
  have hr := rng32 z
  have h1 : z.toNatClampNeg = n := by show z.toInt.toNat = n; omega
  obtain ⟨T', h', cA, X', e', E', A', stp⟩ := Jvm.RoadKit.newP X B.1.1 B.1.2.2.2.2 (aty := .long) w eT (g := (mkF m pc ls (.int z :: st))) rfl (hb B.1.2.1 hd) rfl (fun q => by rw [Int32.lt_iff_toInt_lt, Int32.toInt_zero] at q; omega) (cap := cap) (by omega) hb8 (Nat.le_trans (Nat.add_le_add_right hk 1) hc) (Nat.le_trans (Nat.add_le_add_right hn cap) hl)
  obtain ⟨U, v, L, hs, r⟩ := kk h' h.size rfl K.1 ((Keep.refl h []).ext E') (own_newJ A' hz) T' locs (k + 1) (n' + cap) X' (Nat.add_le_add_right hk 1) (Nat.add_le_add_right hn cap) e' N (K.ext E')
  exact ⟨U, v, L, stp U hs, r⟩
theorem G.newI {z : Int32} {n cap : Nat} (B : Cx p s m meth c Z own nm bytes maxL rt n0 h0 ws) (w : (Jvm.Cond.arrayClass .int).before a0 Z = true) (hz : z.toInt = (n : Int)) (hcap : n ≤ cap) (hb8 : cap * 8 ≤ 536870912) (hd : decode bytes pc = .ok (.newarray .int, 2)) (hp : pc + 2 = pc') (hc : cells + 1 ≤ R.cells) (hl : slots + cap ≤ R.slots)
    (kk : ∀ h' a, a = h.size → h0.size ≤ a → Keep h h' [] → ArI Z h' a .int n (fun _ => 0) → G p l e R s m args below meth c n0 h0 ws Q (cells + 1) (slots + cap) h' (mkF m pc' ls (.ref a :: st))) : G p l e R s m args below meth c n0 h0 ws Q cells slots h (mkF m pc ls (.int z :: st)) := fun T locs k n' X hk hn eT N K => by
  subst hp
  have hr := rng32 z
  have h1 : z.toNatClampNeg = n := by show z.toInt.toNat = n; omega
  obtain ⟨T', h', cA, X', e', E', A', stp⟩ := Jvm.RoadKit.newP X B.1.1 B.1.2.2.2.2 (aty := .int) w eT (g := (mkF m pc ls (.int z :: st))) rfl (hb B.1.2.1 hd) rfl (fun q => by rw [Int32.lt_iff_toInt_lt, Int32.toInt_zero] at q; omega) (cap := cap) (by omega) hb8 (Nat.le_trans (Nat.add_le_add_right hk 1) hc) (Nat.le_trans (Nat.add_le_add_right hn cap) hl)
  obtain ⟨U, v, L, hs, r⟩ := kk h' h.size rfl K.1 ((Keep.refl h []).ext E') (own_newI rfl A' hz) T' locs (k + 1) (n' + cap) X' (Nat.add_le_add_right hk 1) (Nat.add_le_add_right hn cap) e' N (K.ext E')
  exact ⟨U, v, L, stp U hs, r⟩
theorem G.newB {z : Int32} {n cap : Nat} (B : Cx p s m meth c Z own nm bytes maxL rt n0 h0 ws) (w : (Jvm.Cond.arrayClass .byte).before a0 Z = true) (hz : z.toInt = (n : Int)) (hcap : n ≤ cap) (hb8 : cap * 8 ≤ 536870912) (hd : decode bytes pc = .ok (.newarray .byte, 2)) (hp : pc + 2 = pc') (hc : cells + 1 ≤ R.cells) (hl : slots + cap ≤ R.slots)
    (kk : ∀ h' a, a = h.size → h0.size ≤ a → Keep h h' [] → ArI Z h' a .byte n (fun _ => 0) → G p l e R s m args below meth c n0 h0 ws Q (cells + 1) (slots + cap) h' (mkF m pc' ls (.ref a :: st))) : G p l e R s m args below meth c n0 h0 ws Q cells slots h (mkF m pc ls (.int z :: st)) := fun T locs k n' X hk hn eT N K => by
  subst hp
  have hr := rng32 z
  have h1 : z.toNatClampNeg = n := by show z.toInt.toNat = n; omega
  obtain ⟨T', h', cA, X', e', E', A', stp⟩ := Jvm.RoadKit.newP X B.1.1 B.1.2.2.2.2 (aty := .byte) w eT (g := (mkF m pc ls (.int z :: st))) rfl (hb B.1.2.1 hd) rfl (fun q => by rw [Int32.lt_iff_toInt_lt, Int32.toInt_zero] at q; omega) (cap := cap) (by omega) hb8 (Nat.le_trans (Nat.add_le_add_right hk 1) hc) (Nat.le_trans (Nat.add_le_add_right hn cap) hl)
  obtain ⟨U, v, L, hs, r⟩ := kk h' h.size rfl K.1 ((Keep.refl h []).ext E') (own_newI rfl A' hz) T' locs (k + 1) (n' + cap) X' (Nat.add_le_add_right hk 1) (Nat.add_le_add_right hn cap) e' N (K.ext E')
  exact ⟨U, v, L, stp U hs, r⟩
theorem G.newZ {z : Int32} {n cap : Nat} (B : Cx p s m meth c Z own nm bytes maxL rt n0 h0 ws) (w : (Jvm.Cond.arrayClass .boolean).before a0 Z = true) (hz : z.toInt = (n : Int)) (hcap : n ≤ cap) (hb8 : cap * 8 ≤ 536870912) (hd : decode bytes pc = .ok (.newarray .boolean, 2)) (hp : pc + 2 = pc') (hc : cells + 1 ≤ R.cells) (hl : slots + cap ≤ R.slots)
    (kk : ∀ h' a, a = h.size → h0.size ≤ a → Keep h h' [] → ArI Z h' a .boolean n (fun _ => 0) → G p l e R s m args below meth c n0 h0 ws Q (cells + 1) (slots + cap) h' (mkF m pc' ls (.ref a :: st))) : G p l e R s m args below meth c n0 h0 ws Q cells slots h (mkF m pc ls (.int z :: st)) := fun T locs k n' X hk hn eT N K => by
  subst hp
  have hr := rng32 z
  have h1 : z.toNatClampNeg = n := by show z.toInt.toNat = n; omega
  obtain ⟨T', h', cA, X', e', E', A', stp⟩ := Jvm.RoadKit.newP X B.1.1 B.1.2.2.2.2 (aty := .boolean) w eT (g := (mkF m pc ls (.int z :: st))) rfl (hb B.1.2.1 hd) rfl (fun q => by rw [Int32.lt_iff_toInt_lt, Int32.toInt_zero] at q; omega) (cap := cap) (by omega) hb8 (Nat.le_trans (Nat.add_le_add_right hk 1) hc) (Nat.le_trans (Nat.add_le_add_right hn cap) hl)
  obtain ⟨U, v, L, hs, r⟩ := kk h' h.size rfl K.1 ((Keep.refl h []).ext E') (own_newI rfl A' hz) T' locs (k + 1) (n' + cap) X' (Nat.add_le_add_right hk 1) (Nat.add_le_add_right hn cap) e' N (K.ext E')
  exact ⟨U, v, L, stp U hs, r⟩
theorem G.newC {z : Int32} {n cap : Nat} (B : Cx p s m meth c Z own nm bytes maxL rt n0 h0 ws) (w : (Jvm.Cond.arrayClass .char).before a0 Z = true) (hz : z.toInt = (n : Int)) (hcap : n ≤ cap) (hb8 : cap * 8 ≤ 536870912) (hd : decode bytes pc = .ok (.newarray .char, 2)) (hp : pc + 2 = pc') (hc : cells + 1 ≤ R.cells) (hl : slots + cap ≤ R.slots)
    (kk : ∀ h' a, a = h.size → h0.size ≤ a → Keep h h' [] → ArI Z h' a .char n (fun _ => 0) → G p l e R s m args below meth c n0 h0 ws Q (cells + 1) (slots + cap) h' (mkF m pc' ls (.ref a :: st))) : G p l e R s m args below meth c n0 h0 ws Q cells slots h (mkF m pc ls (.int z :: st)) := fun T locs k n' X hk hn eT N K => by
  subst hp
  have hr := rng32 z
  have h1 : z.toNatClampNeg = n := by show z.toInt.toNat = n; omega
  obtain ⟨T', h', cA, X', e', E', A', stp⟩ := Jvm.RoadKit.newP X B.1.1 B.1.2.2.2.2 (aty := .char) w eT (g := (mkF m pc ls (.int z :: st))) rfl (hb B.1.2.1 hd) rfl (fun q => by rw [Int32.lt_iff_toInt_lt, Int32.toInt_zero] at q; omega) (cap := cap) (by omega) hb8 (Nat.le_trans (Nat.add_le_add_right hk 1) hc) (Nat.le_trans (Nat.add_le_add_right hn cap) hl)
  obtain ⟨U, v, L, hs, r⟩ := kk h' h.size rfl K.1 ((Keep.refl h []).ext E') (own_newI rfl A' hz) T' locs (k + 1) (n' + cap) X' (Nat.add_le_add_right hk 1) (Nat.add_le_add_right hn cap) e' N (K.ext E')
  exact ⟨U, v, L, stp U hs, r⟩
theorem own_back {y : MethodName} {bytes' : ByteArray} {maxL' : Nat} {rt' : Option FieldType} {rm : Room} {as' : Array Value} {ws' : List Addr} {Q' : Option Value → Heap → Prop} {len W : Nat} (B : Cx p s m meth c Z own nm bytes maxL rt n0 h0 ws) (M : Mt l Z y bytes' maxL' rt' [] rm n0 as' h ws' Q') (wc : (Jvm.Cond.code y bytes' maxL' rt').before a0 Z = true) (wz : (Jvm.Cond.initialized y.cls).before a0 Z = true) (hf : rm.frames + 1 ≤ R.frames) (hl : W + (maxL' + 11) + rm.locals ≤ R.locals) :
    Back l R p e below s args y len W (fun A a => a = as' ∧ A.U.heap = h ∧ A.cells + rm.cells ≤ R.cells ∧ A.slots + rm.slots ≤ R.slots) (fun A _ v B => ∃ L, (Fr n0 L ∧ Keep h B.U.heap ws' ∧ Q' v B.U.heap) ∧ B.locs = A.locs ++ L ∧ B.cells = A.cells + rm.cells ∧ B.slots = A.slots + rm.slots) :=
  backOf (Q := fun v hh L => Fr n0 L ∧ Keep h hh ws' ∧ Q' v hh) M B.1.2.2.2.2 wc wz hf hl
theorem G.callS {y : MethodName} {bytes' : ByteArray} {maxL' : Nat} {rt' : Option FieldType} {rm : Room} {ws' : List Addr} {Q' : Option Value → Heap → Prop} {index W : Nat} {argsL rest : List Value} (B : Cx p s m meth c Z own nm bytes maxL rt n0 h0 ws) (w1 : (Jvm.Cond.methodLink own index y).before a0 Z = true) (w2 : (Jvm.Cond.static y).before a0 Z = true) (M : Mt l Z y bytes' maxL' rt' [] rm n0 argsL.toArray h ws' Q') (hws : ∀ x ∈ ws', x ∈ ws ∨ h0.size ≤ x) (wc : (Jvm.Cond.code y bytes' maxL' rt').before a0 Z = true) (wz : (Jvm.Cond.initialized y.cls).before a0 Z = true) (hy : y.cls ≠ "java/lang/invoke/MethodHandle" ∧ y.cls ≠ "java/lang/invoke/VarHandle") (hsz : ls.size = maxL) (hst : st = argsL.reverse ++ rest) (hlen : ∀ sig, parseMethodDescriptor y.desc = some sig → argsL.length = sig.parameters.length) (hf : rm.frames + 1 ≤ R.frames) (hW : 2 * 0 + (rest.map fun v => v.category).sum ≤ W) (hl : W + (maxL' + 11) + rm.locals ≤ R.locals) (hc : cells + rm.cells ≤ R.cells) (hs : slots + rm.slots ≤ R.slots) (hd : decode bytes pc = .ok (.invokestatic index, 3)) (hp : pc + 3 = pc')
    (kk : ∀ v h', Keep h h' ws' → Q' v h' → G p l e R s m args below meth c n0 h0 ws Q (cells + rm.cells) (slots + rm.slots) h' (mkF m pc' ls (v.toList ++ rest))) : G p l e R s m args below meth c n0 h0 ws Q cells slots h (mkF m pc ls st) := fun T locs k n X hk hn eT N K => by
  subst hp hst
  obtain ⟨v, _, ⟨T', L', k', n'⟩, -, X', ⟨Lc, hQ, l1, y1, z1⟩, stp⟩ := Jvm.LawKit.callS X B.1.1 (y := y) B.1.2.2.2.1 (mvT B.1.2.2.2.2 w1) (mvT B.1.2.2.2.2 w2) (mvT B.1.2.2.2.2 wz) (mvT B.1.2.2.2.2 wc) hy (own_back (W := W) B M wc wz hf hl) (g := (mkF m pc ls (argsL.reverse ++ rest))) rfl (hsz.trans B.1.2.2.1.symm) (argsL := argsL) (rest := rest) hlen rfl hW (hb B.1.2.1 hd) (fun _ _ => ⟨rfl, eT, Nat.le_trans (Nat.add_le_add_right hk _) hc, Nat.le_trans (Nat.add_le_add_right hn _) hs⟩)
  dsimp only [Pt.U, Pt.locs, Pt.cells, Pt.slots] at X' l1 y1 z1 stp hQ
  subst l1 y1 z1
  obtain ⟨U, v, L, hs', r⟩ := kk v T'.heap hQ.2.1 hQ.2.2 T' (locs ++ Lc) _ _ X' (Nat.add_le_add_right hk _) (Nat.add_le_add_right hn _) rfl (Fr.app N hQ.1) (K.trans hQ.2.1 hws)
  exact ⟨U, v, L, stp _ hs', r⟩
theorem G.callC {a : Addr} {y : MethodName} {bytes' : ByteArray} {maxL' : Nat} {rt' : Option FieldType} {rm : Room} {ws' : List Addr} {Q' : Option Value → Heap → Prop} {index W : Nat} {argsL rest : List Value} (B : Cx p s m meth c Z own nm bytes maxL rt n0 h0 ws) (w0 : y.name = "<init>") (w1 : (Jvm.Cond.methodLink own index y).before a0 Z = true) (w2 : (Jvm.Cond.instanceMethod y).before a0 Z = true) (hrt : rt' = none) (M : Mt l Z y bytes' maxL' rt' [] rm n0 (.ref a :: argsL).toArray h ws' Q') (hws : ∀ x ∈ ws', x ∈ ws ∨ h0.size ≤ x) (wc : (Jvm.Cond.code y bytes' maxL' rt').before a0 Z = true) (wz : (Jvm.Cond.initialized y.cls).before a0 Z = true) (hy : y.cls ≠ "java/lang/invoke/MethodHandle" ∧ y.cls ≠ "java/lang/invoke/VarHandle") (hsz : ls.size = maxL) (hst : st = argsL.reverse ++ .ref a :: rest) (hlen : ∀ sig, parseMethodDescriptor y.desc = some sig → argsL.length = sig.parameters.length) (hf : rm.frames + 1 ≤ R.frames) (hW : 2 * 0 + (rest.map fun v => v.category).sum ≤ W) (hl : W + (maxL' + 11) + rm.locals ≤ R.locals) (hc : cells + rm.cells ≤ R.cells) (hs : slots + rm.slots ≤ R.slots) (hd : decode bytes pc = .ok (.invokespecial index, 3)) (hp : pc + 3 = pc')
    (kk : ∀ v h', Keep h h' ws' → Q' v h' → G p l e R s m args below meth c n0 h0 ws Q (cells + rm.cells) (slots + rm.slots) h' (mkF m pc' ls (v.toList ++ rest))) : G p l e R s m args below meth c n0 h0 ws Q cells slots h (mkF m pc ls st) := fun T locs k n X hk hn eT N K => by
  subst hp hst
  subst hrt
  obtain ⟨v, _, ⟨T', L', k', n'⟩, -, X', ⟨Lc, hQ, l1, y1, z1⟩, stp⟩ := X.specialBack B.1.1 (y := y) w0 B.1.2.2.2.1 (mvT B.1.2.2.2.2 w1) (mvT B.1.2.2.2.2 w2) (mvT B.1.2.2.2.2 wc) hy (own_back (W := W) B M wc wz hf hl) (g := (mkF m pc ls (argsL.reverse ++ .ref a :: rest))) rfl (hsz.trans B.1.2.2.1.symm) (Steps.refl _) (a := a) (argsL := argsL) (rest := rest) hlen rfl hW (hb B.1.2.1 hd) (fun _ _ => ⟨rfl, eT, Nat.le_trans (Nat.add_le_add_right hk _) hc, Nat.le_trans (Nat.add_le_add_right hn _) hs⟩)
  dsimp only [Pt.U, Pt.locs, Pt.cells, Pt.slots] at X' l1 y1 z1 stp hQ
  subst l1 y1 z1
  obtain ⟨U, v, L, hs', r⟩ := kk v T'.heap hQ.2.1 hQ.2.2 T' (locs ++ Lc) _ _ X' (Nat.add_le_add_right hk _) (Nat.add_le_add_right hn _) rfl (Fr.app N hQ.1) (K.trans hQ.2.1 hws)
  exact ⟨U, v, L, stp.trans hs', r⟩
theorem G.callV {a : Addr} {y : MethodName} {bytes' : ByteArray} {maxL' : Nat} {rt' : Option FieldType} {rm : Room} {ws' : List Addr} {Q' : Option Value → Heap → Prop} {index W : Nat} {argsL rest : List Value} (B : Cx p s m meth c Z own nm bytes maxL rt n0 h0 ws) (E : Exa Z h a y.cls) (w1 : (Jvm.Cond.methodLink own index y).before a0 Z = true) (w2 : (Jvm.Cond.declares y).before a0 Z = true) (w3 : (Jvm.Cond.selects y.cls y y).before a0 Z = true) (w4 : (Jvm.Cond.instanceMethod y).before a0 Z = true) (M : Mt l Z y bytes' maxL' rt' [] rm n0 (.ref a :: argsL).toArray h ws' Q') (hws : ∀ x ∈ ws', x ∈ ws ∨ h0.size ≤ x) (wc : (Jvm.Cond.code y bytes' maxL' rt').before a0 Z = true) (wz : (Jvm.Cond.initialized y.cls).before a0 Z = true) (hy : y.cls ≠ "java/lang/invoke/MethodHandle" ∧ y.cls ≠ "java/lang/invoke/VarHandle") (hsz : ls.size = maxL) (hst : st = argsL.reverse ++ .ref a :: rest) (hlen : ∀ sig, parseMethodDescriptor y.desc = some sig → argsL.length = sig.parameters.length) (hf : rm.frames + 1 ≤ R.frames) (hW : 2 * 0 + (rest.map fun v => v.category).sum ≤ W) (hl : W + (maxL' + 11) + rm.locals ≤ R.locals) (hc : cells + rm.cells ≤ R.cells) (hs : slots + rm.slots ≤ R.slots) (hd : decode bytes pc = .ok (.invokevirtual index, 3)) (hp : pc + 3 = pc')
    (kk : ∀ v h', Keep h h' ws' → Q' v h' → G p l e R s m args below meth c n0 h0 ws Q (cells + rm.cells) (slots + rm.slots) h' (mkF m pc' ls (v.toList ++ rest))) : G p l e R s m args below meth c n0 h0 ws Q cells slots h (mkF m pc ls st) := fun T locs k n X hk hn eT N K => by
  subst hp hst
  obtain ⟨cq, kq, qa, qb, qc⟩ := isOf B.1.2.2.2.2 eT E
  obtain ⟨v, _, ⟨T', L', k', n'⟩, -, X', ⟨Lc, hQ, l1, y1, z1⟩, stp⟩ := X.virtualBack B.1.1 (y := y) (z := y) B.1.2.2.2.1 (mvT B.1.2.2.2.2 w1) (mvT B.1.2.2.2.2 w2) (notFace_of_selects (args := #[]) (mvT B.1.2.2.2.2 w3)) (mvT B.1.2.2.2.2 w3) (mvT B.1.2.2.2.2 w4) hy (own_back (W := W) B M wc wz hf hl) qa qc (g := (mkF m pc ls (argsL.reverse ++ .ref a :: rest))) rfl (hsz.trans B.1.2.2.1.symm) (Steps.refl _) (argsL := argsL) (rest := rest) hlen rfl hW (hb B.1.2.1 hd) (fun _ _ => ⟨rfl, eT, Nat.le_trans (Nat.add_le_add_right hk _) hc, Nat.le_trans (Nat.add_le_add_right hn _) hs⟩)
  dsimp only [Pt.U, Pt.locs, Pt.cells, Pt.slots] at X' l1 y1 z1 stp hQ
  subst l1 y1 z1
  obtain ⟨U, v, L, hs', r⟩ := kk v T'.heap hQ.2.1 hQ.2.2 T' (locs ++ Lc) _ _ X' (Nat.add_le_add_right hk _) (Nat.add_le_add_right hn _) rfl (Fr.app N hQ.1) (K.trans hQ.2.1 hws)
  exact ⟨U, v, L, stp.trans hs', r⟩
theorem own_sel {args : Array Value} {s : State} {y z : MethodName} {K : String} (hz : (Jvm.Cond.selects K z z).before args s = true) (hcl : z.cls = y.cls) (hinst : (Jvm.Cond.instanceMethod y).before args s = true) (hpriv : s.PrivateAt y) (hy : y.cls ≠ "java/lang/invoke/MethodHandle" ∧ y.cls ≠ "java/lang/invoke/VarHandle") : (Jvm.Cond.selects y.cls y y).before args s = true := by
  obtain ⟨mk, meth, hnamed, hmeth, hst, hab⟩ := Cond.instanceMethod_spec hinst
  obtain ⟨c2, r2, m2, q1, q2, q3, q4, kP, hkP, hkPi⟩ := Cond.selects_spec hz
  have h1 := findClass_of_methodNamed hnamed
  have h2 := findClass_of_methodNamed q3
  rw [hcl, h1] at h2
  have h3 : mk.cls = m2.cls := Option.some.inj h2
  rw [← h3] at hkP
  have h4 := State.methodFound?_of_named hnamed hy
  have h5 := selectMethod_private (p := {}) (c := mk.cls) hmeth (hpriv mk meth hnamed hmeth)
  simp [Cond.before, Cond.holds, Cond.value, h1, h4, hnamed, h5, hkP, hkPi]
theorem G.callP {a : Addr} {z : MethodName} {K : String} {y : MethodName} {bytes' : ByteArray} {maxL' : Nat} {rt' : Option FieldType} {rm : Room} {ws' : List Addr} {Q' : Option Value → Heap → Prop} {index W : Nat} {argsL rest : List Value} (B : Cx p s m meth c Z own nm bytes maxL rt n0 h0 ws) (E : Exa Z h a y.cls) (w1 : (Jvm.Cond.methodLink own index y).before a0 Z = true) (w2 : (Jvm.Cond.privateMethod y).before a0 Z = true) (w3 : (Jvm.Cond.selects K z z).before a0 Z = true) (hcl : z.cls = y.cls) (w4 : (Jvm.Cond.instanceMethod y).before a0 Z = true) (M : Mt l Z y bytes' maxL' rt' [] rm n0 (.ref a :: argsL).toArray h ws' Q') (hws : ∀ x ∈ ws', x ∈ ws ∨ h0.size ≤ x) (wc : (Jvm.Cond.code y bytes' maxL' rt').before a0 Z = true) (wz : (Jvm.Cond.initialized y.cls).before a0 Z = true) (hy : y.cls ≠ "java/lang/invoke/MethodHandle" ∧ y.cls ≠ "java/lang/invoke/VarHandle") (hsz : ls.size = maxL) (hst : st = argsL.reverse ++ .ref a :: rest) (hlen : ∀ sig, parseMethodDescriptor y.desc = some sig → argsL.length = sig.parameters.length) (hf : rm.frames + 1 ≤ R.frames) (hW : 2 * 0 + (rest.map fun v => v.category).sum ≤ W) (hl : W + (maxL' + 11) + rm.locals ≤ R.locals) (hc : cells + rm.cells ≤ R.cells) (hs : slots + rm.slots ≤ R.slots) (hd : decode bytes pc = .ok (.invokevirtual index, 3)) (hp : pc + 3 = pc')
    (kk : ∀ v h', Keep h h' ws' → Q' v h' → G p l e R s m args below meth c n0 h0 ws Q (cells + rm.cells) (slots + rm.slots) h' (mkF m pc' ls (v.toList ++ rest))) : G p l e R s m args below meth c n0 h0 ws Q cells slots h (mkF m pc ls st) := fun T locs k n X hk hn eT N K => by
  subst hp hst
  obtain ⟨cq, q1, q2⟩ := E.cell
  obtain ⟨v, _, ⟨T', L', k', n'⟩, -, X', ⟨Lc, hQ, l1, y1, z1⟩, stp⟩ := X.privateBack B.1.1 (y := y) B.1.2.2.2.1 (mvT B.1.2.2.2.2 w1) (mvT B.1.2.2.2.2 w4) (own_sel (mvT B.1.2.2.2.2 w3) hcl (mvT B.1.2.2.2.2 w4) (Cond.privateMethod_at (mvP B.1.2.2.2.2 w2 (args := #[]))) hy) (Cond.privateMethod_at (mvP B.1.2.2.2.2 w2 (args := #[]))) (mvT B.1.2.2.2.2 wc) hy (own_back (W := W) B M wc wz hf hl) (g := (mkF m pc ls (argsL.reverse ++ .ref a :: rest))) rfl (hsz.trans B.1.2.2.1.symm) (Steps.refl _) (a := a) (by rw [eT]; exact q1) q2 (argsL := argsL) (rest := rest) hlen rfl hW (hb B.1.2.1 hd) (fun _ _ => ⟨rfl, eT, Nat.le_trans (Nat.add_le_add_right hk _) hc, Nat.le_trans (Nat.add_le_add_right hn _) hs⟩)
  dsimp only [Pt.U, Pt.locs, Pt.cells, Pt.slots] at X' l1 y1 z1 stp hQ
  subst l1 y1 z1
  obtain ⟨U, v, L, hs', r⟩ := kk v T'.heap hQ.2.1 hQ.2.2 T' (locs ++ Lc) _ _ X' (Nat.add_le_add_right hk _) (Nat.add_le_add_right hn _) rfl (Fr.app N hQ.1) (K.trans hQ.2.1 hws)
  exact ⟨U, v, L, stp.trans hs', r⟩
end OwnKit
def O_PC (Z : State) (h : Heap) (a : Addr) (v0 : Int64) (v1 : Int64) (v2 : Int32) : Prop := Exa Z h a "com/example/libhybrid/libhybrid/text/PlaceCounter" ∧ Fld Z h a "com/example/libhybrid/libhybrid/text/PlaceCounter" "line" "J" (.long v0) ∧ Fld Z h a "com/example/libhybrid/libhybrid/text/PlaceCounter" "column" "J" (.long v1) ∧ Fld Z h a "com/example/libhybrid/libhybrid/text/PlaceCounter" "afterCarriageReturn" "Z" (.int v2)
theorem O_PC.lt {Z : State} {h : Heap} {a : Addr} {v0 : Int64} {v1 : Int64} {v2 : Int32} (O : O_PC Z h a v0 v1 v2) : a < h.size := Exa.lt O.1
theorem O_PC.keep {Z : State} {h h' : Heap} {a : Addr} {vs : List Addr} {v0 : Int64} {v1 : Int64} {v2 : Int32} (O : O_PC Z h a v0 v1 v2) (K : Keep h h' vs) (q : a ∉ vs) : O_PC Z h' a v0 v1 v2 := by
  obtain ⟨g0, g1, g2, g3⟩ := O
  exact ⟨g0.keep K, g1.keep K q, g2.keep K q, g3.keep K q⟩
theorem O_PC.set_0 {Z : State} {a0 : Array Value} {h h' : Heap} {a : Addr} {v0 : Int64} {v1 : Int64} {v2 : Int32} {v : Int64} (hw : ∀ d ∈ tables_1, d.before a0 Z = true) (O : O_PC Z h a v0 v1 v2) (W : Wr h h' a (Jvm.RoadKit.slotOf Z "com/example/libhybrid/libhybrid/text/PlaceCounter" "line" "J") (.long v)) : O_PC Z h' a v v1 v2 := by
  obtain ⟨g0, g1, g2, g3⟩ := O
  exact ⟨g0.wr W, g1.same W, g2.other W (Or.inr (slot_ne (C := "com/example/libhybrid/libhybrid/text/PlaceCounter") (Or.inl (hw _ (List.mem_of_getElem? (i := 17) rfl))) (Or.inl (hw _ (List.mem_of_getElem? (i := 15) rfl))) (by decide) (t := .long) (t' := .long) (by decide) (by decide))), g3.other W (Or.inr (slot_ne (C := "com/example/libhybrid/libhybrid/text/PlaceCounter") (Or.inl (hw _ (List.mem_of_getElem? (i := 24) rfl))) (Or.inl (hw _ (List.mem_of_getElem? (i := 15) rfl))) (by decide) (t := .boolean) (t' := .long) (by decide) (by decide)))⟩
theorem O_PC.set_1 {Z : State} {a0 : Array Value} {h h' : Heap} {a : Addr} {v0 : Int64} {v1 : Int64} {v2 : Int32} {v : Int64} (hw : ∀ d ∈ tables_1, d.before a0 Z = true) (O : O_PC Z h a v0 v1 v2) (W : Wr h h' a (Jvm.RoadKit.slotOf Z "com/example/libhybrid/libhybrid/text/PlaceCounter" "column" "J") (.long v)) : O_PC Z h' a v0 v v2 := by
  obtain ⟨g0, g1, g2, g3⟩ := O
  exact ⟨g0.wr W, g1.other W (Or.inr (slot_ne (C := "com/example/libhybrid/libhybrid/text/PlaceCounter") (Or.inl (hw _ (List.mem_of_getElem? (i := 15) rfl))) (Or.inl (hw _ (List.mem_of_getElem? (i := 17) rfl))) (by decide) (t := .long) (t' := .long) (by decide) (by decide))), g2.same W, g3.other W (Or.inr (slot_ne (C := "com/example/libhybrid/libhybrid/text/PlaceCounter") (Or.inl (hw _ (List.mem_of_getElem? (i := 24) rfl))) (Or.inl (hw _ (List.mem_of_getElem? (i := 17) rfl))) (by decide) (t := .boolean) (t' := .long) (by decide) (by decide)))⟩
theorem O_PC.set_2 {Z : State} {a0 : Array Value} {h h' : Heap} {a : Addr} {v0 : Int64} {v1 : Int64} {v2 : Int32} {v : Int32} (hw : ∀ d ∈ tables_1, d.before a0 Z = true) (O : O_PC Z h a v0 v1 v2) (W : Wr h h' a (Jvm.RoadKit.slotOf Z "com/example/libhybrid/libhybrid/text/PlaceCounter" "afterCarriageReturn" "Z") (.int v)) : O_PC Z h' a v0 v1 v := by
  obtain ⟨g0, g1, g2, g3⟩ := O
  exact ⟨g0.wr W, g1.other W (Or.inr (slot_ne (C := "com/example/libhybrid/libhybrid/text/PlaceCounter") (Or.inl (hw _ (List.mem_of_getElem? (i := 15) rfl))) (Or.inl (hw _ (List.mem_of_getElem? (i := 24) rfl))) (by decide) (t := .long) (t' := .boolean) (by decide) (by decide))), g2.other W (Or.inr (slot_ne (C := "com/example/libhybrid/libhybrid/text/PlaceCounter") (Or.inl (hw _ (List.mem_of_getElem? (i := 17) rfl))) (Or.inl (hw _ (List.mem_of_getElem? (i := 24) rfl))) (by decide) (t := .long) (t' := .boolean) (by decide) (by decide))), g3.same W⟩
def O_P (Z : State) (h : Heap) (a : Addr) (v0 : Int64) (v1 : Int64) : Prop := Exa Z h a "com/example/libhybrid/libhybrid/text/Place" ∧ Fld Z h a "com/example/libhybrid/libhybrid/text/Place" "line" "J" (.long v0) ∧ Fld Z h a "com/example/libhybrid/libhybrid/text/Place" "column" "J" (.long v1)
theorem O_P.lt {Z : State} {h : Heap} {a : Addr} {v0 : Int64} {v1 : Int64} (O : O_P Z h a v0 v1) : a < h.size := Exa.lt O.1
theorem O_P.keep {Z : State} {h h' : Heap} {a : Addr} {vs : List Addr} {v0 : Int64} {v1 : Int64} (O : O_P Z h a v0 v1) (K : Keep h h' vs) (q : a ∉ vs) : O_P Z h' a v0 v1 := by
  obtain ⟨g0, g1, g2⟩ := O
  exact ⟨g0.keep K, g1.keep K q, g2.keep K q⟩
theorem O_P.set_0 {Z : State} {a0 : Array Value} {h h' : Heap} {a : Addr} {v0 : Int64} {v1 : Int64} {v : Int64} (hw : ∀ d ∈ tables_1, d.before a0 Z = true) (O : O_P Z h a v0 v1) (W : Wr h h' a (Jvm.RoadKit.slotOf Z "com/example/libhybrid/libhybrid/text/Place" "line" "J") (.long v)) : O_P Z h' a v v1 := by
  obtain ⟨g0, g1, g2⟩ := O
  exact ⟨g0.wr W, g1.same W, g2.other W (Or.inr (slot_ne (C := "com/example/libhybrid/libhybrid/text/Place") (Or.inr (hw _ (List.mem_of_getElem? (i := 49) rfl))) (Or.inr (hw _ (List.mem_of_getElem? (i := 47) rfl))) (by decide) (t := .long) (t' := .long) (by decide) (by decide)))⟩
theorem O_P.set_1 {Z : State} {a0 : Array Value} {h h' : Heap} {a : Addr} {v0 : Int64} {v1 : Int64} {v : Int64} (hw : ∀ d ∈ tables_1, d.before a0 Z = true) (O : O_P Z h a v0 v1) (W : Wr h h' a (Jvm.RoadKit.slotOf Z "com/example/libhybrid/libhybrid/text/Place" "column" "J") (.long v)) : O_P Z h' a v0 v := by
  obtain ⟨g0, g1, g2⟩ := O
  exact ⟨g0.wr W, g1.other W (Or.inr (slot_ne (C := "com/example/libhybrid/libhybrid/text/Place") (Or.inr (hw _ (List.mem_of_getElem? (i := 47) rfl))) (Or.inr (hw _ (List.mem_of_getElem? (i := 49) rfl))) (by decide) (t := .long) (t' := .long) (by decide) (by decide))), g2.same W⟩
theorem d1_0 : decode method_2_code 0 = .ok (.iload_n 0, 1) := by decide +kernel
theorem d1_1 : decode method_2_code 1 = .ok (.iconst 3, 1) := by decide +kernel
theorem d1_2 : decode method_2_code 2 = .ok (.iand, 1) := by decide +kernel
theorem d1_3 : decode method_2_code 3 = .ok (.istore_n 3, 1) := by decide +kernel
theorem d1_4 : decode method_2_code 4 = .ok (.iload_n 3, 1) := by decide +kernel
theorem d1_5 : decode method_2_code 5 = .ok (.ifCond .ne 6, 3) := by decide +kernel
theorem d1_8 : decode method_2_code 8 = .ok (.bipush 13, 2) := by decide +kernel
theorem d1_10 : decode method_2_code 10 = .ok (.ireturn, 1) := by decide +kernel
theorem d1_11 : decode method_2_code 11 = .ok (.iload_n 3, 1) := by decide +kernel
theorem d1_12 : decode method_2_code 12 = .ok (.iconst 1, 1) := by decide +kernel
theorem d1_13 : decode method_2_code 13 = .ok (.if_icmp .ne 6, 3) := by decide +kernel
theorem d1_16 : decode method_2_code 16 = .ok (.bipush 10, 2) := by decide +kernel
theorem d1_18 : decode method_2_code 18 = .ok (.ireturn, 1) := by decide +kernel
theorem d1_19 : decode method_2_code 19 = .ok (.lload_n 1, 1) := by decide +kernel
theorem d1_20 : decode method_2_code 20 = .ok (.ldc2_w 7, 3) := by decide +kernel
theorem d1_23 : decode method_2_code 23 = .ok (.land, 1) := by decide +kernel
theorem d1_24 : decode method_2_code 24 = .ok (.l2i, 1) := by decide +kernel
theorem d1_25 : decode method_2_code 25 = .ok (.i2c, 1) := by decide +kernel
theorem d1_26 : decode method_2_code 26 = .ok (.ireturn, 1) := by decide +kernel
theorem pn_1 : plainFor (⟨"com/example/libhybrid/libhybrid/text/PlaceCounterPassPinLaw", "mk", "(IJ)C"⟩ : MethodName) = true := plainFor_of_name (by first | (simp [plainName, overriddenIn]; done) | decide +kernel)
theorem ef_1 (m : MethodId) (p0 : Int32) (q1 : Int64) : entryFrame m #[(.int p0), (.long q1)] 4 = mkF m 0 #[.val (.int p0), .val (.long q1), .second, .unset] [] := by first | (simp [entryFrame, mkF, argsToLocals, Value.category]; done) | rfl
def Qq1 (Z : State) (p0 : Int32) (q1 : Int64)  (h0 : Heap) : Int32 → Heap → Prop := fun z h' => h0 = h'
abbrev Gg1 (p : Program) (l : Launch) (e : Env) (s : State) (m : MethodId) (below : List Frame) (meth : Method) (c : Code) (n0 : Nat) (h0 : Heap) (Z : State) (p0 : Int32) (q1 : Int64)  (cc ss : Nat) (hh : Heap) (gg : JFrame) : Prop := G p l e ({ frames := 0, cells := 0, slots := 0, locals := 0 } : Room) s m #[(.int p0), (.long q1)] below meth c n0 h0 [] (RI (Qq1 Z p0 q1  h0)) cc ss hh gg
set_option maxRecDepth 65536 in
set_option maxHeartbeats 40000000 in
theorem rm1 (l : Launch) (Z : State) (a0 : Array Value) (hw : ∀ d ∈ tables_1, d.before a0 Z = true) (p0 : Int32) (q1 : Int64)  (h0 : Heap) (n0 : Nat) (hn : n0 ≤ h0.size)  :
    Mt l Z (⟨"com/example/libhybrid/libhybrid/text/PlaceCounterPassPinLaw", "mk", "(IJ)C"⟩ : MethodName) method_2_code 4 (some .char) [] ({ frames := 0, cells := 0, slots := 0, locals := 0 } : Room) n0 #[(.int p0), (.long q1)] h0 [] (RI (Qq1 Z p0 q1  h0)) := by
  refine Mt.intro pn_1 hn (fun x hx => nomatch hx) ?_
  have hz : h0.size ≤ h0.size := Nat.le_refl _
  intro p e s m below meth c B
  refine G.entry (ef_1 m p0 q1) ?_
  show Gg1 p l e s m below meth c n0 h0 Z p0 q1  0 0 h0 (mkF m 0 #[.val (.int p0), .val (.long q1), .second, .unset] [])
  refine G.iloadN B d1_0 (v := p0) rfl (pc' := 1) rfl ?_
  refine G.iconst B d1_1 (z := (3 : Int32)) rfl (pc' := 2) rfl ?_
  refine G.iand B d1_2 (pc' := 3) rfl ?_
  refine G.istoreN B d1_3 (ls' := #[.val (.int p0), .val (.long q1), .second, .val (.int (p0 &&& (3 : Int32)))]) rfl (pc' := 4) rfl ?_
  refine G.iloadN B d1_4 (v := (p0 &&& (3 : Int32))) rfl (pc' := 5) rfl ?_
  refine G.if_ne B d1_5 (by decide) (pcT := 11) (by decide) (pc' := 8) rfl (fun (hc5 : (p0 &&& (3 : Int32)) ≠ 0) => ?_) (fun (hc5 : (p0 &&& (3 : Int32)) = 0) => ?_)
  · refine G.iloadN B d1_11 (v := (p0 &&& (3 : Int32))) rfl (pc' := 12) rfl ?_
    refine G.iconst B d1_12 (z := (1 : Int32)) rfl (pc' := 13) rfl ?_
    refine G.icmp_ne B d1_13 (by decide) (pcT := 19) (by decide) (pc' := 16) rfl (fun (hc13 : (p0 &&& (3 : Int32)) ≠ (1 : Int32)) => ?_) (fun (hc13 : (p0 &&& (3 : Int32)) = (1 : Int32)) => ?_)
    · refine G.lloadN B d1_19 (v := q1) rfl (pc' := 20) rfl ?_
      refine G.ldc2 B (hw _ (List.mem_of_getElem? (i := 60) rfl)) d1_20 (pc' := 23) rfl ?_
      refine G.land B d1_23 (pc' := 24) rfl ?_
      refine G.l2i B d1_24 (pc' := 25) rfl ?_
      refine G.i2c B d1_25 (pc' := 26) rfl ?_
      exact G.retN B (by simp) d1_26 (by decide) (by decide) rfl
    · refine G.bipush B d1_16 (z := (10 : Int32)) rfl (pc' := 18) rfl ?_
      exact G.retN B (by simp) d1_18 (by decide) (by decide) rfl
  · refine G.bipush B d1_8 (z := (13 : Int32)) rfl (pc' := 10) rfl ?_
    exact G.retN B (by simp) d1_10 (by decide) (by decide) rfl
theorem d2_0 : decode prog_114_method_1_code 0 = .ok (.aload_n 0, 1) := by decide +kernel
theorem d2_1 : decode prog_114_method_1_code 1 = .ok (.invokespecial 1, 3) := by decide +kernel
theorem d2_4 : decode prog_114_method_1_code 4 = .ok (.aload_n 0, 1) := by decide +kernel
theorem d2_5 : decode prog_114_method_1_code 5 = .ok (.lconst 1, 1) := by decide +kernel
theorem d2_6 : decode prog_114_method_1_code 6 = .ok (.putfield 7, 3) := by decide +kernel
theorem d2_9 : decode prog_114_method_1_code 9 = .ok (.aload_n 0, 1) := by decide +kernel
theorem d2_10 : decode prog_114_method_1_code 10 = .ok (.lconst 1, 1) := by decide +kernel
theorem d2_11 : decode prog_114_method_1_code 11 = .ok (.putfield 13, 3) := by decide +kernel
theorem d2_14 : decode prog_114_method_1_code 14 = .ok (.return_, 1) := by decide +kernel
theorem pn_2 : plainFor (⟨"com/example/libhybrid/libhybrid/text/PlaceCounter", "<init>", "()V"⟩ : MethodName) = true := plainFor_of_name (by first | (simp [plainName, overriddenIn]; done) | decide +kernel)
theorem ef_2 (m : MethodId) (r0 : Addr) : entryFrame m #[(.ref r0)] 1 = mkF m 0 #[.val (.ref r0)] [] := by first | (simp [entryFrame, mkF, argsToLocals, Value.category]; done) | rfl
theorem pd_0 : parseMethodDescriptor "()V" = some ⟨[], none⟩ := by decide +kernel
def Qq2 (Z : State) (r0 : Addr) (u0 u1 : Int64) (u2 : Int32) (h0 : Heap) : Heap → Prop := fun h' => O_PC Z h' r0 1 1 u2
abbrev Gg2 (p : Program) (l : Launch) (e : Env) (s : State) (m : MethodId) (below : List Frame) (meth : Method) (c : Code) (n0 : Nat) (h0 : Heap) (Z : State) (r0 : Addr) (u0 u1 : Int64) (u2 : Int32) (cc ss : Nat) (hh : Heap) (gg : JFrame) : Prop := G p l e ({ frames := 1, cells := 0, slots := 0, locals := 12 } : Room) s m #[(.ref r0)] below meth c n0 h0 [r0] (RV (Qq2 Z r0 u0 u1 u2 h0)) cc ss hh gg
set_option maxRecDepth 65536 in
set_option maxHeartbeats 40000000 in
theorem rm2 (l : Launch) (Z : State) (a0 : Array Value) (hw : ∀ d ∈ tables_1, d.before a0 Z = true) (r0 : Addr) (u0 u1 : Int64) (u2 : Int32) (h0 : Heap) (n0 : Nat) (hn : n0 ≤ h0.size) (O : O_PC Z h0 r0 u0 u1 u2) (hr : n0 ≤ r0) :
    Mt l Z (⟨"com/example/libhybrid/libhybrid/text/PlaceCounter", "<init>", "()V"⟩ : MethodName) prog_114_method_1_code 1 none [] ({ frames := 1, cells := 0, slots := 0, locals := 12 } : Room) n0 #[(.ref r0)] h0 [r0] (RV (Qq2 Z r0 u0 u1 u2 h0)) := by
  refine Mt.intro pn_2 hn (allS hr all0) ?_
  have hz : h0.size ≤ h0.size := Nat.le_refl _
  intro p e s m below meth c B
  refine G.entry (ef_2 m r0) ?_
  show Gg2 p l e s m below meth c n0 h0 Z r0 u0 u1 u2 0 0 h0 (mkF m 0 #[.val (.ref r0)] [])
  refine G.aloadN B d2_0 (v := (.ref r0)) rfl rfl (pc' := 1) rfl ?_
  refine G.initO B (hw _ (List.mem_of_getElem? (i := 11) rfl)) (hw _ (List.mem_of_getElem? (i := 12) rfl)) (hw _ (List.mem_of_getElem? (i := 13) rfl)) rfl d2_1 (pc' := 4) rfl (by decide) (W := 0) (Nat.le_of_eq rfl) (by decide) ?_
  refine G.aloadN B d2_4 (v := (.ref r0)) rfl rfl (pc' := 5) rfl ?_
  refine G.lconst B d2_5 (z := (1 : Int64)) rfl (pc' := 6) rfl ?_
  refine G.putF (C := "com/example/libhybrid/libhybrid/text/PlaceCounter") B (hw _ (List.mem_of_getElem? (i := 14) rfl)) Via.refl O.2.1 O.1 (Or.inl (hw _ (List.mem_of_getElem? (i := 15) rfl))) (hw _ (List.mem_of_getElem? (i := 6) rfl)) (ty := .long) (v' := (.long (1 : Int64))) (by decide) rfl rfl (Or.inl (List.mem_of_getElem? (i := 0) rfl)) d2_6 (pc' := 9) rfl (fun h1 W1 => ?_)
  replace O := O.set_0 hw W1
  replace hn := Nat.le_trans hn (Keep.of_wr W1).1
  replace hz := Nat.le_trans hz (Keep.of_wr W1).1
  refine G.aloadN B d2_9 (v := (.ref r0)) rfl rfl (pc' := 10) rfl ?_
  refine G.lconst B d2_10 (z := (1 : Int64)) rfl (pc' := 11) rfl ?_
  refine G.putF (C := "com/example/libhybrid/libhybrid/text/PlaceCounter") B (hw _ (List.mem_of_getElem? (i := 16) rfl)) Via.refl O.2.2.1 O.1 (Or.inl (hw _ (List.mem_of_getElem? (i := 17) rfl))) (hw _ (List.mem_of_getElem? (i := 6) rfl)) (ty := .long) (v' := (.long (1 : Int64))) (by decide) rfl rfl (Or.inl (List.mem_of_getElem? (i := 0) rfl)) d2_11 (pc' := 14) rfl (fun h2 W2 => ?_)
  replace O := O.set_1 hw W2
  replace hn := Nat.le_trans hn (Keep.of_wr W2).1
  replace hz := Nat.le_trans hz (Keep.of_wr W2).1
  exact G.retV B d2_14 (by decide) (by decide) O
theorem d8_0 : decode jdk_30_method_1_code 0 = .ok (.aload_n 0, 1) := by decide +kernel
theorem d8_1 : decode jdk_30_method_1_code 1 = .ok (.invokespecial 1, 3) := by decide +kernel
theorem d8_4 : decode jdk_30_method_1_code 4 = .ok (.return_, 1) := by decide +kernel
theorem pn_8 : plainFor (⟨"java/lang/Record", "<init>", "()V"⟩ : MethodName) = true := plainFor_of_name (by first | (simp [plainName, overriddenIn]; done) | decide +kernel)
theorem ef_8 (m : MethodId) (r0 : Addr) : entryFrame m #[(.ref r0)] 1 = mkF m 0 #[.val (.ref r0)] [] := by first | (simp [entryFrame, mkF, argsToLocals, Value.category]; done) | rfl
def Qq8 (Z : State) (r0 : Addr)  (h0 : Heap) : Heap → Prop := fun h' => h0 = h'
abbrev Gg8 (p : Program) (l : Launch) (e : Env) (s : State) (m : MethodId) (below : List Frame) (meth : Method) (c : Code) (n0 : Nat) (h0 : Heap) (Z : State) (r0 : Addr)  (cc ss : Nat) (hh : Heap) (gg : JFrame) : Prop := G p l e ({ frames := 1, cells := 0, slots := 0, locals := 12 } : Room) s m #[(.ref r0)] below meth c n0 h0 [] (RV (Qq8 Z r0  h0)) cc ss hh gg
set_option maxRecDepth 65536 in
set_option maxHeartbeats 40000000 in
theorem rm8 (l : Launch) (Z : State) (a0 : Array Value) (hw : ∀ d ∈ tables_1, d.before a0 Z = true) (r0 : Addr)  (h0 : Heap) (n0 : Nat) (hn : n0 ≤ h0.size)  :
    Mt l Z (⟨"java/lang/Record", "<init>", "()V"⟩ : MethodName) jdk_30_method_1_code 1 none [] ({ frames := 1, cells := 0, slots := 0, locals := 12 } : Room) n0 #[(.ref r0)] h0 [] (RV (Qq8 Z r0  h0)) := by
  refine Mt.intro pn_8 hn (fun x hx => nomatch hx) ?_
  have hz : h0.size ≤ h0.size := Nat.le_refl _
  intro p e s m below meth c B
  refine G.entry (ef_8 m r0) ?_
  show Gg8 p l e s m below meth c n0 h0 Z r0  0 0 h0 (mkF m 0 #[.val (.ref r0)] [])
  refine G.aloadN B d8_0 (v := (.ref r0)) rfl rfl (pc' := 1) rfl ?_
  refine G.initO B (hw _ (List.mem_of_getElem? (i := 45) rfl)) (hw _ (List.mem_of_getElem? (i := 12) rfl)) (hw _ (List.mem_of_getElem? (i := 13) rfl)) rfl d8_1 (pc' := 4) rfl (by decide) (W := 0) (Nat.le_of_eq rfl) (by decide) ?_
  exact G.retV B d8_4 (by decide) (by decide) rfl
theorem d7_0 : decode prog_113_method_1_code 0 = .ok (.aload_n 0, 1) := by decide +kernel
theorem d7_1 : decode prog_113_method_1_code 1 = .ok (.invokespecial 1, 3) := by decide +kernel
theorem d7_4 : decode prog_113_method_1_code 4 = .ok (.aload_n 0, 1) := by decide +kernel
theorem d7_5 : decode prog_113_method_1_code 5 = .ok (.lload_n 1, 1) := by decide +kernel
theorem d7_6 : decode prog_113_method_1_code 6 = .ok (.putfield 7, 3) := by decide +kernel
theorem d7_9 : decode prog_113_method_1_code 9 = .ok (.aload_n 0, 1) := by decide +kernel
theorem d7_10 : decode prog_113_method_1_code 10 = .ok (.lload_n 3, 1) := by decide +kernel
theorem d7_11 : decode prog_113_method_1_code 11 = .ok (.putfield 13, 3) := by decide +kernel
theorem d7_14 : decode prog_113_method_1_code 14 = .ok (.return_, 1) := by decide +kernel
theorem pn_7 : plainFor (⟨"com/example/libhybrid/libhybrid/text/Place", "<init>", "(JJ)V"⟩ : MethodName) = true := plainFor_of_name (by first | (simp [plainName, overriddenIn]; done) | decide +kernel)
theorem ef_7 (m : MethodId) (r0 : Addr) (q1 : Int64) (q2 : Int64) : entryFrame m #[(.ref r0), (.long q1), (.long q2)] 5 = mkF m 0 #[.val (.ref r0), .val (.long q1), .second, .val (.long q2), .second] [] := by first | (simp [entryFrame, mkF, argsToLocals, Value.category]; done) | rfl
def Qq7 (Z : State) (r0 : Addr) (q1 : Int64) (q2 : Int64) (u0 u1 : Int64) (h0 : Heap) : Heap → Prop := fun h' => O_P Z h' r0 q1 q2
abbrev Gg7 (p : Program) (l : Launch) (e : Env) (s : State) (m : MethodId) (below : List Frame) (meth : Method) (c : Code) (n0 : Nat) (h0 : Heap) (Z : State) (r0 : Addr) (q1 : Int64) (q2 : Int64) (u0 u1 : Int64) (cc ss : Nat) (hh : Heap) (gg : JFrame) : Prop := G p l e ({ frames := 2, cells := 0, slots := 0, locals := 24 } : Room) s m #[(.ref r0), (.long q1), (.long q2)] below meth c n0 h0 [r0] (RV (Qq7 Z r0 q1 q2 u0 u1 h0)) cc ss hh gg
set_option maxRecDepth 65536 in
set_option maxHeartbeats 40000000 in
theorem rm7 (l : Launch) (Z : State) (a0 : Array Value) (hw : ∀ d ∈ tables_1, d.before a0 Z = true) (r0 : Addr) (q1 : Int64) (q2 : Int64) (u0 u1 : Int64) (h0 : Heap) (n0 : Nat) (hn : n0 ≤ h0.size) (O : O_P Z h0 r0 u0 u1) (hr : n0 ≤ r0) :
    Mt l Z (⟨"com/example/libhybrid/libhybrid/text/Place", "<init>", "(JJ)V"⟩ : MethodName) prog_113_method_1_code 5 none [] ({ frames := 2, cells := 0, slots := 0, locals := 24 } : Room) n0 #[(.ref r0), (.long q1), (.long q2)] h0 [r0] (RV (Qq7 Z r0 q1 q2 u0 u1 h0)) := by
  refine Mt.intro pn_7 hn (allS hr all0) ?_
  have hz : h0.size ≤ h0.size := Nat.le_refl _
  intro p e s m below meth c B
  refine G.entry (ef_7 m r0 q1 q2) ?_
  show Gg7 p l e s m below meth c n0 h0 Z r0 q1 q2 u0 u1 0 0 h0 (mkF m 0 #[.val (.ref r0), .val (.long q1), .second, .val (.long q2), .second] [])
  refine G.aloadN B d7_0 (v := (.ref r0)) rfl rfl (pc' := 1) rfl ?_
  refine G.callC (y := (⟨"java/lang/Record", "<init>", "()V"⟩ : MethodName)) (a := r0) B rfl (hw _ (List.mem_of_getElem? (i := 40) rfl)) (hw _ (List.mem_of_getElem? (i := 41) rfl)) rfl (rm := ({ frames := 1, cells := 0, slots := 0, locals := 12 } : Room)) (ws' := []) (rm8 l Z a0 hw r0 _ n0 hn) (fun x hx => nomatch hx) (hw _ (List.mem_of_getElem? (i := 44) rfl)) (hw _ (List.mem_of_getElem? (i := 43) rfl)) (by decide) rfl (argsL := []) (rest := []) rfl (lenOf pd_0 rfl) (by decide) (W := 0) (Nat.le_of_eq rfl) (by decide) (by decide) (by decide) d7_1 (pc' := 4) rfl ?_
  rintro _ _ K1 ⟨rfl, rfl⟩
  show Gg7 p l e s m below meth c n0 h0 Z r0 q1 q2 u0 u1 0 0 h0 (mkF m 4 #[.val (.ref r0), .val (.long q1), .second, .val (.long q2), .second] [])
  refine G.aloadN B d7_4 (v := (.ref r0)) rfl rfl (pc' := 5) rfl ?_
  refine G.lloadN B d7_5 (v := q1) rfl (pc' := 6) rfl ?_
  refine G.putF (C := "com/example/libhybrid/libhybrid/text/Place") B (hw _ (List.mem_of_getElem? (i := 46) rfl)) Via.refl O.2.1 O.1 (Or.inr ⟨(hw _ (List.mem_of_getElem? (i := 47) rfl)), rfl, rfl⟩) (hw _ (List.mem_of_getElem? (i := 35) rfl)) (ty := .long) (v' := (.long q1)) (by decide) rfl rfl (Or.inl (List.mem_of_getElem? (i := 0) rfl)) d7_6 (pc' := 9) rfl (fun h2 W2 => ?_)
  replace O := O.set_0 hw W2
  replace hn := Nat.le_trans hn (Keep.of_wr W2).1
  replace hz := Nat.le_trans hz (Keep.of_wr W2).1
  refine G.aloadN B d7_9 (v := (.ref r0)) rfl rfl (pc' := 10) rfl ?_
  refine G.lloadN B d7_10 (v := q2) rfl (pc' := 11) rfl ?_
  refine G.putF (C := "com/example/libhybrid/libhybrid/text/Place") B (hw _ (List.mem_of_getElem? (i := 48) rfl)) Via.refl O.2.2 O.1 (Or.inr ⟨(hw _ (List.mem_of_getElem? (i := 49) rfl)), rfl, rfl⟩) (hw _ (List.mem_of_getElem? (i := 35) rfl)) (ty := .long) (v' := (.long q2)) (by decide) rfl rfl (Or.inl (List.mem_of_getElem? (i := 0) rfl)) d7_11 (pc' := 14) rfl (fun h3 W3 => ?_)
  replace O := O.set_1 hw W3
  replace hn := Nat.le_trans hn (Keep.of_wr W3).1
  replace hz := Nat.le_trans hz (Keep.of_wr W3).1
  exact G.retV B d7_14 (by decide) (by decide) O
theorem d9_0 : decode prog_113_method_5_code 0 = .ok (.aload_n 0, 1) := by decide +kernel
theorem d9_1 : decode prog_113_method_5_code 1 = .ok (.getfield 7, 3) := by decide +kernel
theorem d9_4 : decode prog_113_method_5_code 4 = .ok (.lreturn, 1) := by decide +kernel
theorem pn_9 : plainFor (⟨"com/example/libhybrid/libhybrid/text/Place", "line", "()J"⟩ : MethodName) = true := plainFor_of_name (by first | (simp [plainName, overriddenIn]; done) | decide +kernel)
theorem ef_9 (m : MethodId) (r0 : Addr) : entryFrame m #[(.ref r0)] 1 = mkF m 0 #[.val (.ref r0)] [] := by first | (simp [entryFrame, mkF, argsToLocals, Value.category]; done) | rfl
def Qq9 (Z : State) (r0 : Addr) (v0 v1 : Int64) (h0 : Heap) : Int64 → Heap → Prop := fun z h' => h0 = h' ∧ z = v0
abbrev Gg9 (p : Program) (l : Launch) (e : Env) (s : State) (m : MethodId) (below : List Frame) (meth : Method) (c : Code) (n0 : Nat) (h0 : Heap) (Z : State) (r0 : Addr) (v0 v1 : Int64) (cc ss : Nat) (hh : Heap) (gg : JFrame) : Prop := G p l e ({ frames := 0, cells := 0, slots := 0, locals := 0 } : Room) s m #[(.ref r0)] below meth c n0 h0 [] (RJ (Qq9 Z r0 v0 v1 h0)) cc ss hh gg
set_option maxRecDepth 65536 in
set_option maxHeartbeats 40000000 in
theorem rm9 (l : Launch) (Z : State) (a0 : Array Value) (hw : ∀ d ∈ tables_1, d.before a0 Z = true) (r0 : Addr) (v0 v1 : Int64) (h0 : Heap) (n0 : Nat) (hn : n0 ≤ h0.size) (O : O_P Z h0 r0 v0 v1) :
    Mt l Z (⟨"com/example/libhybrid/libhybrid/text/Place", "line", "()J"⟩ : MethodName) prog_113_method_5_code 1 (some .long) [] ({ frames := 0, cells := 0, slots := 0, locals := 0 } : Room) n0 #[(.ref r0)] h0 [] (RJ (Qq9 Z r0 v0 v1 h0)) := by
  refine Mt.intro pn_9 hn (fun x hx => nomatch hx) ?_
  have hz : h0.size ≤ h0.size := Nat.le_refl _
  intro p e s m below meth c B
  refine G.entry (ef_9 m r0) ?_
  show Gg9 p l e s m below meth c n0 h0 Z r0 v0 v1 0 0 h0 (mkF m 0 #[.val (.ref r0)] [])
  refine G.aloadN B d9_0 (v := (.ref r0)) rfl rfl (pc' := 1) rfl ?_
  refine G.getF B (host := "") (Or.inl (hw _ (List.mem_of_getElem? (i := 46) rfl))) Via.refl O.2.1 d9_1 (pc' := 4) rfl ?_
  exact G.retJ B d9_4 (by decide) (by decide) ⟨rfl, rfl⟩
theorem d10_0 : decode prog_113_method_6_code 0 = .ok (.aload_n 0, 1) := by decide +kernel
theorem d10_1 : decode prog_113_method_6_code 1 = .ok (.getfield 13, 3) := by decide +kernel
theorem d10_4 : decode prog_113_method_6_code 4 = .ok (.lreturn, 1) := by decide +kernel
theorem pn_10 : plainFor (⟨"com/example/libhybrid/libhybrid/text/Place", "column", "()J"⟩ : MethodName) = true := plainFor_of_name (by first | (simp [plainName, overriddenIn]; done) | decide +kernel)
theorem ef_10 (m : MethodId) (r0 : Addr) : entryFrame m #[(.ref r0)] 1 = mkF m 0 #[.val (.ref r0)] [] := by first | (simp [entryFrame, mkF, argsToLocals, Value.category]; done) | rfl
def Qq10 (Z : State) (r0 : Addr) (v0 v1 : Int64) (h0 : Heap) : Int64 → Heap → Prop := fun z h' => h0 = h' ∧ z = v1
abbrev Gg10 (p : Program) (l : Launch) (e : Env) (s : State) (m : MethodId) (below : List Frame) (meth : Method) (c : Code) (n0 : Nat) (h0 : Heap) (Z : State) (r0 : Addr) (v0 v1 : Int64) (cc ss : Nat) (hh : Heap) (gg : JFrame) : Prop := G p l e ({ frames := 0, cells := 0, slots := 0, locals := 0 } : Room) s m #[(.ref r0)] below meth c n0 h0 [] (RJ (Qq10 Z r0 v0 v1 h0)) cc ss hh gg
set_option maxRecDepth 65536 in
set_option maxHeartbeats 40000000 in
theorem rm10 (l : Launch) (Z : State) (a0 : Array Value) (hw : ∀ d ∈ tables_1, d.before a0 Z = true) (r0 : Addr) (v0 v1 : Int64) (h0 : Heap) (n0 : Nat) (hn : n0 ≤ h0.size) (O : O_P Z h0 r0 v0 v1) :
    Mt l Z (⟨"com/example/libhybrid/libhybrid/text/Place", "column", "()J"⟩ : MethodName) prog_113_method_6_code 1 (some .long) [] ({ frames := 0, cells := 0, slots := 0, locals := 0 } : Room) n0 #[(.ref r0)] h0 [] (RJ (Qq10 Z r0 v0 v1 h0)) := by
  refine Mt.intro pn_10 hn (fun x hx => nomatch hx) ?_
  have hz : h0.size ≤ h0.size := Nat.le_refl _
  intro p e s m below meth c B
  refine G.entry (ef_10 m r0) ?_
  show Gg10 p l e s m below meth c n0 h0 Z r0 v0 v1 0 0 h0 (mkF m 0 #[.val (.ref r0)] [])
  refine G.aloadN B d10_0 (v := (.ref r0)) rfl rfl (pc' := 1) rfl ?_
  refine G.getF B (host := "") (Or.inl (hw _ (List.mem_of_getElem? (i := 48) rfl))) Via.refl O.2.2 d10_1 (pc' := 4) rfl ?_
  exact G.retJ B d10_4 (by decide) (by decide) ⟨rfl, rfl⟩
theorem d6_0 : decode prog_114_method_4_code 0 = .ok (.new 21, 3) := by decide +kernel
theorem d6_3 : decode prog_114_method_4_code 3 = .ok (.dup, 1) := by decide +kernel
theorem d6_4 : decode prog_114_method_4_code 4 = .ok (.aload_n 0, 1) := by decide +kernel
theorem d6_5 : decode prog_114_method_4_code 5 = .ok (.getfield 7, 3) := by decide +kernel
theorem d6_8 : decode prog_114_method_4_code 8 = .ok (.aload_n 0, 1) := by decide +kernel
theorem d6_9 : decode prog_114_method_4_code 9 = .ok (.getfield 13, 3) := by decide +kernel
theorem d6_12 : decode prog_114_method_4_code 12 = .ok (.invokespecial 23, 3) := by decide +kernel
theorem d6_15 : decode prog_114_method_4_code 15 = .ok (.areturn, 1) := by decide +kernel
theorem pn_6 : plainFor (⟨"com/example/libhybrid/libhybrid/text/PlaceCounter", "place", "()Lcom/example/libhybrid/libhybrid/text/Place;"⟩ : MethodName) = true := plainFor_of_name (by first | (simp [plainName, overriddenIn]; done) | decide +kernel)
theorem ef_6 (m : MethodId) (r0 : Addr) : entryFrame m #[(.ref r0)] 1 = mkF m 0 #[.val (.ref r0)] [] := by first | (simp [entryFrame, mkF, argsToLocals, Value.category]; done) | rfl
theorem pd_1 : parseMethodDescriptor "(JJ)V" = some ⟨[.long, .long], none⟩ := by decide +kernel
def Qq6 (Z : State) (r0 : Addr) (v0 v1 : Int64) (v2 : Int32) (h0 : Heap) : Addr → Heap → Prop := fun z h' => O_P Z h' z v0 v1
abbrev Gg6 (p : Program) (l : Launch) (e : Env) (s : State) (m : MethodId) (below : List Frame) (meth : Method) (c : Code) (n0 : Nat) (h0 : Heap) (Z : State) (r0 : Addr) (v0 v1 : Int64) (v2 : Int32) (cc ss : Nat) (hh : Heap) (gg : JFrame) : Prop := G p l e ({ frames := 3, cells := 1, slots := 2, locals := 41 } : Room) s m #[(.ref r0)] below meth c n0 h0 [] (RA (Qq6 Z r0 v0 v1 v2 h0)) cc ss hh gg
set_option maxRecDepth 65536 in
set_option maxHeartbeats 40000000 in
theorem rm6 (l : Launch) (Z : State) (a0 : Array Value) (hw : ∀ d ∈ tables_1, d.before a0 Z = true) (r0 : Addr) (v0 v1 : Int64) (v2 : Int32) (h0 : Heap) (n0 : Nat) (hn : n0 ≤ h0.size) (O : O_PC Z h0 r0 v0 v1 v2) :
    Mt l Z (⟨"com/example/libhybrid/libhybrid/text/PlaceCounter", "place", "()Lcom/example/libhybrid/libhybrid/text/Place;"⟩ : MethodName) prog_114_method_4_code 1 (some (.object "com/example/libhybrid/libhybrid/text/Place")) [] ({ frames := 3, cells := 1, slots := 2, locals := 41 } : Room) n0 #[(.ref r0)] h0 [] (RA (Qq6 Z r0 v0 v1 v2 h0)) := by
  refine Mt.intro pn_6 hn (fun x hx => nomatch hx) ?_
  have hz : h0.size ≤ h0.size := Nat.le_refl _
  intro p e s m below meth c B
  refine G.entry (ef_6 m r0) ?_
  show Gg6 p l e s m below meth c n0 h0 Z r0 v0 v1 v2 0 0 h0 (mkF m 0 #[.val (.ref r0)] [])
  refine G.newO (q := 2) B (hw _ (List.mem_of_getElem? (i := 34) rfl)) (hw _ (List.mem_of_getElem? (i := 35) rfl)) (hw _ (List.mem_of_getElem? (i := 36) rfl)) d6_0 (pc' := 3) rfl (by decide) (by decide) (fun h1 z hs_z hf_z K1 _ E1 D1 => ?_)
  have ne_r0_z : r0 ≠ z := Nat.ne_of_lt (hs_z ▸ O.lt)
  replace hn := Nat.le_trans hn K1.1
  replace hz := Nat.le_trans hz K1.1
  replace O := O.keep K1 nin0
  have O_z : O_P Z h1 z (0 : Int64) (0 : Int64) := ⟨E1, D1 (Or.inr (hw _ (List.mem_of_getElem? (i := 47) rfl))) (ty := .long) (by decide), D1 (Or.inr (hw _ (List.mem_of_getElem? (i := 49) rfl))) (ty := .long) (by decide)⟩
  show Gg6 p l e s m below meth c n0 h0 Z r0 v0 v1 v2 1 2 h1 (mkF m 3 #[.val (.ref r0)] [(.ref z)])
  refine G.dup B d6_3 rfl (pc' := 4) rfl ?_
  refine G.aloadN B d6_4 (v := (.ref r0)) rfl rfl (pc' := 5) rfl ?_
  refine G.getF B (host := "") (Or.inl (hw _ (List.mem_of_getElem? (i := 14) rfl))) Via.refl O.2.1 d6_5 (pc' := 8) rfl ?_
  refine G.aloadN B d6_8 (v := (.ref r0)) rfl rfl (pc' := 9) rfl ?_
  refine G.getF B (host := "") (Or.inl (hw _ (List.mem_of_getElem? (i := 16) rfl))) Via.refl O.2.2.1 d6_9 (pc' := 12) rfl ?_
  refine G.callC (y := (⟨"com/example/libhybrid/libhybrid/text/Place", "<init>", "(JJ)V"⟩ : MethodName)) (a := z) B rfl (hw _ (List.mem_of_getElem? (i := 37) rfl)) (hw _ (List.mem_of_getElem? (i := 38) rfl)) rfl (rm := ({ frames := 2, cells := 0, slots := 0, locals := 24 } : Room)) (ws' := [z]) (rm7 l Z a0 hw z v0 v1 0 0 _ n0 hn O_z (own_fr B (Or.inr hf_z))) (allS (Or.inr hf_z) all0) (hw _ (List.mem_of_getElem? (i := 39) rfl)) (hw _ (List.mem_of_getElem? (i := 36) rfl)) (by decide) rfl (argsL := [(.long v0), (.long v1)]) (rest := [(.ref z)]) rfl (lenOf pd_1 rfl) (by decide) (W := 1) (Nat.le_of_eq rfl) (by decide) (by decide) (by decide) d6_12 (pc' := 15) rfl ?_
  rintro _ h2 K2 ⟨rfl, O_z⟩
  replace hn := Nat.le_trans hn K2.1
  replace hz := Nat.le_trans hz K2.1
  replace O := O.keep K2 (ninS ne_r0_z nin0)
  show Gg6 p l e s m below meth c n0 h0 Z r0 v0 v1 v2 1 2 h2 (mkF m 15 #[.val (.ref r0)] [(.ref z)])
  exact G.retA B rfl d6_15 (by decide) (by decide) O_z
/-- one sign counted: line, column, whether it was a carriage return -/
def stp (s : Int64 × Int64 × Bool) (c : Int32) : Int64 × Int64 × Bool := if c = 13 then (s.1 + 1, 1, true) else if c = 10 then (if s.2.2 = true then (s.1, s.2.1, false) else (s.1 + 1, 1, false)) else (s.1, s.2.1 + 1, false)
/-- k signs from i on -/
def rn (f : Nat → Int32) (i : Nat) : Nat → Int64 × Int64 × Bool → Int64 × Int64 × Bool
  | 0, s => s
  | k + 1, s => stp (rn f i k s) (f (i + k))
def bi : Bool → Int32 | true => 1 | false => 0
def bj : Bool → Int64 | true => 1 | false => 0
theorem rn_add (f : Nat → Int32) (i k m : Nat) (s : Int64 × Int64 × Bool) : rn f i (k + m) s = rn f (i + k) m (rn f i k s) := by
  induction m with
  | zero => rfl
  | succ m ih => show stp (rn f i (k + m) s) (f (i + (k + m))) = stp (rn f (i + k) m (rn f i k s)) (f (i + k + m)); rw [ih, Nat.add_assoc]
def PInv (f : Nat → Int32) (i0 i cn : Nat) (s : Int64 × Int64 × Bool) (L C : Int64) (a : Bool) : Prop := rn f i0 (i - i0) s = (L, C + Int64.ofNat (i - cn), if cn < i then false else a)
theorem own_suc {f : Nat → Int32} {i0 i : Nat} {s : Int64 × Int64 × Bool} (h : i0 ≤ i) : rn f i0 (i + 1 - i0) s = stp (rn f i0 (i - i0) s) (f i) := by
  rw [show i + 1 - i0 = (i - i0) + 1 by omega]
  show stp _ (f (i0 + (i - i0))) = _
  rw [show i0 + (i - i0) = i by omega]
theorem P_ord {f : Nat → Int32} {i0 i cn : Nat} {s : Int64 × Int64 × Bool} {L C : Int64} {a : Bool} (h : PInv f i0 i cn s L C a) (hi : i0 ≤ i) (hc : cn ≤ i) (h1 : f i ≠ 13) (h2 : f i ≠ 10) : PInv f i0 (i + 1) cn s L C a := by
  unfold PInv at h ⊢
  rw [own_suc hi, h]
  unfold stp
  rw [if_neg h1, if_neg h2, if_pos (show cn < i + 1 by omega), show i + 1 - cn = (i - cn) + 1 by omega, Int64.ofNat_add, ← Int64.add_assoc]
  rfl
theorem P_13 {f : Nat → Int32} {i0 i cn : Nat} {s : Int64 × Int64 × Bool} {L C : Int64} {a : Bool} (h : PInv f i0 i cn s L C a) (hi : i0 ≤ i) (h1 : f i = 13) : PInv f i0 (i + 1) (i + 1) s (L + 1) 1 true := by
  unfold PInv at h ⊢
  rw [own_suc hi, h]
  unfold stp
  rw [if_pos h1, if_neg (Nat.lt_irrefl _), Nat.sub_self]
  rfl
theorem P_10a {f : Nat → Int32} {i0 i cn : Nat} {s : Int64 × Int64 × Bool} {L C : Int64} (h : PInv f i0 i cn s L C true) (hi : i0 ≤ i) (hc : i ≤ cn) (h2 : f i = 10) : PInv f i0 (i + 1) (i + 1) s L C false := by
  unfold PInv at h ⊢
  rw [own_suc hi, h]
  unfold stp
  rw [if_neg (by rw [h2]; decide), if_pos h2, if_neg (Nat.lt_irrefl _), Nat.sub_self, if_neg (show ¬ cn < i by omega), show i - cn = 0 by omega]
  rfl
theorem P_10b {f : Nat → Int32} {i0 i cn : Nat} {s : Int64 × Int64 × Bool} {L C : Int64} {a : Bool} (h : PInv f i0 i cn s L C a) (hi : i0 ≤ i) (hc : cn < i ∨ a = false) (h2 : f i = 10) : PInv f i0 (i + 1) (i + 1) s (L + 1) 1 false := by
  unfold PInv at h ⊢
  rw [own_suc hi, h]
  unfold stp
  have e : (if cn < i then false else a) = false := by
    rcases hc with q | q
    · exact if_pos q
    · rw [q]; split <;> rfl
  rw [if_neg (by rw [h2]; decide), if_pos h2, if_neg (Nat.lt_irrefl _), Nat.sub_self]
  simp only [e]
  rfl
theorem P_end0 {f : Nat → Int32} {i0 i cn : Nat} {s : Int64 × Int64 × Bool} {L C : Int64} {a : Bool} (h : PInv f i0 i cn s L C a) (hc : i ≤ cn) : rn f i0 (i - i0) s = (L, C, a) := by
  unfold PInv at h
  rw [h, if_neg (show ¬ cn < i by omega), show i - cn = 0 by omega, show Int64.ofNat 0 = 0 from rfl, Int64.add_zero]
theorem P_end1 {f : Nat → Int32} {i0 i cn : Nat} {s : Int64 × Int64 × Bool} {L C : Int64} {a : Bool} (h : PInv f i0 i cn s L C a) (hc : cn < i) : rn f i0 (i - i0) s = (L, C + Int64.ofNat (i - cn), false) := by
  unfold PInv at h
  rw [h, if_pos hc]
theorem own_dif {x y : Int32} {m n : Nat} (hx : x.toInt = (m : Int)) (hy : y.toInt = (n : Int)) (h : n ≤ m) (hm : m ≤ 1000) : (x - y).toInt64 = Int64.ofNat (m - n) := by
  apply Int64.toInt_inj.mp
  have h1 := c_isub x y
  have h2 := rng32 (x - y)
  rw [c_i2l, Int64.toInt_ofNat_of_lt (by omega)]
  omega
theorem own_inc {x : Int32} {i : Nat} (h : x.toInt = (i : Int)) (hi : i ≤ 1000) : (x + (1 : Int32)).toInt = ((i + 1 : Nat) : Int) := by
  have h1 := c_iadd x (1 : Int32)
  have h2 : (1 : Int32).toInt = 1 := by decide
  have h3 := rng32 (x + (1 : Int32))
  omega
theorem own_bi {a : Bool} (h : bi a = 0) : a = false := by cases a <;> first | rfl | exact absurd h (by decide)
theorem own_bi1 {a : Bool} (h : bi a ≠ 0) : a = true := by cases a <;> first | rfl | exact absurd rfl h
theorem d4_0 : decode prog_114_method_2_code 0 = .ok (.iload_n 2, 1) := by decide +kernel
theorem d4_1 : decode prog_114_method_2_code 1 = .ok (.istore 4, 2) := by decide +kernel
theorem d4_3 : decode prog_114_method_2_code 3 = .ok (.iload_n 2, 1) := by decide +kernel
theorem d4_4 : decode prog_114_method_2_code 4 = .ok (.istore 5, 2) := by decide +kernel
theorem d4_6 : decode prog_114_method_2_code 6 = .ok (.iload 5, 2) := by decide +kernel
theorem d4_8 : decode prog_114_method_2_code 8 = .ok (.iload_n 3, 1) := by decide +kernel
theorem d4_9 : decode prog_114_method_2_code 9 = .ok (.if_icmp .ge 107, 3) := by decide +kernel
theorem d4_12 : decode prog_114_method_2_code 12 = .ok (.aload_n 1, 1) := by decide +kernel
theorem d4_13 : decode prog_114_method_2_code 13 = .ok (.iload 5, 2) := by decide +kernel
theorem d4_15 : decode prog_114_method_2_code 15 = .ok (.caload, 1) := by decide +kernel
theorem d4_16 : decode prog_114_method_2_code 16 = .ok (.istore 6, 2) := by decide +kernel
theorem d4_18 : decode prog_114_method_2_code 18 = .ok (.iload 6, 2) := by decide +kernel
theorem d4_20 : decode prog_114_method_2_code 20 = .ok (.bipush 13, 2) := by decide +kernel
theorem d4_22 : decode prog_114_method_2_code 22 = .ok (.if_icmp .eq 10, 3) := by decide +kernel
theorem d4_25 : decode prog_114_method_2_code 25 = .ok (.iload 6, 2) := by decide +kernel
theorem d4_27 : decode prog_114_method_2_code 27 = .ok (.bipush 10, 2) := by decide +kernel
theorem d4_29 : decode prog_114_method_2_code 29 = .ok (.if_icmp .ne 81, 3) := by decide +kernel
theorem d4_32 : decode prog_114_method_2_code 32 = .ok (.iload 5, 2) := by decide +kernel
theorem d4_34 : decode prog_114_method_2_code 34 = .ok (.iload 4, 2) := by decide +kernel
theorem d4_36 : decode prog_114_method_2_code 36 = .ok (.if_icmp .le 23, 3) := by decide +kernel
theorem d4_39 : decode prog_114_method_2_code 39 = .ok (.aload_n 0, 1) := by decide +kernel
theorem d4_40 : decode prog_114_method_2_code 40 = .ok (.dup, 1) := by decide +kernel
theorem d4_41 : decode prog_114_method_2_code 41 = .ok (.getfield 13, 3) := by decide +kernel
theorem d4_44 : decode prog_114_method_2_code 44 = .ok (.iload 5, 2) := by decide +kernel
theorem d4_46 : decode prog_114_method_2_code 46 = .ok (.iload 4, 2) := by decide +kernel
theorem d4_48 : decode prog_114_method_2_code 48 = .ok (.isub, 1) := by decide +kernel
theorem d4_49 : decode prog_114_method_2_code 49 = .ok (.i2l, 1) := by decide +kernel
theorem d4_50 : decode prog_114_method_2_code 50 = .ok (.ladd, 1) := by decide +kernel
theorem d4_51 : decode prog_114_method_2_code 51 = .ok (.putfield 13, 3) := by decide +kernel
theorem d4_54 : decode prog_114_method_2_code 54 = .ok (.aload_n 0, 1) := by decide +kernel
theorem d4_55 : decode prog_114_method_2_code 55 = .ok (.iconst 0, 1) := by decide +kernel
theorem d4_56 : decode prog_114_method_2_code 56 = .ok (.putfield 16, 3) := by decide +kernel
theorem d4_59 : decode prog_114_method_2_code 59 = .ok (.iload 6, 2) := by decide +kernel
theorem d4_61 : decode prog_114_method_2_code 61 = .ok (.bipush 13, 2) := by decide +kernel
theorem d4_63 : decode prog_114_method_2_code 63 = .ok (.if_icmp .eq 10, 3) := by decide +kernel
theorem d4_66 : decode prog_114_method_2_code 66 = .ok (.aload_n 0, 1) := by decide +kernel
theorem d4_67 : decode prog_114_method_2_code 67 = .ok (.getfield 16, 3) := by decide +kernel
theorem d4_70 : decode prog_114_method_2_code 70 = .ok (.ifCond .ne 18, 3) := by decide +kernel
theorem d4_73 : decode prog_114_method_2_code 73 = .ok (.aload_n 0, 1) := by decide +kernel
theorem d4_74 : decode prog_114_method_2_code 74 = .ok (.dup, 1) := by decide +kernel
theorem d4_75 : decode prog_114_method_2_code 75 = .ok (.getfield 7, 3) := by decide +kernel
theorem d4_78 : decode prog_114_method_2_code 78 = .ok (.lconst 1, 1) := by decide +kernel
theorem d4_79 : decode prog_114_method_2_code 79 = .ok (.ladd, 1) := by decide +kernel
theorem d4_80 : decode prog_114_method_2_code 80 = .ok (.putfield 7, 3) := by decide +kernel
theorem d4_83 : decode prog_114_method_2_code 83 = .ok (.aload_n 0, 1) := by decide +kernel
theorem d4_84 : decode prog_114_method_2_code 84 = .ok (.lconst 1, 1) := by decide +kernel
theorem d4_85 : decode prog_114_method_2_code 85 = .ok (.putfield 13, 3) := by decide +kernel
theorem d4_88 : decode prog_114_method_2_code 88 = .ok (.aload_n 0, 1) := by decide +kernel
theorem d4_89 : decode prog_114_method_2_code 89 = .ok (.iload 6, 2) := by decide +kernel
theorem d4_91 : decode prog_114_method_2_code 91 = .ok (.bipush 13, 2) := by decide +kernel
theorem d4_93 : decode prog_114_method_2_code 93 = .ok (.if_icmp .ne 7, 3) := by decide +kernel
theorem d4_96 : decode prog_114_method_2_code 96 = .ok (.iconst 1, 1) := by decide +kernel
theorem d4_97 : decode prog_114_method_2_code 97 = .ok (.goto 4, 3) := by decide +kernel
theorem d4_100 : decode prog_114_method_2_code 100 = .ok (.iconst 0, 1) := by decide +kernel
theorem d4_101 : decode prog_114_method_2_code 101 = .ok (.putfield 16, 3) := by decide +kernel
theorem d4_104 : decode prog_114_method_2_code 104 = .ok (.iload 5, 2) := by decide +kernel
theorem d4_106 : decode prog_114_method_2_code 106 = .ok (.iconst 1, 1) := by decide +kernel
theorem d4_107 : decode prog_114_method_2_code 107 = .ok (.iadd, 1) := by decide +kernel
theorem d4_108 : decode prog_114_method_2_code 108 = .ok (.istore 4, 2) := by decide +kernel
theorem d4_110 : decode prog_114_method_2_code 110 = .ok (.iinc 5 1, 3) := by decide +kernel
theorem d4_113 : decode prog_114_method_2_code 113 = .ok (.goto (-107), 3) := by decide +kernel
theorem d4_116 : decode prog_114_method_2_code 116 = .ok (.iload_n 3, 1) := by decide +kernel
theorem d4_117 : decode prog_114_method_2_code 117 = .ok (.iload 4, 2) := by decide +kernel
theorem d4_119 : decode prog_114_method_2_code 119 = .ok (.if_icmp .le 22, 3) := by decide +kernel
theorem d4_122 : decode prog_114_method_2_code 122 = .ok (.aload_n 0, 1) := by decide +kernel
theorem d4_123 : decode prog_114_method_2_code 123 = .ok (.dup, 1) := by decide +kernel
theorem d4_124 : decode prog_114_method_2_code 124 = .ok (.getfield 13, 3) := by decide +kernel
theorem d4_127 : decode prog_114_method_2_code 127 = .ok (.iload_n 3, 1) := by decide +kernel
theorem d4_128 : decode prog_114_method_2_code 128 = .ok (.iload 4, 2) := by decide +kernel
theorem d4_130 : decode prog_114_method_2_code 130 = .ok (.isub, 1) := by decide +kernel
theorem d4_131 : decode prog_114_method_2_code 131 = .ok (.i2l, 1) := by decide +kernel
theorem d4_132 : decode prog_114_method_2_code 132 = .ok (.ladd, 1) := by decide +kernel
theorem d4_133 : decode prog_114_method_2_code 133 = .ok (.putfield 13, 3) := by decide +kernel
theorem d4_136 : decode prog_114_method_2_code 136 = .ok (.aload_n 0, 1) := by decide +kernel
theorem d4_137 : decode prog_114_method_2_code 137 = .ok (.iconst 0, 1) := by decide +kernel
theorem d4_138 : decode prog_114_method_2_code 138 = .ok (.putfield 16, 3) := by decide +kernel
theorem d4_141 : decode prog_114_method_2_code 141 = .ok (.return_, 1) := by decide +kernel
theorem pn_4 : plainFor (⟨"com/example/libhybrid/libhybrid/text/PlaceCounter", "pass", "([CII)V"⟩ : MethodName) = true := plainFor_of_name (by first | (simp [plainName, overriddenIn]; done) | decide +kernel)
theorem ef_4 (m : MethodId) (r0 : Addr) (r1 : Addr) (p2 : Int32) (p3 : Int32) : entryFrame m #[(.ref r0), (.ref r1), (.int p2), (.int p3)] 7 = mkF m 0 #[.val (.ref r0), .val (.ref r1), .val (.int p2), .val (.int p3), .unset, .unset, .unset] [] := by first | (simp [entryFrame, mkF, argsToLocals, Value.category]; done) | rfl
def Qq4 (Z : State) (r0 : Addr) (r1 : Addr) (p2 : Int32) (p3 : Int32) (σ : Int64 × Int64 × Bool) (n i0 j0 : Nat) (f : Nat → Int32) (h0 : Heap) : Heap → Prop := fun h' => O_PC Z h' r0 (rn f i0 (j0 - i0) σ).1 (rn f i0 (j0 - i0) σ).2.1 (bi (rn f i0 (j0 - i0) σ).2.2)
abbrev Gg4 (p : Program) (l : Launch) (e : Env) (s : State) (m : MethodId) (below : List Frame) (meth : Method) (c : Code) (n0 : Nat) (h0 : Heap) (Z : State) (r0 : Addr) (r1 : Addr) (p2 : Int32) (p3 : Int32) (σ : Int64 × Int64 × Bool) (n i0 j0 : Nat) (f : Nat → Int32) (cc ss : Nat) (hh : Heap) (gg : JFrame) : Prop := G p l e ({ frames := 0, cells := 0, slots := 0, locals := 0 } : Room) s m #[(.ref r0), (.ref r1), (.int p2), (.int p3)] below meth c n0 h0 [r0] (RV (Qq4 Z r0 r1 p2 p3 σ n i0 j0 f h0)) cc ss hh gg
set_option maxRecDepth 65536 in
set_option maxHeartbeats 40000000 in
theorem rm4 (l : Launch) (Z : State) (a0 : Array Value) (hw : ∀ d ∈ tables_1, d.before a0 Z = true) (r0 : Addr) (r1 : Addr) (p2 : Int32) (p3 : Int32) (σ : Int64 × Int64 × Bool) (n i0 j0 : Nat) (f : Nat → Int32) (h0 : Heap) (n0 : Nat) (hn : n0 ≤ h0.size) (O : O_PC Z h0 r0 σ.1 σ.2.1 (bi σ.2.2)) (A : ArI Z h0 r1 .char n f) (hne : r0 ≠ r1) (hr : n0 ≤ r0) (hi0 : p2.toInt = (i0 : Int)) (hj0 : p3.toInt = (j0 : Int)) (hij : i0 ≤ j0) (hjn : j0 ≤ n) (hn6 : n ≤ 6) :
    Mt l Z (⟨"com/example/libhybrid/libhybrid/text/PlaceCounter", "pass", "([CII)V"⟩ : MethodName) prog_114_method_2_code 7 none [] ({ frames := 0, cells := 0, slots := 0, locals := 0 } : Room) n0 #[(.ref r0), (.ref r1), (.int p2), (.int p3)] h0 [r0] (RV (Qq4 Z r0 r1 p2 p3 σ n i0 j0 f h0)) := by
  refine Mt.intro pn_4 hn (allS hr all0) ?_
  have hz : h0.size ≤ h0.size := Nat.le_refl _
  intro p e s m below meth c B
  refine G.entry (ef_4 m r0 r1 p2 p3) ?_
  show Gg4 p l e s m below meth c n0 h0 Z r0 r1 p2 p3 σ n i0 j0 f 0 0 h0 (mkF m 0 #[.val (.ref r0), .val (.ref r1), .val (.int p2), .val (.int p3), .unset, .unset, .unset] [])
  refine G.iloadN B d4_0 (v := p2) rfl (pc' := 1) rfl ?_
  refine G.istore B d4_1 (ls' := #[.val (.ref r0), .val (.ref r1), .val (.int p2), .val (.int p3), .val (.int p2), .unset, .unset]) rfl (pc' := 3) rfl ?_
  refine G.iloadN B d4_3 (v := p2) rfl (pc' := 4) rfl ?_
  refine G.istore B d4_4 (ls' := #[.val (.ref r0), .val (.ref r1), .val (.int p2), .val (.int p3), .val (.int p2), .val (.int p2), .unset]) rfl (pc' := 6) rfl ?_
  have loop : ∀ (k : Nat) (h_loop : Heap) (i : Nat) (cn : Nat) (Ln : Int64) (Cl : Int64) (ac : Bool) (ii : Int32) (cc : Int32) (s6 : Slot), n0 ≤ h_loop.size → h0.size ≤ h_loop.size → O_PC Z h_loop r0 Ln Cl (bi ac) → ArI Z h_loop r1 .char n f → (i + k = j0) → (i0 ≤ i) → (cn ≤ i) → (PInv f i0 i cn σ Ln Cl ac) → (ii.toInt = (i : Int)) → (cc.toInt = (cn : Int)) → (One s6) → Gg4 p l e s m below meth c n0 h0 Z r0 r1 p2 p3 σ n i0 j0 f 0 0 h_loop (mkF m 6 #[.val (.ref r0), .val (.ref r1), .val (.int p2), .val (.int p3), .val (.int cc), .val (.int ii), s6] []) := by
    clear hn hz
    intro k
    induction k with
    | zero =>
      intro h_loop i cn Ln Cl ac ii cc s6 hn hz O A hi hii0 hcn hP hii hcc hs6
      rw [Nat.add_zero] at hi
      subst hi
      refine G.iload B d4_6 (v := ii) rfl (pc' := 8) rfl ?_
      refine G.iloadN B d4_8 (v := p3) rfl (pc' := 9) rfl ?_
      have hc9 : p3.toInt ≤ ii.toInt := by omega
      refine G.icmp_ge B d4_9 (by decide) (pcT := 116) (by decide) (pc' := 12) rfl (fun _ => ?_) (fun q => absurd q (by first | exact Int.not_lt.mpr hc9 | exact Int.not_le.mpr hc9))
      refine G.iloadN B d4_116 (v := p3) rfl (pc' := 117) rfl ?_
      refine G.iload B d4_117 (v := cc) rfl (pc' := 119) rfl ?_
      refine G.icmp_le B d4_119 (by decide) (pcT := 141) (by decide) (pc' := 122) rfl (fun (hc119 : p3.toInt ≤ cc.toInt) => ?_) (fun (hc119 : cc.toInt < p3.toInt) => ?_)
      · have e := P_end0 hP (by omega)
        exact G.retV B d4_141 (by decide) (by decide) (by
          show O_PC Z h_loop r0 _ _ _
          rw [e]; exact O)
      · refine G.aloadN B d4_122 (v := (.ref r0)) rfl rfl (pc' := 123) rfl ?_
        refine G.dup B d4_123 rfl (pc' := 124) rfl ?_
        refine G.getF B (host := "") (Or.inl (hw _ (List.mem_of_getElem? (i := 16) rfl))) Via.refl O.2.2.1 d4_124 (pc' := 127) rfl ?_
        refine G.iloadN B d4_127 (v := p3) rfl (pc' := 128) rfl ?_
        refine G.iload B d4_128 (v := cc) rfl (pc' := 130) rfl ?_
        refine G.isub B d4_130 (pc' := 131) rfl ?_
        refine G.i2l B d4_131 (pc' := 132) rfl ?_
        refine G.ladd B d4_132 (pc' := 133) rfl ?_
        refine G.putF (C := "com/example/libhybrid/libhybrid/text/PlaceCounter") B (hw _ (List.mem_of_getElem? (i := 16) rfl)) Via.refl O.2.2.1 O.1 (Or.inl (hw _ (List.mem_of_getElem? (i := 17) rfl))) (hw _ (List.mem_of_getElem? (i := 6) rfl)) (ty := .long) (v' := (.long (Cl + ((p3 - cc).toInt64)))) (by decide) rfl rfl (Or.inl (List.mem_of_getElem? (i := 0) rfl)) d4_133 (pc' := 136) rfl (fun h1 W1 => ?_)
        replace O := O.set_1 hw W1
        replace hn := Nat.le_trans hn (Keep.of_wr W1).1
        replace hz := Nat.le_trans hz (Keep.of_wr W1).1
        replace A := A.keep (Keep.of_wr W1) (ninS (Ne.symm hne) nin0)
        refine G.aloadN B d4_136 (v := (.ref r0)) rfl rfl (pc' := 137) rfl ?_
        refine G.iconst B d4_137 (z := (0 : Int32)) rfl (pc' := 138) rfl ?_
        refine G.putF (C := "com/example/libhybrid/libhybrid/text/PlaceCounter") B (hw _ (List.mem_of_getElem? (i := 23) rfl)) Via.refl O.2.2.2 O.1 (Or.inl (hw _ (List.mem_of_getElem? (i := 24) rfl))) (hw _ (List.mem_of_getElem? (i := 6) rfl)) (ty := .boolean) (v' := (.int (0 : Int32))) (by decide) rfl rfl (Or.inl (List.mem_of_getElem? (i := 0) rfl)) d4_138 (pc' := 141) rfl (fun h2 W2 => ?_)
        replace O := O.set_2 hw W2
        replace hn := Nat.le_trans hn (Keep.of_wr W2).1
        replace hz := Nat.le_trans hz (Keep.of_wr W2).1
        replace A := A.keep (Keep.of_wr W2) (ninS (Ne.symm hne) nin0)
        have e := P_end1 hP (by omega)
        rw [own_dif hj0 hcc hcn (by omega)] at O
        exact G.retV B d4_141 (by decide) (by decide) (by
          show O_PC Z h2 r0 _ _ _
          rw [e]; exact O)
    | succ k ih =>
      intro h_loop i cn Ln Cl ac ii cc s6 hn hz O A hi hii0 hcn hP hii hcc hs6
      refine G.iload B d4_6 (v := ii) rfl (pc' := 8) rfl ?_
      refine G.iloadN B d4_8 (v := p3) rfl (pc' := 9) rfl ?_
      have hc9 : ii.toInt < p3.toInt := by omega
      refine G.icmp_ge B d4_9 (by decide) (pcT := 116) (by decide) (pc' := 12) rfl (fun q => absurd q (by first | exact Int.not_lt.mpr hc9 | exact Int.not_le.mpr hc9)) (fun _ => ?_)
      refine G.aloadN B d4_12 (v := (.ref r1)) rfl rfl (pc' := 13) rfl ?_
      refine G.iload B d4_13 (v := ii) rfl (pc' := 15) rfl ?_
      refine G.ldC B A (i := i) hii (by omega) (x := (f i)) rfl d4_15 (pc' := 16) rfl ?_
      have hos : storeLocals #[.val (.ref r0), .val (.ref r1), .val (.int p2), .val (.int p3), .val (.int cc), .val (.int ii), s6] 6 (.int (f i)) = some #[.val (.ref r0), .val (.ref r1), .val (.int p2), .val (.int p3), .val (.int cc), .val (.int ii), .val (.int (f i))] := by
        rcases hs6 with rfl | ⟨w, rfl, hw⟩
        · rfl
        · cases w <;> first | rfl | (simp [Value.category] at hw)
      refine G.istore B d4_16 hos (pc' := 18) rfl ?_
      refine G.iload B d4_18 (v := (f i)) rfl (pc' := 20) rfl ?_
      refine G.bipush B d4_20 (z := (13 : Int32)) rfl (pc' := 22) rfl ?_
      refine G.icmp_eq B d4_22 (by decide) (pcT := 32) (by decide) (pc' := 25) rfl (fun (hc22 : (f i) = (13 : Int32)) => ?_) (fun (hc22 : (f i) ≠ (13 : Int32)) => ?_)
      · refine G.iload B d4_32 (v := ii) rfl (pc' := 34) rfl ?_
        refine G.iload B d4_34 (v := cc) rfl (pc' := 36) rfl ?_
        refine G.icmp_le B d4_36 (by decide) (pcT := 59) (by decide) (pc' := 39) rfl (fun (hc36 : ii.toInt ≤ cc.toInt) => ?_) (fun (hc36 : cc.toInt < ii.toInt) => ?_)
        · refine G.iload B d4_59 (v := (f i)) rfl (pc' := 61) rfl ?_
          refine G.bipush B d4_61 (z := (13 : Int32)) rfl (pc' := 63) rfl ?_
          have hc63 : (f i) = (13 : Int32) := hc22
          refine G.icmp_eq B d4_63 (by decide) (pcT := 73) (by decide) (pc' := 66) rfl (fun _ => ?_) (fun q => absurd hc63 q)
          refine G.aloadN B d4_73 (v := (.ref r0)) rfl rfl (pc' := 74) rfl ?_
          refine G.dup B d4_74 rfl (pc' := 75) rfl ?_
          refine G.getF B (host := "") (Or.inl (hw _ (List.mem_of_getElem? (i := 14) rfl))) Via.refl O.2.1 d4_75 (pc' := 78) rfl ?_
          refine G.lconst B d4_78 (z := (1 : Int64)) rfl (pc' := 79) rfl ?_
          refine G.ladd B d4_79 (pc' := 80) rfl ?_
          refine G.putF (C := "com/example/libhybrid/libhybrid/text/PlaceCounter") B (hw _ (List.mem_of_getElem? (i := 14) rfl)) Via.refl O.2.1 O.1 (Or.inl (hw _ (List.mem_of_getElem? (i := 15) rfl))) (hw _ (List.mem_of_getElem? (i := 6) rfl)) (ty := .long) (v' := (.long (Ln + (1 : Int64)))) (by decide) rfl rfl (Or.inl (List.mem_of_getElem? (i := 0) rfl)) d4_80 (pc' := 83) rfl (fun h3 W3 => ?_)
          replace O := O.set_0 hw W3
          replace hn := Nat.le_trans hn (Keep.of_wr W3).1
          replace hz := Nat.le_trans hz (Keep.of_wr W3).1
          replace A := A.keep (Keep.of_wr W3) (ninS (Ne.symm hne) nin0)
          refine G.aloadN B d4_83 (v := (.ref r0)) rfl rfl (pc' := 84) rfl ?_
          refine G.lconst B d4_84 (z := (1 : Int64)) rfl (pc' := 85) rfl ?_
          refine G.putF (C := "com/example/libhybrid/libhybrid/text/PlaceCounter") B (hw _ (List.mem_of_getElem? (i := 16) rfl)) Via.refl O.2.2.1 O.1 (Or.inl (hw _ (List.mem_of_getElem? (i := 17) rfl))) (hw _ (List.mem_of_getElem? (i := 6) rfl)) (ty := .long) (v' := (.long (1 : Int64))) (by decide) rfl rfl (Or.inl (List.mem_of_getElem? (i := 0) rfl)) d4_85 (pc' := 88) rfl (fun h4 W4 => ?_)
          replace O := O.set_1 hw W4
          replace hn := Nat.le_trans hn (Keep.of_wr W4).1
          replace hz := Nat.le_trans hz (Keep.of_wr W4).1
          replace A := A.keep (Keep.of_wr W4) (ninS (Ne.symm hne) nin0)
          refine G.aloadN B d4_88 (v := (.ref r0)) rfl rfl (pc' := 89) rfl ?_
          refine G.iload B d4_89 (v := (f i)) rfl (pc' := 91) rfl ?_
          refine G.bipush B d4_91 (z := (13 : Int32)) rfl (pc' := 93) rfl ?_
          have hc93 : (f i) = (13 : Int32) := hc22
          refine G.icmp_ne B d4_93 (by decide) (pcT := 100) (by decide) (pc' := 96) rfl (fun q => absurd hc93 q) (fun _ => ?_)
          refine G.iconst B d4_96 (z := (1 : Int32)) rfl (pc' := 97) rfl ?_
          refine G.goto B d4_97 (by decide) (pc' := 101) (by decide) ?_
          refine G.putF (C := "com/example/libhybrid/libhybrid/text/PlaceCounter") B (hw _ (List.mem_of_getElem? (i := 23) rfl)) Via.refl O.2.2.2 O.1 (Or.inl (hw _ (List.mem_of_getElem? (i := 24) rfl))) (hw _ (List.mem_of_getElem? (i := 6) rfl)) (ty := .boolean) (v' := (.int (1 : Int32))) (by decide) rfl rfl (Or.inl (List.mem_of_getElem? (i := 0) rfl)) d4_101 (pc' := 104) rfl (fun h5 W5 => ?_)
          replace O := O.set_2 hw W5
          replace hn := Nat.le_trans hn (Keep.of_wr W5).1
          replace hz := Nat.le_trans hz (Keep.of_wr W5).1
          replace A := A.keep (Keep.of_wr W5) (ninS (Ne.symm hne) nin0)
          refine G.iload B d4_104 (v := ii) rfl (pc' := 106) rfl ?_
          refine G.iconst B d4_106 (z := (1 : Int32)) rfl (pc' := 107) rfl ?_
          refine G.iadd B d4_107 (pc' := 108) rfl ?_
          refine G.istore B d4_108 (ls' := #[.val (.ref r0), .val (.ref r1), .val (.int p2), .val (.int p3), .val (.int (ii + (1 : Int32))), .val (.int ii), .val (.int (f i))]) rfl (pc' := 110) rfl ?_
          refine G.iinc B d4_110 (x := ii) rfl (z := (ii + (1 : Int32))) rfl (ls' := #[.val (.ref r0), .val (.ref r1), .val (.int p2), .val (.int p3), .val (.int (ii + (1 : Int32))), .val (.int (ii + (1 : Int32))), .val (.int (f i))]) rfl (pc' := 113) rfl ?_
          refine G.goto B d4_113 (by decide) (pc' := 6) (by decide) ?_
          exact ih h5 (i + 1) (i + 1) (Ln + 1) 1 true (ii + (1 : Int32)) (ii + (1 : Int32)) (.val (.int (f i))) hn hz O A (by omega) (by omega) (by omega) (P_13 hP (by omega) hc22) (own_inc hii (by omega)) (own_inc hii (by omega)) (One.val rfl)
        · refine G.aloadN B d4_39 (v := (.ref r0)) rfl rfl (pc' := 40) rfl ?_
          refine G.dup B d4_40 rfl (pc' := 41) rfl ?_
          refine G.getF B (host := "") (Or.inl (hw _ (List.mem_of_getElem? (i := 16) rfl))) Via.refl O.2.2.1 d4_41 (pc' := 44) rfl ?_
          refine G.iload B d4_44 (v := ii) rfl (pc' := 46) rfl ?_
          refine G.iload B d4_46 (v := cc) rfl (pc' := 48) rfl ?_
          refine G.isub B d4_48 (pc' := 49) rfl ?_
          refine G.i2l B d4_49 (pc' := 50) rfl ?_
          refine G.ladd B d4_50 (pc' := 51) rfl ?_
          refine G.putF (C := "com/example/libhybrid/libhybrid/text/PlaceCounter") B (hw _ (List.mem_of_getElem? (i := 16) rfl)) Via.refl O.2.2.1 O.1 (Or.inl (hw _ (List.mem_of_getElem? (i := 17) rfl))) (hw _ (List.mem_of_getElem? (i := 6) rfl)) (ty := .long) (v' := (.long (Cl + ((ii - cc).toInt64)))) (by decide) rfl rfl (Or.inl (List.mem_of_getElem? (i := 0) rfl)) d4_51 (pc' := 54) rfl (fun h6 W6 => ?_)
          replace O := O.set_1 hw W6
          replace hn := Nat.le_trans hn (Keep.of_wr W6).1
          replace hz := Nat.le_trans hz (Keep.of_wr W6).1
          replace A := A.keep (Keep.of_wr W6) (ninS (Ne.symm hne) nin0)
          refine G.aloadN B d4_54 (v := (.ref r0)) rfl rfl (pc' := 55) rfl ?_
          refine G.iconst B d4_55 (z := (0 : Int32)) rfl (pc' := 56) rfl ?_
          refine G.putF (C := "com/example/libhybrid/libhybrid/text/PlaceCounter") B (hw _ (List.mem_of_getElem? (i := 23) rfl)) Via.refl O.2.2.2 O.1 (Or.inl (hw _ (List.mem_of_getElem? (i := 24) rfl))) (hw _ (List.mem_of_getElem? (i := 6) rfl)) (ty := .boolean) (v' := (.int (0 : Int32))) (by decide) rfl rfl (Or.inl (List.mem_of_getElem? (i := 0) rfl)) d4_56 (pc' := 59) rfl (fun h7 W7 => ?_)
          replace O := O.set_2 hw W7
          replace hn := Nat.le_trans hn (Keep.of_wr W7).1
          replace hz := Nat.le_trans hz (Keep.of_wr W7).1
          replace A := A.keep (Keep.of_wr W7) (ninS (Ne.symm hne) nin0)
          refine G.iload B d4_59 (v := (f i)) rfl (pc' := 61) rfl ?_
          refine G.bipush B d4_61 (z := (13 : Int32)) rfl (pc' := 63) rfl ?_
          have hc63 : (f i) = (13 : Int32) := hc22
          refine G.icmp_eq B d4_63 (by decide) (pcT := 73) (by decide) (pc' := 66) rfl (fun _ => ?_) (fun q => absurd hc63 q)
          refine G.aloadN B d4_73 (v := (.ref r0)) rfl rfl (pc' := 74) rfl ?_
          refine G.dup B d4_74 rfl (pc' := 75) rfl ?_
          refine G.getF B (host := "") (Or.inl (hw _ (List.mem_of_getElem? (i := 14) rfl))) Via.refl O.2.1 d4_75 (pc' := 78) rfl ?_
          refine G.lconst B d4_78 (z := (1 : Int64)) rfl (pc' := 79) rfl ?_
          refine G.ladd B d4_79 (pc' := 80) rfl ?_
          refine G.putF (C := "com/example/libhybrid/libhybrid/text/PlaceCounter") B (hw _ (List.mem_of_getElem? (i := 14) rfl)) Via.refl O.2.1 O.1 (Or.inl (hw _ (List.mem_of_getElem? (i := 15) rfl))) (hw _ (List.mem_of_getElem? (i := 6) rfl)) (ty := .long) (v' := (.long (Ln + (1 : Int64)))) (by decide) rfl rfl (Or.inl (List.mem_of_getElem? (i := 0) rfl)) d4_80 (pc' := 83) rfl (fun h8 W8 => ?_)
          replace O := O.set_0 hw W8
          replace hn := Nat.le_trans hn (Keep.of_wr W8).1
          replace hz := Nat.le_trans hz (Keep.of_wr W8).1
          replace A := A.keep (Keep.of_wr W8) (ninS (Ne.symm hne) nin0)
          refine G.aloadN B d4_83 (v := (.ref r0)) rfl rfl (pc' := 84) rfl ?_
          refine G.lconst B d4_84 (z := (1 : Int64)) rfl (pc' := 85) rfl ?_
          refine G.putF (C := "com/example/libhybrid/libhybrid/text/PlaceCounter") B (hw _ (List.mem_of_getElem? (i := 16) rfl)) Via.refl O.2.2.1 O.1 (Or.inl (hw _ (List.mem_of_getElem? (i := 17) rfl))) (hw _ (List.mem_of_getElem? (i := 6) rfl)) (ty := .long) (v' := (.long (1 : Int64))) (by decide) rfl rfl (Or.inl (List.mem_of_getElem? (i := 0) rfl)) d4_85 (pc' := 88) rfl (fun h9 W9 => ?_)
          replace O := O.set_1 hw W9
          replace hn := Nat.le_trans hn (Keep.of_wr W9).1
          replace hz := Nat.le_trans hz (Keep.of_wr W9).1
          replace A := A.keep (Keep.of_wr W9) (ninS (Ne.symm hne) nin0)
          refine G.aloadN B d4_88 (v := (.ref r0)) rfl rfl (pc' := 89) rfl ?_
          refine G.iload B d4_89 (v := (f i)) rfl (pc' := 91) rfl ?_
          refine G.bipush B d4_91 (z := (13 : Int32)) rfl (pc' := 93) rfl ?_
          have hc93 : (f i) = (13 : Int32) := hc22
          refine G.icmp_ne B d4_93 (by decide) (pcT := 100) (by decide) (pc' := 96) rfl (fun q => absurd hc93 q) (fun _ => ?_)
          refine G.iconst B d4_96 (z := (1 : Int32)) rfl (pc' := 97) rfl ?_
          refine G.goto B d4_97 (by decide) (pc' := 101) (by decide) ?_
          refine G.putF (C := "com/example/libhybrid/libhybrid/text/PlaceCounter") B (hw _ (List.mem_of_getElem? (i := 23) rfl)) Via.refl O.2.2.2 O.1 (Or.inl (hw _ (List.mem_of_getElem? (i := 24) rfl))) (hw _ (List.mem_of_getElem? (i := 6) rfl)) (ty := .boolean) (v' := (.int (1 : Int32))) (by decide) rfl rfl (Or.inl (List.mem_of_getElem? (i := 0) rfl)) d4_101 (pc' := 104) rfl (fun h10 W10 => ?_)
          replace O := O.set_2 hw W10
          replace hn := Nat.le_trans hn (Keep.of_wr W10).1
          replace hz := Nat.le_trans hz (Keep.of_wr W10).1
          replace A := A.keep (Keep.of_wr W10) (ninS (Ne.symm hne) nin0)
          refine G.iload B d4_104 (v := ii) rfl (pc' := 106) rfl ?_
          refine G.iconst B d4_106 (z := (1 : Int32)) rfl (pc' := 107) rfl ?_
          refine G.iadd B d4_107 (pc' := 108) rfl ?_
          refine G.istore B d4_108 (ls' := #[.val (.ref r0), .val (.ref r1), .val (.int p2), .val (.int p3), .val (.int (ii + (1 : Int32))), .val (.int ii), .val (.int (f i))]) rfl (pc' := 110) rfl ?_
          refine G.iinc B d4_110 (x := ii) rfl (z := (ii + (1 : Int32))) rfl (ls' := #[.val (.ref r0), .val (.ref r1), .val (.int p2), .val (.int p3), .val (.int (ii + (1 : Int32))), .val (.int (ii + (1 : Int32))), .val (.int (f i))]) rfl (pc' := 113) rfl ?_
          refine G.goto B d4_113 (by decide) (pc' := 6) (by decide) ?_
          exact ih h10 (i + 1) (i + 1) (Ln + 1) 1 true (ii + (1 : Int32)) (ii + (1 : Int32)) (.val (.int (f i))) hn hz O A (by omega) (by omega) (by omega) (P_13 hP (by omega) hc22) (own_inc hii (by omega)) (own_inc hii (by omega)) (One.val rfl)
      · refine G.iload B d4_25 (v := (f i)) rfl (pc' := 27) rfl ?_
        refine G.bipush B d4_27 (z := (10 : Int32)) rfl (pc' := 29) rfl ?_
        refine G.icmp_ne B d4_29 (by decide) (pcT := 110) (by decide) (pc' := 32) rfl (fun (hc29 : (f i) ≠ (10 : Int32)) => ?_) (fun (hc29 : (f i) = (10 : Int32)) => ?_)
        · refine G.iinc B d4_110 (x := ii) rfl (z := (ii + (1 : Int32))) rfl (ls' := #[.val (.ref r0), .val (.ref r1), .val (.int p2), .val (.int p3), .val (.int cc), .val (.int (ii + (1 : Int32))), .val (.int (f i))]) rfl (pc' := 113) rfl ?_
          refine G.goto B d4_113 (by decide) (pc' := 6) (by decide) ?_
          exact ih h_loop (i + 1) cn Ln Cl ac (ii + (1 : Int32)) cc (.val (.int (f i))) hn hz O A (by omega) (by omega) (by omega) (P_ord hP (by omega) (by omega) hc22 hc29) (own_inc hii (by omega)) hcc (One.val rfl)
        · refine G.iload B d4_32 (v := ii) rfl (pc' := 34) rfl ?_
          refine G.iload B d4_34 (v := cc) rfl (pc' := 36) rfl ?_
          refine G.icmp_le B d4_36 (by decide) (pcT := 59) (by decide) (pc' := 39) rfl (fun (hc36 : ii.toInt ≤ cc.toInt) => ?_) (fun (hc36 : cc.toInt < ii.toInt) => ?_)
          · refine G.iload B d4_59 (v := (f i)) rfl (pc' := 61) rfl ?_
            refine G.bipush B d4_61 (z := (13 : Int32)) rfl (pc' := 63) rfl ?_
            have hc63 : (f i) ≠ (13 : Int32) := hc22
            refine G.icmp_eq B d4_63 (by decide) (pcT := 73) (by decide) (pc' := 66) rfl (fun q => absurd q hc63) (fun _ => ?_)
            refine G.aloadN B d4_66 (v := (.ref r0)) rfl rfl (pc' := 67) rfl ?_
            refine G.getF B (host := "") (Or.inl (hw _ (List.mem_of_getElem? (i := 23) rfl))) Via.refl O.2.2.2 d4_67 (pc' := 70) rfl ?_
            refine G.if_ne B d4_70 (by decide) (pcT := 88) (by decide) (pc' := 73) rfl (fun (hc70 : (bi ac) ≠ 0) => ?_) (fun (hc70 : (bi ac) = 0) => ?_)
            · refine G.aloadN B d4_88 (v := (.ref r0)) rfl rfl (pc' := 89) rfl ?_
              refine G.iload B d4_89 (v := (f i)) rfl (pc' := 91) rfl ?_
              refine G.bipush B d4_91 (z := (13 : Int32)) rfl (pc' := 93) rfl ?_
              have hc93 : (f i) ≠ (13 : Int32) := hc22
              refine G.icmp_ne B d4_93 (by decide) (pcT := 100) (by decide) (pc' := 96) rfl (fun _ => ?_) (fun q => absurd q hc93)
              refine G.iconst B d4_100 (z := (0 : Int32)) rfl (pc' := 101) rfl ?_
              refine G.putF (C := "com/example/libhybrid/libhybrid/text/PlaceCounter") B (hw _ (List.mem_of_getElem? (i := 23) rfl)) Via.refl O.2.2.2 O.1 (Or.inl (hw _ (List.mem_of_getElem? (i := 24) rfl))) (hw _ (List.mem_of_getElem? (i := 6) rfl)) (ty := .boolean) (v' := (.int (0 : Int32))) (by decide) rfl rfl (Or.inl (List.mem_of_getElem? (i := 0) rfl)) d4_101 (pc' := 104) rfl (fun h11 W11 => ?_)
              replace O := O.set_2 hw W11
              replace hn := Nat.le_trans hn (Keep.of_wr W11).1
              replace hz := Nat.le_trans hz (Keep.of_wr W11).1
              replace A := A.keep (Keep.of_wr W11) (ninS (Ne.symm hne) nin0)
              refine G.iload B d4_104 (v := ii) rfl (pc' := 106) rfl ?_
              refine G.iconst B d4_106 (z := (1 : Int32)) rfl (pc' := 107) rfl ?_
              refine G.iadd B d4_107 (pc' := 108) rfl ?_
              refine G.istore B d4_108 (ls' := #[.val (.ref r0), .val (.ref r1), .val (.int p2), .val (.int p3), .val (.int (ii + (1 : Int32))), .val (.int ii), .val (.int (f i))]) rfl (pc' := 110) rfl ?_
              have ea := own_bi1 hc70
              subst ea
              refine G.iinc B d4_110 (x := ii) rfl (z := (ii + (1 : Int32))) rfl (ls' := #[.val (.ref r0), .val (.ref r1), .val (.int p2), .val (.int p3), .val (.int (ii + (1 : Int32))), .val (.int (ii + (1 : Int32))), .val (.int (f i))]) rfl (pc' := 113) rfl ?_
              refine G.goto B d4_113 (by decide) (pc' := 6) (by decide) ?_
              exact ih h11 (i + 1) (i + 1) Ln Cl false (ii + (1 : Int32)) (ii + (1 : Int32)) (.val (.int (f i))) hn hz O A (by omega) (by omega) (by omega) (P_10a hP (by omega) (by omega) hc29) (own_inc hii (by omega)) (own_inc hii (by omega)) (One.val rfl)
            · refine G.aloadN B d4_73 (v := (.ref r0)) rfl rfl (pc' := 74) rfl ?_
              refine G.dup B d4_74 rfl (pc' := 75) rfl ?_
              refine G.getF B (host := "") (Or.inl (hw _ (List.mem_of_getElem? (i := 14) rfl))) Via.refl O.2.1 d4_75 (pc' := 78) rfl ?_
              refine G.lconst B d4_78 (z := (1 : Int64)) rfl (pc' := 79) rfl ?_
              refine G.ladd B d4_79 (pc' := 80) rfl ?_
              refine G.putF (C := "com/example/libhybrid/libhybrid/text/PlaceCounter") B (hw _ (List.mem_of_getElem? (i := 14) rfl)) Via.refl O.2.1 O.1 (Or.inl (hw _ (List.mem_of_getElem? (i := 15) rfl))) (hw _ (List.mem_of_getElem? (i := 6) rfl)) (ty := .long) (v' := (.long (Ln + (1 : Int64)))) (by decide) rfl rfl (Or.inl (List.mem_of_getElem? (i := 0) rfl)) d4_80 (pc' := 83) rfl (fun h12 W12 => ?_)
              replace O := O.set_0 hw W12
              replace hn := Nat.le_trans hn (Keep.of_wr W12).1
              replace hz := Nat.le_trans hz (Keep.of_wr W12).1
              replace A := A.keep (Keep.of_wr W12) (ninS (Ne.symm hne) nin0)
              refine G.aloadN B d4_83 (v := (.ref r0)) rfl rfl (pc' := 84) rfl ?_
              refine G.lconst B d4_84 (z := (1 : Int64)) rfl (pc' := 85) rfl ?_
              refine G.putF (C := "com/example/libhybrid/libhybrid/text/PlaceCounter") B (hw _ (List.mem_of_getElem? (i := 16) rfl)) Via.refl O.2.2.1 O.1 (Or.inl (hw _ (List.mem_of_getElem? (i := 17) rfl))) (hw _ (List.mem_of_getElem? (i := 6) rfl)) (ty := .long) (v' := (.long (1 : Int64))) (by decide) rfl rfl (Or.inl (List.mem_of_getElem? (i := 0) rfl)) d4_85 (pc' := 88) rfl (fun h13 W13 => ?_)
              replace O := O.set_1 hw W13
              replace hn := Nat.le_trans hn (Keep.of_wr W13).1
              replace hz := Nat.le_trans hz (Keep.of_wr W13).1
              replace A := A.keep (Keep.of_wr W13) (ninS (Ne.symm hne) nin0)
              refine G.aloadN B d4_88 (v := (.ref r0)) rfl rfl (pc' := 89) rfl ?_
              refine G.iload B d4_89 (v := (f i)) rfl (pc' := 91) rfl ?_
              refine G.bipush B d4_91 (z := (13 : Int32)) rfl (pc' := 93) rfl ?_
              have hc93 : (f i) ≠ (13 : Int32) := hc22
              refine G.icmp_ne B d4_93 (by decide) (pcT := 100) (by decide) (pc' := 96) rfl (fun _ => ?_) (fun q => absurd q hc93)
              refine G.iconst B d4_100 (z := (0 : Int32)) rfl (pc' := 101) rfl ?_
              refine G.putF (C := "com/example/libhybrid/libhybrid/text/PlaceCounter") B (hw _ (List.mem_of_getElem? (i := 23) rfl)) Via.refl O.2.2.2 O.1 (Or.inl (hw _ (List.mem_of_getElem? (i := 24) rfl))) (hw _ (List.mem_of_getElem? (i := 6) rfl)) (ty := .boolean) (v' := (.int (0 : Int32))) (by decide) rfl rfl (Or.inl (List.mem_of_getElem? (i := 0) rfl)) d4_101 (pc' := 104) rfl (fun h14 W14 => ?_)
              replace O := O.set_2 hw W14
              replace hn := Nat.le_trans hn (Keep.of_wr W14).1
              replace hz := Nat.le_trans hz (Keep.of_wr W14).1
              replace A := A.keep (Keep.of_wr W14) (ninS (Ne.symm hne) nin0)
              refine G.iload B d4_104 (v := ii) rfl (pc' := 106) rfl ?_
              refine G.iconst B d4_106 (z := (1 : Int32)) rfl (pc' := 107) rfl ?_
              refine G.iadd B d4_107 (pc' := 108) rfl ?_
              refine G.istore B d4_108 (ls' := #[.val (.ref r0), .val (.ref r1), .val (.int p2), .val (.int p3), .val (.int (ii + (1 : Int32))), .val (.int ii), .val (.int (f i))]) rfl (pc' := 110) rfl ?_
              refine G.iinc B d4_110 (x := ii) rfl (z := (ii + (1 : Int32))) rfl (ls' := #[.val (.ref r0), .val (.ref r1), .val (.int p2), .val (.int p3), .val (.int (ii + (1 : Int32))), .val (.int (ii + (1 : Int32))), .val (.int (f i))]) rfl (pc' := 113) rfl ?_
              refine G.goto B d4_113 (by decide) (pc' := 6) (by decide) ?_
              exact ih h14 (i + 1) (i + 1) (Ln + 1) 1 false (ii + (1 : Int32)) (ii + (1 : Int32)) (.val (.int (f i))) hn hz O A (by omega) (by omega) (by omega) (P_10b hP (by omega) (Or.inr (own_bi hc70)) hc29) (own_inc hii (by omega)) (own_inc hii (by omega)) (One.val rfl)
          · refine G.aloadN B d4_39 (v := (.ref r0)) rfl rfl (pc' := 40) rfl ?_
            refine G.dup B d4_40 rfl (pc' := 41) rfl ?_
            refine G.getF B (host := "") (Or.inl (hw _ (List.mem_of_getElem? (i := 16) rfl))) Via.refl O.2.2.1 d4_41 (pc' := 44) rfl ?_
            refine G.iload B d4_44 (v := ii) rfl (pc' := 46) rfl ?_
            refine G.iload B d4_46 (v := cc) rfl (pc' := 48) rfl ?_
            refine G.isub B d4_48 (pc' := 49) rfl ?_
            refine G.i2l B d4_49 (pc' := 50) rfl ?_
            refine G.ladd B d4_50 (pc' := 51) rfl ?_
            refine G.putF (C := "com/example/libhybrid/libhybrid/text/PlaceCounter") B (hw _ (List.mem_of_getElem? (i := 16) rfl)) Via.refl O.2.2.1 O.1 (Or.inl (hw _ (List.mem_of_getElem? (i := 17) rfl))) (hw _ (List.mem_of_getElem? (i := 6) rfl)) (ty := .long) (v' := (.long (Cl + ((ii - cc).toInt64)))) (by decide) rfl rfl (Or.inl (List.mem_of_getElem? (i := 0) rfl)) d4_51 (pc' := 54) rfl (fun h15 W15 => ?_)
            replace O := O.set_1 hw W15
            replace hn := Nat.le_trans hn (Keep.of_wr W15).1
            replace hz := Nat.le_trans hz (Keep.of_wr W15).1
            replace A := A.keep (Keep.of_wr W15) (ninS (Ne.symm hne) nin0)
            refine G.aloadN B d4_54 (v := (.ref r0)) rfl rfl (pc' := 55) rfl ?_
            refine G.iconst B d4_55 (z := (0 : Int32)) rfl (pc' := 56) rfl ?_
            refine G.putF (C := "com/example/libhybrid/libhybrid/text/PlaceCounter") B (hw _ (List.mem_of_getElem? (i := 23) rfl)) Via.refl O.2.2.2 O.1 (Or.inl (hw _ (List.mem_of_getElem? (i := 24) rfl))) (hw _ (List.mem_of_getElem? (i := 6) rfl)) (ty := .boolean) (v' := (.int (0 : Int32))) (by decide) rfl rfl (Or.inl (List.mem_of_getElem? (i := 0) rfl)) d4_56 (pc' := 59) rfl (fun h16 W16 => ?_)
            replace O := O.set_2 hw W16
            replace hn := Nat.le_trans hn (Keep.of_wr W16).1
            replace hz := Nat.le_trans hz (Keep.of_wr W16).1
            replace A := A.keep (Keep.of_wr W16) (ninS (Ne.symm hne) nin0)
            refine G.iload B d4_59 (v := (f i)) rfl (pc' := 61) rfl ?_
            refine G.bipush B d4_61 (z := (13 : Int32)) rfl (pc' := 63) rfl ?_
            have hc63 : (f i) ≠ (13 : Int32) := hc22
            refine G.icmp_eq B d4_63 (by decide) (pcT := 73) (by decide) (pc' := 66) rfl (fun q => absurd q hc63) (fun _ => ?_)
            refine G.aloadN B d4_66 (v := (.ref r0)) rfl rfl (pc' := 67) rfl ?_
            refine G.getF B (host := "") (Or.inl (hw _ (List.mem_of_getElem? (i := 23) rfl))) Via.refl O.2.2.2 d4_67 (pc' := 70) rfl ?_
            have hc70 : (0 : Int32) = 0 := rfl
            refine G.if_ne B d4_70 (by decide) (pcT := 88) (by decide) (pc' := 73) rfl (fun q => absurd hc70 q) (fun _ => ?_)
            refine G.aloadN B d4_73 (v := (.ref r0)) rfl rfl (pc' := 74) rfl ?_
            refine G.dup B d4_74 rfl (pc' := 75) rfl ?_
            refine G.getF B (host := "") (Or.inl (hw _ (List.mem_of_getElem? (i := 14) rfl))) Via.refl O.2.1 d4_75 (pc' := 78) rfl ?_
            refine G.lconst B d4_78 (z := (1 : Int64)) rfl (pc' := 79) rfl ?_
            refine G.ladd B d4_79 (pc' := 80) rfl ?_
            refine G.putF (C := "com/example/libhybrid/libhybrid/text/PlaceCounter") B (hw _ (List.mem_of_getElem? (i := 14) rfl)) Via.refl O.2.1 O.1 (Or.inl (hw _ (List.mem_of_getElem? (i := 15) rfl))) (hw _ (List.mem_of_getElem? (i := 6) rfl)) (ty := .long) (v' := (.long (Ln + (1 : Int64)))) (by decide) rfl rfl (Or.inl (List.mem_of_getElem? (i := 0) rfl)) d4_80 (pc' := 83) rfl (fun h17 W17 => ?_)
            replace O := O.set_0 hw W17
            replace hn := Nat.le_trans hn (Keep.of_wr W17).1
            replace hz := Nat.le_trans hz (Keep.of_wr W17).1
            replace A := A.keep (Keep.of_wr W17) (ninS (Ne.symm hne) nin0)
            refine G.aloadN B d4_83 (v := (.ref r0)) rfl rfl (pc' := 84) rfl ?_
            refine G.lconst B d4_84 (z := (1 : Int64)) rfl (pc' := 85) rfl ?_
            refine G.putF (C := "com/example/libhybrid/libhybrid/text/PlaceCounter") B (hw _ (List.mem_of_getElem? (i := 16) rfl)) Via.refl O.2.2.1 O.1 (Or.inl (hw _ (List.mem_of_getElem? (i := 17) rfl))) (hw _ (List.mem_of_getElem? (i := 6) rfl)) (ty := .long) (v' := (.long (1 : Int64))) (by decide) rfl rfl (Or.inl (List.mem_of_getElem? (i := 0) rfl)) d4_85 (pc' := 88) rfl (fun h18 W18 => ?_)
            replace O := O.set_1 hw W18
            replace hn := Nat.le_trans hn (Keep.of_wr W18).1
            replace hz := Nat.le_trans hz (Keep.of_wr W18).1
            replace A := A.keep (Keep.of_wr W18) (ninS (Ne.symm hne) nin0)
            refine G.aloadN B d4_88 (v := (.ref r0)) rfl rfl (pc' := 89) rfl ?_
            refine G.iload B d4_89 (v := (f i)) rfl (pc' := 91) rfl ?_
            refine G.bipush B d4_91 (z := (13 : Int32)) rfl (pc' := 93) rfl ?_
            have hc93 : (f i) ≠ (13 : Int32) := hc22
            refine G.icmp_ne B d4_93 (by decide) (pcT := 100) (by decide) (pc' := 96) rfl (fun _ => ?_) (fun q => absurd q hc93)
            refine G.iconst B d4_100 (z := (0 : Int32)) rfl (pc' := 101) rfl ?_
            refine G.putF (C := "com/example/libhybrid/libhybrid/text/PlaceCounter") B (hw _ (List.mem_of_getElem? (i := 23) rfl)) Via.refl O.2.2.2 O.1 (Or.inl (hw _ (List.mem_of_getElem? (i := 24) rfl))) (hw _ (List.mem_of_getElem? (i := 6) rfl)) (ty := .boolean) (v' := (.int (0 : Int32))) (by decide) rfl rfl (Or.inl (List.mem_of_getElem? (i := 0) rfl)) d4_101 (pc' := 104) rfl (fun h19 W19 => ?_)
            replace O := O.set_2 hw W19
            replace hn := Nat.le_trans hn (Keep.of_wr W19).1
            replace hz := Nat.le_trans hz (Keep.of_wr W19).1
            replace A := A.keep (Keep.of_wr W19) (ninS (Ne.symm hne) nin0)
            refine G.iload B d4_104 (v := ii) rfl (pc' := 106) rfl ?_
            refine G.iconst B d4_106 (z := (1 : Int32)) rfl (pc' := 107) rfl ?_
            refine G.iadd B d4_107 (pc' := 108) rfl ?_
            refine G.istore B d4_108 (ls' := #[.val (.ref r0), .val (.ref r1), .val (.int p2), .val (.int p3), .val (.int (ii + (1 : Int32))), .val (.int ii), .val (.int (f i))]) rfl (pc' := 110) rfl ?_
            refine G.iinc B d4_110 (x := ii) rfl (z := (ii + (1 : Int32))) rfl (ls' := #[.val (.ref r0), .val (.ref r1), .val (.int p2), .val (.int p3), .val (.int (ii + (1 : Int32))), .val (.int (ii + (1 : Int32))), .val (.int (f i))]) rfl (pc' := 113) rfl ?_
            refine G.goto B d4_113 (by decide) (pc' := 6) (by decide) ?_
            exact ih h19 (i + 1) (i + 1) (Ln + 1) 1 false (ii + (1 : Int32)) (ii + (1 : Int32)) (.val (.int (f i))) hn hz O A (by omega) (by omega) (by omega) (P_10b hP (by omega) (Or.inl (by omega)) hc29) (own_inc hii (by omega)) (own_inc hii (by omega)) (One.val rfl)
  exact loop (j0 - i0) h0 i0 i0 σ.1 σ.2.1 σ.2.2 p2 p2 .unset hn hz O A (by omega) (Nat.le_refl _) (Nat.le_refl _) (by unfold PInv; rw [Nat.sub_self, if_neg (Nat.lt_irrefl _), show Int64.ofNat 0 = 0 from rfl, Int64.add_zero]; rfl) hi0 hi0 One.u
def Sp (f : Nat → Int64) (c : Int32) (g : Nat → Int64) : Prop := (c = 13 ∧ g 0 = f 0 + 1 ∧ g 1 = 1 ∧ g 2 = 1) ∨ (c ≠ 13 ∧ c = 10 ∧ f 2 = 1 ∧ g 0 = f 0 ∧ g 1 = f 1 ∧ g 2 = 0) ∨ (c ≠ 13 ∧ c = 10 ∧ f 2 ≠ 1 ∧ g 0 = f 0 + 1 ∧ g 1 = 1 ∧ g 2 = 0) ∨ (c ≠ 13 ∧ c ≠ 10 ∧ g 0 = f 0 ∧ g 1 = f 1 + 1 ∧ g 2 = 0)
def Rr (g : Nat → Int64) (s : Int64 × Int64 × Bool) : Prop := g 0 = s.1 ∧ g 1 = s.2.1 ∧ g 2 = bj s.2.2
theorem own_sp {f g : Nat → Int64} {c : Int32} {s : Int64 × Int64 × Bool} (h : Rr f s) (q : Sp f c g) : Rr g (stp s c) := by
  obtain ⟨h0, h1, h2⟩ := h
  obtain ⟨s0, s1, s2⟩ := s
  unfold Sp at q
  unfold stp Rr
  dsimp only at h0 h1 h2 ⊢
  rcases q with ⟨a, b0, b1, b2⟩ | ⟨a, a1, a2, b0, b1, b2⟩ | ⟨a, a1, a2, b0, b1, b2⟩ | ⟨a, a1, b0, b1, b2⟩
  · rw [if_pos a]; exact ⟨by rw [b0, h0], b1, b2⟩
  · have e : s2 = true := by cases s2 <;> first | rfl | (rw [h2] at a2; exact absurd a2 (by decide))
    rw [if_neg a, if_pos a1, if_pos e]; exact ⟨by rw [b0, h0], by rw [b1, h1], b2⟩
  · have e : ¬ s2 = true := by intro e; rw [h2, e] at a2; exact a2 rfl
    rw [if_neg a, if_pos a1, if_neg e]; exact ⟨by rw [b0, h0], b1, b2⟩
  · rw [if_neg a, if_neg a1]; exact ⟨by rw [b0, h0], by rw [b1, h1], b2⟩
theorem d5_0 : decode method_3_code 0 = .ok (.iload_n 2, 1) := by decide +kernel
theorem d5_1 : decode method_3_code 1 = .ok (.ifCond .ne 4, 3) := by decide +kernel
theorem d5_4 : decode method_3_code 4 = .ok (.return_, 1) := by decide +kernel
theorem d5_5 : decode method_3_code 5 = .ok (.iload_n 1, 1) := by decide +kernel
theorem d5_6 : decode method_3_code 6 = .ok (.bipush 13, 2) := by decide +kernel
theorem d5_8 : decode method_3_code 8 = .ok (.if_icmp .ne 22, 3) := by decide +kernel
theorem d5_11 : decode method_3_code 11 = .ok (.aload_n 0, 1) := by decide +kernel
theorem d5_12 : decode method_3_code 12 = .ok (.iconst 0, 1) := by decide +kernel
theorem d5_13 : decode method_3_code 13 = .ok (.aload_n 0, 1) := by decide +kernel
theorem d5_14 : decode method_3_code 14 = .ok (.iconst 0, 1) := by decide +kernel
theorem d5_15 : decode method_3_code 15 = .ok (.laload, 1) := by decide +kernel
theorem d5_16 : decode method_3_code 16 = .ok (.lconst 1, 1) := by decide +kernel
theorem d5_17 : decode method_3_code 17 = .ok (.ladd, 1) := by decide +kernel
theorem d5_18 : decode method_3_code 18 = .ok (.lastore, 1) := by decide +kernel
theorem d5_19 : decode method_3_code 19 = .ok (.aload_n 0, 1) := by decide +kernel
theorem d5_20 : decode method_3_code 20 = .ok (.iconst 1, 1) := by decide +kernel
theorem d5_21 : decode method_3_code 21 = .ok (.lconst 1, 1) := by decide +kernel
theorem d5_22 : decode method_3_code 22 = .ok (.lastore, 1) := by decide +kernel
theorem d5_23 : decode method_3_code 23 = .ok (.aload_n 0, 1) := by decide +kernel
theorem d5_24 : decode method_3_code 24 = .ok (.iconst 2, 1) := by decide +kernel
theorem d5_25 : decode method_3_code 25 = .ok (.lconst 1, 1) := by decide +kernel
theorem d5_26 : decode method_3_code 26 = .ok (.lastore, 1) := by decide +kernel
theorem d5_27 : decode method_3_code 27 = .ok (.goto 55, 3) := by decide +kernel
theorem d5_30 : decode method_3_code 30 = .ok (.iload_n 1, 1) := by decide +kernel
theorem d5_31 : decode method_3_code 31 = .ok (.bipush 10, 2) := by decide +kernel
theorem d5_33 : decode method_3_code 33 = .ok (.if_icmp .ne 37, 3) := by decide +kernel
theorem d5_36 : decode method_3_code 36 = .ok (.aload_n 0, 1) := by decide +kernel
theorem d5_37 : decode method_3_code 37 = .ok (.iconst 2, 1) := by decide +kernel
theorem d5_38 : decode method_3_code 38 = .ok (.laload, 1) := by decide +kernel
theorem d5_39 : decode method_3_code 39 = .ok (.lconst 1, 1) := by decide +kernel
theorem d5_40 : decode method_3_code 40 = .ok (.lcmp, 1) := by decide +kernel
theorem d5_41 : decode method_3_code 41 = .ok (.ifCond .ne 10, 3) := by decide +kernel
theorem d5_44 : decode method_3_code 44 = .ok (.aload_n 0, 1) := by decide +kernel
theorem d5_45 : decode method_3_code 45 = .ok (.iconst 2, 1) := by decide +kernel
theorem d5_46 : decode method_3_code 46 = .ok (.lconst 0, 1) := by decide +kernel
theorem d5_47 : decode method_3_code 47 = .ok (.lastore, 1) := by decide +kernel
theorem d5_48 : decode method_3_code 48 = .ok (.goto 34, 3) := by decide +kernel
theorem d5_51 : decode method_3_code 51 = .ok (.aload_n 0, 1) := by decide +kernel
theorem d5_52 : decode method_3_code 52 = .ok (.iconst 0, 1) := by decide +kernel
theorem d5_53 : decode method_3_code 53 = .ok (.aload_n 0, 1) := by decide +kernel
theorem d5_54 : decode method_3_code 54 = .ok (.iconst 0, 1) := by decide +kernel
theorem d5_55 : decode method_3_code 55 = .ok (.laload, 1) := by decide +kernel
theorem d5_56 : decode method_3_code 56 = .ok (.lconst 1, 1) := by decide +kernel
theorem d5_57 : decode method_3_code 57 = .ok (.ladd, 1) := by decide +kernel
theorem d5_58 : decode method_3_code 58 = .ok (.lastore, 1) := by decide +kernel
theorem d5_59 : decode method_3_code 59 = .ok (.aload_n 0, 1) := by decide +kernel
theorem d5_60 : decode method_3_code 60 = .ok (.iconst 1, 1) := by decide +kernel
theorem d5_61 : decode method_3_code 61 = .ok (.lconst 1, 1) := by decide +kernel
theorem d5_62 : decode method_3_code 62 = .ok (.lastore, 1) := by decide +kernel
theorem d5_63 : decode method_3_code 63 = .ok (.aload_n 0, 1) := by decide +kernel
theorem d5_64 : decode method_3_code 64 = .ok (.iconst 2, 1) := by decide +kernel
theorem d5_65 : decode method_3_code 65 = .ok (.lconst 0, 1) := by decide +kernel
theorem d5_66 : decode method_3_code 66 = .ok (.lastore, 1) := by decide +kernel
theorem d5_67 : decode method_3_code 67 = .ok (.goto 15, 3) := by decide +kernel
theorem d5_70 : decode method_3_code 70 = .ok (.aload_n 0, 1) := by decide +kernel
theorem d5_71 : decode method_3_code 71 = .ok (.iconst 1, 1) := by decide +kernel
theorem d5_72 : decode method_3_code 72 = .ok (.aload_n 0, 1) := by decide +kernel
theorem d5_73 : decode method_3_code 73 = .ok (.iconst 1, 1) := by decide +kernel
theorem d5_74 : decode method_3_code 74 = .ok (.laload, 1) := by decide +kernel
theorem d5_75 : decode method_3_code 75 = .ok (.lconst 1, 1) := by decide +kernel
theorem d5_76 : decode method_3_code 76 = .ok (.ladd, 1) := by decide +kernel
theorem d5_77 : decode method_3_code 77 = .ok (.lastore, 1) := by decide +kernel
theorem d5_78 : decode method_3_code 78 = .ok (.aload_n 0, 1) := by decide +kernel
theorem d5_79 : decode method_3_code 79 = .ok (.iconst 2, 1) := by decide +kernel
theorem d5_80 : decode method_3_code 80 = .ok (.lconst 0, 1) := by decide +kernel
theorem d5_81 : decode method_3_code 81 = .ok (.lastore, 1) := by decide +kernel
theorem d5_82 : decode method_3_code 82 = .ok (.return_, 1) := by decide +kernel
theorem pn_5 : plainFor (⟨"com/example/libhybrid/libhybrid/text/PlaceCounterPassPinLaw", "step", "([JCZ)V"⟩ : MethodName) = true := plainFor_of_name (by first | (simp [plainName, overriddenIn]; done) | decide +kernel)
theorem ef_5 (m : MethodId) (r0 : Addr) (p1 : Int32) (p2 : Int32) : entryFrame m #[(.ref r0), (.int p1), (.int p2)] 3 = mkF m 0 #[.val (.ref r0), .val (.int p1), .val (.int p2)] [] := by first | (simp [entryFrame, mkF, argsToLocals, Value.category]; done) | rfl
def Qq5 (Z : State) (r0 : Addr) (p1 : Int32) (p2 : Int32) (f : Nat → Int64) (h0 : Heap) : Heap → Prop := fun h' => ∃ g, ArJ Z h' r0 3 g ∧ ((p2 = 0 ∧ g = f) ∨ (p2 ≠ 0 ∧ Sp f p1 g))
abbrev Gg5 (p : Program) (l : Launch) (e : Env) (s : State) (m : MethodId) (below : List Frame) (meth : Method) (c : Code) (n0 : Nat) (h0 : Heap) (Z : State) (r0 : Addr) (p1 : Int32) (p2 : Int32) (f : Nat → Int64) (cc ss : Nat) (hh : Heap) (gg : JFrame) : Prop := G p l e ({ frames := 0, cells := 0, slots := 0, locals := 0 } : Room) s m #[(.ref r0), (.int p1), (.int p2)] below meth c n0 h0 [r0] (RV (Qq5 Z r0 p1 p2 f h0)) cc ss hh gg
set_option maxRecDepth 65536 in
set_option maxHeartbeats 40000000 in
theorem rm5 (l : Launch) (Z : State) (a0 : Array Value) (hw : ∀ d ∈ tables_1, d.before a0 Z = true) (r0 : Addr) (p1 : Int32) (p2 : Int32) (f : Nat → Int64) (h0 : Heap) (n0 : Nat) (hn : n0 ≤ h0.size) (A : ArJ Z h0 r0 3 f) (hr : n0 ≤ r0) :
    Mt l Z (⟨"com/example/libhybrid/libhybrid/text/PlaceCounterPassPinLaw", "step", "([JCZ)V"⟩ : MethodName) method_3_code 3 none [] ({ frames := 0, cells := 0, slots := 0, locals := 0 } : Room) n0 #[(.ref r0), (.int p1), (.int p2)] h0 [r0] (RV (Qq5 Z r0 p1 p2 f h0)) := by
  refine Mt.intro pn_5 hn (allS hr all0) ?_
  have hz : h0.size ≤ h0.size := Nat.le_refl _
  intro p e s m below meth c B
  refine G.entry (ef_5 m r0 p1 p2) ?_
  show Gg5 p l e s m below meth c n0 h0 Z r0 p1 p2 f 0 0 h0 (mkF m 0 #[.val (.ref r0), .val (.int p1), .val (.int p2)] [])
  refine G.iloadN B d5_0 (v := p2) rfl (pc' := 1) rfl ?_
  refine G.if_ne B d5_1 (by decide) (pcT := 5) (by decide) (pc' := 4) rfl (fun (hc1 : p2 ≠ 0) => ?_) (fun (hc1 : p2 = 0) => ?_)
  · refine G.iloadN B d5_5 (v := p1) rfl (pc' := 6) rfl ?_
    refine G.bipush B d5_6 (z := (13 : Int32)) rfl (pc' := 8) rfl ?_
    refine G.icmp_ne B d5_8 (by decide) (pcT := 30) (by decide) (pc' := 11) rfl (fun (hc8 : p1 ≠ (13 : Int32)) => ?_) (fun (hc8 : p1 = (13 : Int32)) => ?_)
    · refine G.iloadN B d5_30 (v := p1) rfl (pc' := 31) rfl ?_
      refine G.bipush B d5_31 (z := (10 : Int32)) rfl (pc' := 33) rfl ?_
      refine G.icmp_ne B d5_33 (by decide) (pcT := 70) (by decide) (pc' := 36) rfl (fun (hc33 : p1 ≠ (10 : Int32)) => ?_) (fun (hc33 : p1 = (10 : Int32)) => ?_)
      · refine G.aloadN B d5_70 (v := (.ref r0)) rfl rfl (pc' := 71) rfl ?_
        refine G.iconst B d5_71 (z := (1 : Int32)) rfl (pc' := 72) rfl ?_
        refine G.aloadN B d5_72 (v := (.ref r0)) rfl rfl (pc' := 73) rfl ?_
        refine G.iconst B d5_73 (z := (1 : Int32)) rfl (pc' := 74) rfl ?_
        refine G.ldJ B A (i := 1) (by decide) (by decide) (x := (f 1)) rfl d5_74 (pc' := 75) rfl ?_
        refine G.lconst B d5_75 (z := (1 : Int64)) rfl (pc' := 76) rfl ?_
        refine G.ladd B d5_76 (pc' := 77) rfl ?_
        refine G.stJ B A (i := 1) (by decide) (by decide) (Or.inl (List.mem_of_getElem? (i := 0) rfl)) d5_77 (pc' := 78) rfl (fun h1 K1 A1 => ?_)
        replace A := A1
        replace hn := Nat.le_trans hn K1.1
        replace hz := Nat.le_trans hz K1.1
        refine G.aloadN B d5_78 (v := (.ref r0)) rfl rfl (pc' := 79) rfl ?_
        refine G.iconst B d5_79 (z := (2 : Int32)) rfl (pc' := 80) rfl ?_
        refine G.lconst B d5_80 (z := (0 : Int64)) rfl (pc' := 81) rfl ?_
        refine G.stJ B A (i := 2) (by decide) (by decide) (Or.inl (List.mem_of_getElem? (i := 0) rfl)) d5_81 (pc' := 82) rfl (fun h2 K2 A2 => ?_)
        replace A := A2
        replace hn := Nat.le_trans hn K2.1
        replace hz := Nat.le_trans hz K2.1
        exact G.retV B d5_82 (by decide) (by decide) ⟨_, A, Or.inr ⟨hc1, Or.inr (Or.inr (Or.inr ⟨hc8, hc33, by simp [up], by simp [up], by simp [up]⟩))⟩⟩
      · refine G.aloadN B d5_36 (v := (.ref r0)) rfl rfl (pc' := 37) rfl ?_
        refine G.iconst B d5_37 (z := (2 : Int32)) rfl (pc' := 38) rfl ?_
        refine G.ldJ B A (i := 2) (by decide) (by decide) (x := (f 2)) rfl d5_38 (pc' := 39) rfl ?_
        refine G.lconst B d5_39 (z := (1 : Int64)) rfl (pc' := 40) rfl ?_
        refine G.lcmp_ne B d5_40 rfl d5_41 (by decide) (pcT := 51) (by decide) (pc' := 44) rfl (fun (hc40 : (f 2) ≠ (1 : Int64)) => ?_) (fun (hc40 : (f 2) = (1 : Int64)) => ?_)
        · refine G.aloadN B d5_51 (v := (.ref r0)) rfl rfl (pc' := 52) rfl ?_
          refine G.iconst B d5_52 (z := (0 : Int32)) rfl (pc' := 53) rfl ?_
          refine G.aloadN B d5_53 (v := (.ref r0)) rfl rfl (pc' := 54) rfl ?_
          refine G.iconst B d5_54 (z := (0 : Int32)) rfl (pc' := 55) rfl ?_
          refine G.ldJ B A (i := 0) (by decide) (by decide) (x := (f 0)) rfl d5_55 (pc' := 56) rfl ?_
          refine G.lconst B d5_56 (z := (1 : Int64)) rfl (pc' := 57) rfl ?_
          refine G.ladd B d5_57 (pc' := 58) rfl ?_
          refine G.stJ B A (i := 0) (by decide) (by decide) (Or.inl (List.mem_of_getElem? (i := 0) rfl)) d5_58 (pc' := 59) rfl (fun h3 K3 A3 => ?_)
          replace A := A3
          replace hn := Nat.le_trans hn K3.1
          replace hz := Nat.le_trans hz K3.1
          refine G.aloadN B d5_59 (v := (.ref r0)) rfl rfl (pc' := 60) rfl ?_
          refine G.iconst B d5_60 (z := (1 : Int32)) rfl (pc' := 61) rfl ?_
          refine G.lconst B d5_61 (z := (1 : Int64)) rfl (pc' := 62) rfl ?_
          refine G.stJ B A (i := 1) (by decide) (by decide) (Or.inl (List.mem_of_getElem? (i := 0) rfl)) d5_62 (pc' := 63) rfl (fun h4 K4 A4 => ?_)
          replace A := A4
          replace hn := Nat.le_trans hn K4.1
          replace hz := Nat.le_trans hz K4.1
          refine G.aloadN B d5_63 (v := (.ref r0)) rfl rfl (pc' := 64) rfl ?_
          refine G.iconst B d5_64 (z := (2 : Int32)) rfl (pc' := 65) rfl ?_
          refine G.lconst B d5_65 (z := (0 : Int64)) rfl (pc' := 66) rfl ?_
          refine G.stJ B A (i := 2) (by decide) (by decide) (Or.inl (List.mem_of_getElem? (i := 0) rfl)) d5_66 (pc' := 67) rfl (fun h5 K5 A5 => ?_)
          replace A := A5
          replace hn := Nat.le_trans hn K5.1
          replace hz := Nat.le_trans hz K5.1
          refine G.goto B d5_67 (by decide) (pc' := 82) (by decide) ?_
          exact G.retV B d5_82 (by decide) (by decide) ⟨_, A, Or.inr ⟨hc1, Or.inr (Or.inr (Or.inl ⟨hc8, hc33, hc40, by simp [up], by simp [up], by simp [up]⟩))⟩⟩
        · refine G.aloadN B d5_44 (v := (.ref r0)) rfl rfl (pc' := 45) rfl ?_
          refine G.iconst B d5_45 (z := (2 : Int32)) rfl (pc' := 46) rfl ?_
          refine G.lconst B d5_46 (z := (0 : Int64)) rfl (pc' := 47) rfl ?_
          refine G.stJ B A (i := 2) (by decide) (by decide) (Or.inl (List.mem_of_getElem? (i := 0) rfl)) d5_47 (pc' := 48) rfl (fun h6 K6 A6 => ?_)
          replace A := A6
          replace hn := Nat.le_trans hn K6.1
          replace hz := Nat.le_trans hz K6.1
          refine G.goto B d5_48 (by decide) (pc' := 82) (by decide) ?_
          exact G.retV B d5_82 (by decide) (by decide) ⟨_, A, Or.inr ⟨hc1, Or.inr (Or.inl ⟨hc8, hc33, hc40, by simp [up], by simp [up], by simp [up]⟩)⟩⟩
    · refine G.aloadN B d5_11 (v := (.ref r0)) rfl rfl (pc' := 12) rfl ?_
      refine G.iconst B d5_12 (z := (0 : Int32)) rfl (pc' := 13) rfl ?_
      refine G.aloadN B d5_13 (v := (.ref r0)) rfl rfl (pc' := 14) rfl ?_
      refine G.iconst B d5_14 (z := (0 : Int32)) rfl (pc' := 15) rfl ?_
      refine G.ldJ B A (i := 0) (by decide) (by decide) (x := (f 0)) rfl d5_15 (pc' := 16) rfl ?_
      refine G.lconst B d5_16 (z := (1 : Int64)) rfl (pc' := 17) rfl ?_
      refine G.ladd B d5_17 (pc' := 18) rfl ?_
      refine G.stJ B A (i := 0) (by decide) (by decide) (Or.inl (List.mem_of_getElem? (i := 0) rfl)) d5_18 (pc' := 19) rfl (fun h7 K7 A7 => ?_)
      replace A := A7
      replace hn := Nat.le_trans hn K7.1
      replace hz := Nat.le_trans hz K7.1
      refine G.aloadN B d5_19 (v := (.ref r0)) rfl rfl (pc' := 20) rfl ?_
      refine G.iconst B d5_20 (z := (1 : Int32)) rfl (pc' := 21) rfl ?_
      refine G.lconst B d5_21 (z := (1 : Int64)) rfl (pc' := 22) rfl ?_
      refine G.stJ B A (i := 1) (by decide) (by decide) (Or.inl (List.mem_of_getElem? (i := 0) rfl)) d5_22 (pc' := 23) rfl (fun h8 K8 A8 => ?_)
      replace A := A8
      replace hn := Nat.le_trans hn K8.1
      replace hz := Nat.le_trans hz K8.1
      refine G.aloadN B d5_23 (v := (.ref r0)) rfl rfl (pc' := 24) rfl ?_
      refine G.iconst B d5_24 (z := (2 : Int32)) rfl (pc' := 25) rfl ?_
      refine G.lconst B d5_25 (z := (1 : Int64)) rfl (pc' := 26) rfl ?_
      refine G.stJ B A (i := 2) (by decide) (by decide) (Or.inl (List.mem_of_getElem? (i := 0) rfl)) d5_26 (pc' := 27) rfl (fun h9 K9 A9 => ?_)
      replace A := A9
      replace hn := Nat.le_trans hn K9.1
      replace hz := Nat.le_trans hz K9.1
      refine G.goto B d5_27 (by decide) (pc' := 82) (by decide) ?_
      exact G.retV B d5_82 (by decide) (by decide) ⟨_, A, Or.inr ⟨hc1, Or.inl ⟨hc8, by simp [up], by simp [up], by simp [up]⟩⟩⟩
  · exact G.retV B d5_4 (by decide) (by decide) ⟨_, A, Or.inl ⟨hc1, rfl⟩⟩
theorem own_st {F : Nat → Int32} {f g : Nat → Int64} {s i : Nat} {on : Int32} {c : Int32} {s0 : Int64 × Int64 × Bool} (h : Rr f (rn F s (i - s) s0)) (hc : c = F i) (q : (on = 0 ∧ g = f) ∨ (on ≠ 0 ∧ Sp f c g)) (ho : on ≠ 0 ↔ s ≤ i) : Rr g (rn F s (i + 1 - s) s0) := by
  rcases q with ⟨a, rfl⟩ | ⟨a, q⟩
  · have : ¬ s ≤ i := fun r => ho.mpr r a
    rw [show i + 1 - s = i - s by omega]; exact h
  · rw [own_suc (ho.mp a), ← hc]; exact own_sp h q
theorem own_s (x : Int32) : ∃ n : Nat, ((x &&& (15 : Int32)) % (3 : Int32)).toInt = (n : Int) ∧ n ≤ 2 := by
  have h := c_mask x 15 4 (by decide) (by decide)
  have h1 := (c_irem (x &&& (15 : Int32)) 3 3 (by decide)).1 (by omega)
  exact ⟨((x &&& (15 : Int32)) % (3 : Int32)).toInt.toNat, by omega, by omega⟩
theorem own_7 {y : Int32} {s : Nat} (hy : y.toInt = (s : Int)) (hs : s ≤ 6) : ((7 : Int32) - y).toInt = 7 - (s : Int) := by
  have h2 := c_isub 7 y
  have h3 := rng32 ((7 : Int32) - y)
  have h4 : (7 : Int32).toInt = 7 := by decide
  omega
theorem own_nz {y : Int32} {s : Nat} (hy : y.toInt = (s : Int)) (hs : s ≤ 6) : ((7 : Int32) - y) ≠ 0 := fun q => by
  have h := own_7 hy hs
  rw [q, show (0 : Int32).toInt = 0 from rfl] at h
  omega
theorem own_p (x : Int32) {y : Int32} {s : Nat} (hy : y.toInt = (s : Int)) (hs : s ≤ 6) : ∃ p : Nat, (y + (x &&& (255 : Int32)) % ((7 : Int32) - y)).toInt = (p : Int) ∧ s ≤ p ∧ p ≤ 6 := by
  have h := c_mask x 255 8 (by decide) (by decide)
  have h7 := own_7 hy hs
  have h1 := (c_irem (x &&& (255 : Int32)) ((7 : Int32) - y) _ rfl).1 (by omega)
  have h2 := Int.emod_nonneg (x &&& (255 : Int32)).toInt (show ((7 : Int32) - y).toInt ≠ 0 by omega)
  have h3 := Int.emod_lt_of_pos (x &&& (255 : Int32)).toInt (show 0 < ((7 : Int32) - y).toInt by omega)
  have h4 := c_iadd y ((x &&& (255 : Int32)) % ((7 : Int32) - y))
  have h5 := rng32 (y + (x &&& (255 : Int32)) % ((7 : Int32) - y))
  exact ⟨(y + (x &&& (255 : Int32)) % ((7 : Int32) - y)).toInt.toNat, by omega, by omega, by omega⟩
theorem pn_0 : plainFor x = true := plainFor_of_name (by first | (simp [plainName, overriddenIn]; done) | decide +kernel)
theorem ef_0 (m : MethodId) (p0 : Int32) (q1 : Int64) (q2 : Int64) (p3 : Int32) : entryFrame m #[(.int p0), (.long q1), (.long q2), (.int p3)] maxLocals = mkF m 0 #[.val (.int p0), .val (.long q1), .second, .val (.long q2), .second, .val (.int p3), .unset, .unset, .unset, .unset, .unset, .unset, .unset, .unset, .unset, .unset, .unset] [] := by first | (simp [entryFrame, mkF, argsToLocals, Value.category, maxLocals]; done) | rfl
theorem pd_2 : parseMethodDescriptor "(IJ)C" = some ⟨[.int, .long], some .char⟩ := by decide +kernel
theorem pd_3 : parseMethodDescriptor "([CII)V" = some ⟨[(.array .char), .int, .int], none⟩ := by decide +kernel
theorem pd_4 : parseMethodDescriptor "([JCZ)V" = some ⟨[(.array .long), .char, .boolean], none⟩ := by decide +kernel
theorem pd_5 : parseMethodDescriptor "()Lcom/example/libhybrid/libhybrid/text/Place;" = some ⟨[], some (.object "com/example/libhybrid/libhybrid/text/Place")⟩ := by decide +kernel
theorem pd_6 : parseMethodDescriptor "()J" = some ⟨[], some .long⟩ := by decide +kernel
def Qq0 (Z : State) (p0 : Int32) (q1 : Int64) (q2 : Int64) (p3 : Int32)  (h0 : Heap) : Int32 → Heap → Prop := fun z _ => z = 1
abbrev Gg0 (p : Program) (l : Launch) (e : Env) (s : State) (m : MethodId) (below : List Frame) (meth : Method) (c : Code) (n0 : Nat) (h0 : Heap) (Z : State) (p0 : Int32) (q1 : Int64) (q2 : Int64) (p3 : Int32)  (cc ss : Nat) (hh : Heap) (gg : JFrame) : Prop := G p l e room_1 s m #[(.int p0), (.long q1), (.long q2), (.int p3)] below meth c n0 h0 [] (RI (Qq0 Z p0 q1 q2 p3  h0)) cc ss hh gg
set_option maxRecDepth 65536 in
set_option maxHeartbeats 40000000 in
theorem rm0 (l : Launch) (Z : State) (a0 : Array Value) (hw : ∀ d ∈ tables_1, d.before a0 Z = true) (p0 : Int32) (q1 : Int64) (q2 : Int64) (p3 : Int32)  (h0 : Heap) (n0 : Nat) (hn : n0 ≤ h0.size)  :
    Mt l Z x code maxLocals ret tables_1 room_1 n0 #[(.int p0), (.long q1), (.long q2), (.int p3)] h0 [] (RI (Qq0 Z p0 q1 q2 p3  h0)) := by
  refine Mt.intro pn_0 hn (fun x hx => nomatch hx) ?_
  have hz : h0.size ≤ h0.size := Nat.le_refl _
  intro p e s m below meth c B
  refine G.entry (ef_0 m p0 q1 q2 p3) ?_
  show Gg0 p l e s m below meth c n0 h0 Z p0 q1 q2 p3  0 0 h0 (mkF m 0 #[.val (.int p0), .val (.long q1), .second, .val (.long q2), .second, .val (.int p3), .unset, .unset, .unset, .unset, .unset, .unset, .unset, .unset, .unset, .unset, .unset] [])
  refine G.bipush B at_0 (z := (6 : Int32)) rfl (pc' := 2) rfl ?_
  refine G.newC B (hw _ (List.mem_of_getElem? (i := 0) rfl)) (n := 6) (by decide) (cap := 6) (by decide) (by decide) at_2 (pc' := 4) rfl (by decide) (by decide) (fun h1 tt hs_tt hf_tt K1 A_tt => ?_)
  replace hn := Nat.le_trans hn K1.1
  replace hz := Nat.le_trans hz K1.1
  show Gg0 p l e s m below meth c n0 h0 Z p0 q1 q2 p3  1 6 h1 (mkF m 4 #[.val (.int p0), .val (.long q1), .second, .val (.long q2), .second, .val (.int p3), .unset, .unset, .unset, .unset, .unset, .unset, .unset, .unset, .unset, .unset, .unset] [(.ref tt)])
  refine G.astore B at_4 rfl (ls' := #[.val (.int p0), .val (.long q1), .second, .val (.long q2), .second, .val (.int p3), .val (.ref tt), .unset, .unset, .unset, .unset, .unset, .unset, .unset, .unset, .unset, .unset]) rfl (pc' := 6) rfl ?_
  refine G.aload B at_6 (v := (.ref tt)) rfl rfl (pc' := 8) rfl ?_
  refine G.iconst B at_8 (z := (0 : Int32)) rfl (pc' := 9) rfl ?_
  refine G.iloadN B at_9 (v := p0) rfl (pc' := 10) rfl ?_
  refine G.lloadN B at_10 (v := q1) rfl (pc' := 11) rfl ?_
  refine G.callS (y := (⟨"com/example/libhybrid/libhybrid/text/PlaceCounterPassPinLaw", "mk", "(IJ)C"⟩ : MethodName)) B (hw _ (List.mem_of_getElem? (i := 1) rfl)) (hw _ (List.mem_of_getElem? (i := 2) rfl)) (rm := ({ frames := 0, cells := 0, slots := 0, locals := 0 } : Room)) (ws' := []) (rm1 l Z a0 hw p0 q1 _ n0 hn) (fun x hx => nomatch hx) (hw _ (List.mem_of_getElem? (i := 4) rfl)) (hw _ (List.mem_of_getElem? (i := 3) rfl)) (by decide) rfl (argsL := [(.int p0), (.long q1)]) (rest := [(.int (0 : Int32)), (.ref tt)]) rfl (lenOf pd_2 rfl) (by decide) (W := 2) (Nat.le_of_eq rfl) (by decide) (by decide) (by decide) at_11 (pc' := 14) rfl ?_
  rintro _ _ K2 ⟨k0, rfl, rfl⟩
  show Gg0 p l e s m below meth c n0 h0 Z p0 q1 q2 p3  1 6 h1 (mkF m 14 #[.val (.int p0), .val (.long q1), .second, .val (.long q2), .second, .val (.int p3), .val (.ref tt), .unset, .unset, .unset, .unset, .unset, .unset, .unset, .unset, .unset, .unset] [(.int k0), (.int (0 : Int32)), (.ref tt)])
  refine G.stC B A_tt (i := 0) (by decide) (by decide) (Or.inr hf_tt) (z := (nar .char k0)) rfl at_14 (pc' := 15) rfl (fun h3 K3 A3 => ?_)
  replace A_tt := A3
  replace hn := Nat.le_trans hn K3.1
  replace hz := Nat.le_trans hz K3.1
  refine G.aload B at_15 (v := (.ref tt)) rfl rfl (pc' := 17) rfl ?_
  refine G.iconst B at_17 (z := (1 : Int32)) rfl (pc' := 18) rfl ?_
  refine G.iloadN B at_18 (v := p0) rfl (pc' := 19) rfl ?_
  refine G.iconst B at_19 (z := (2 : Int32)) rfl (pc' := 20) rfl ?_
  refine G.iushr B at_20 (pc' := 21) rfl ?_
  refine G.lloadN B at_21 (v := q1) rfl (pc' := 22) rfl ?_
  refine G.bipush B at_22 (z := (16 : Int32)) rfl (pc' := 24) rfl ?_
  refine G.lushr B at_24 (pc' := 25) rfl ?_
  refine G.callS (y := (⟨"com/example/libhybrid/libhybrid/text/PlaceCounterPassPinLaw", "mk", "(IJ)C"⟩ : MethodName)) B (hw _ (List.mem_of_getElem? (i := 1) rfl)) (hw _ (List.mem_of_getElem? (i := 2) rfl)) (rm := ({ frames := 0, cells := 0, slots := 0, locals := 0 } : Room)) (ws' := []) (rm1 l Z a0 hw ((p0.toUInt32 >>> ((2 : Int32) &&& 31).toUInt32).toInt32) ((q1.toUInt64 >>> ((16 : Int32) &&& 0x3f).toInt64.toUInt64).toInt64) _ n0 hn) (fun x hx => nomatch hx) (hw _ (List.mem_of_getElem? (i := 4) rfl)) (hw _ (List.mem_of_getElem? (i := 3) rfl)) (by decide) rfl (argsL := [(.int ((p0.toUInt32 >>> ((2 : Int32) &&& 31).toUInt32).toInt32)), (.long ((q1.toUInt64 >>> ((16 : Int32) &&& 0x3f).toInt64.toUInt64).toInt64))]) (rest := [(.int (1 : Int32)), (.ref tt)]) rfl (lenOf pd_2 rfl) (by decide) (W := 2) (Nat.le_of_eq rfl) (by decide) (by decide) (by decide) at_25 (pc' := 28) rfl ?_
  rintro _ _ K4 ⟨k1, rfl, rfl⟩
  show Gg0 p l e s m below meth c n0 h0 Z p0 q1 q2 p3  1 6 h3 (mkF m 28 #[.val (.int p0), .val (.long q1), .second, .val (.long q2), .second, .val (.int p3), .val (.ref tt), .unset, .unset, .unset, .unset, .unset, .unset, .unset, .unset, .unset, .unset] [(.int k1), (.int (1 : Int32)), (.ref tt)])
  refine G.stC B A_tt (i := 1) (by decide) (by decide) (Or.inr hf_tt) (z := (nar .char k1)) rfl at_28 (pc' := 29) rfl (fun h5 K5 A5 => ?_)
  replace A_tt := A5
  replace hn := Nat.le_trans hn K5.1
  replace hz := Nat.le_trans hz K5.1
  refine G.aload B at_29 (v := (.ref tt)) rfl rfl (pc' := 31) rfl ?_
  refine G.iconst B at_31 (z := (2 : Int32)) rfl (pc' := 32) rfl ?_
  refine G.iloadN B at_32 (v := p0) rfl (pc' := 33) rfl ?_
  refine G.iconst B at_33 (z := (4 : Int32)) rfl (pc' := 34) rfl ?_
  refine G.iushr B at_34 (pc' := 35) rfl ?_
  refine G.lloadN B at_35 (v := q1) rfl (pc' := 36) rfl ?_
  refine G.bipush B at_36 (z := (32 : Int32)) rfl (pc' := 38) rfl ?_
  refine G.lushr B at_38 (pc' := 39) rfl ?_
  refine G.callS (y := (⟨"com/example/libhybrid/libhybrid/text/PlaceCounterPassPinLaw", "mk", "(IJ)C"⟩ : MethodName)) B (hw _ (List.mem_of_getElem? (i := 1) rfl)) (hw _ (List.mem_of_getElem? (i := 2) rfl)) (rm := ({ frames := 0, cells := 0, slots := 0, locals := 0 } : Room)) (ws' := []) (rm1 l Z a0 hw ((p0.toUInt32 >>> ((4 : Int32) &&& 31).toUInt32).toInt32) ((q1.toUInt64 >>> ((32 : Int32) &&& 0x3f).toInt64.toUInt64).toInt64) _ n0 hn) (fun x hx => nomatch hx) (hw _ (List.mem_of_getElem? (i := 4) rfl)) (hw _ (List.mem_of_getElem? (i := 3) rfl)) (by decide) rfl (argsL := [(.int ((p0.toUInt32 >>> ((4 : Int32) &&& 31).toUInt32).toInt32)), (.long ((q1.toUInt64 >>> ((32 : Int32) &&& 0x3f).toInt64.toUInt64).toInt64))]) (rest := [(.int (2 : Int32)), (.ref tt)]) rfl (lenOf pd_2 rfl) (by decide) (W := 2) (Nat.le_of_eq rfl) (by decide) (by decide) (by decide) at_39 (pc' := 42) rfl ?_
  rintro _ _ K6 ⟨k2, rfl, rfl⟩
  show Gg0 p l e s m below meth c n0 h0 Z p0 q1 q2 p3  1 6 h5 (mkF m 42 #[.val (.int p0), .val (.long q1), .second, .val (.long q2), .second, .val (.int p3), .val (.ref tt), .unset, .unset, .unset, .unset, .unset, .unset, .unset, .unset, .unset, .unset] [(.int k2), (.int (2 : Int32)), (.ref tt)])
  refine G.stC B A_tt (i := 2) (by decide) (by decide) (Or.inr hf_tt) (z := (nar .char k2)) rfl at_42 (pc' := 43) rfl (fun h7 K7 A7 => ?_)
  replace A_tt := A7
  replace hn := Nat.le_trans hn K7.1
  replace hz := Nat.le_trans hz K7.1
  refine G.aload B at_43 (v := (.ref tt)) rfl rfl (pc' := 45) rfl ?_
  refine G.iconst B at_45 (z := (3 : Int32)) rfl (pc' := 46) rfl ?_
  refine G.iloadN B at_46 (v := p0) rfl (pc' := 47) rfl ?_
  refine G.bipush B at_47 (z := (6 : Int32)) rfl (pc' := 49) rfl ?_
  refine G.iushr B at_49 (pc' := 50) rfl ?_
  refine G.lloadN B at_50 (v := q1) rfl (pc' := 51) rfl ?_
  refine G.bipush B at_51 (z := (48 : Int32)) rfl (pc' := 53) rfl ?_
  refine G.lushr B at_53 (pc' := 54) rfl ?_
  refine G.callS (y := (⟨"com/example/libhybrid/libhybrid/text/PlaceCounterPassPinLaw", "mk", "(IJ)C"⟩ : MethodName)) B (hw _ (List.mem_of_getElem? (i := 1) rfl)) (hw _ (List.mem_of_getElem? (i := 2) rfl)) (rm := ({ frames := 0, cells := 0, slots := 0, locals := 0 } : Room)) (ws' := []) (rm1 l Z a0 hw ((p0.toUInt32 >>> ((6 : Int32) &&& 31).toUInt32).toInt32) ((q1.toUInt64 >>> ((48 : Int32) &&& 0x3f).toInt64.toUInt64).toInt64) _ n0 hn) (fun x hx => nomatch hx) (hw _ (List.mem_of_getElem? (i := 4) rfl)) (hw _ (List.mem_of_getElem? (i := 3) rfl)) (by decide) rfl (argsL := [(.int ((p0.toUInt32 >>> ((6 : Int32) &&& 31).toUInt32).toInt32)), (.long ((q1.toUInt64 >>> ((48 : Int32) &&& 0x3f).toInt64.toUInt64).toInt64))]) (rest := [(.int (3 : Int32)), (.ref tt)]) rfl (lenOf pd_2 rfl) (by decide) (W := 2) (Nat.le_of_eq rfl) (by decide) (by decide) (by decide) at_54 (pc' := 57) rfl ?_
  rintro _ _ K8 ⟨k3, rfl, rfl⟩
  show Gg0 p l e s m below meth c n0 h0 Z p0 q1 q2 p3  1 6 h7 (mkF m 57 #[.val (.int p0), .val (.long q1), .second, .val (.long q2), .second, .val (.int p3), .val (.ref tt), .unset, .unset, .unset, .unset, .unset, .unset, .unset, .unset, .unset, .unset] [(.int k3), (.int (3 : Int32)), (.ref tt)])
  refine G.stC B A_tt (i := 3) (by decide) (by decide) (Or.inr hf_tt) (z := (nar .char k3)) rfl at_57 (pc' := 58) rfl (fun h9 K9 A9 => ?_)
  replace A_tt := A9
  replace hn := Nat.le_trans hn K9.1
  replace hz := Nat.le_trans hz K9.1
  refine G.aload B at_58 (v := (.ref tt)) rfl rfl (pc' := 60) rfl ?_
  refine G.iconst B at_60 (z := (4 : Int32)) rfl (pc' := 61) rfl ?_
  refine G.iloadN B at_61 (v := p0) rfl (pc' := 62) rfl ?_
  refine G.bipush B at_62 (z := (8 : Int32)) rfl (pc' := 64) rfl ?_
  refine G.iushr B at_64 (pc' := 65) rfl ?_
  refine G.lloadN B at_65 (v := q2) rfl (pc' := 66) rfl ?_
  refine G.callS (y := (⟨"com/example/libhybrid/libhybrid/text/PlaceCounterPassPinLaw", "mk", "(IJ)C"⟩ : MethodName)) B (hw _ (List.mem_of_getElem? (i := 1) rfl)) (hw _ (List.mem_of_getElem? (i := 2) rfl)) (rm := ({ frames := 0, cells := 0, slots := 0, locals := 0 } : Room)) (ws' := []) (rm1 l Z a0 hw ((p0.toUInt32 >>> ((8 : Int32) &&& 31).toUInt32).toInt32) q2 _ n0 hn) (fun x hx => nomatch hx) (hw _ (List.mem_of_getElem? (i := 4) rfl)) (hw _ (List.mem_of_getElem? (i := 3) rfl)) (by decide) rfl (argsL := [(.int ((p0.toUInt32 >>> ((8 : Int32) &&& 31).toUInt32).toInt32)), (.long q2)]) (rest := [(.int (4 : Int32)), (.ref tt)]) rfl (lenOf pd_2 rfl) (by decide) (W := 2) (Nat.le_of_eq rfl) (by decide) (by decide) (by decide) at_66 (pc' := 69) rfl ?_
  rintro _ _ K10 ⟨k4, rfl, rfl⟩
  show Gg0 p l e s m below meth c n0 h0 Z p0 q1 q2 p3  1 6 h9 (mkF m 69 #[.val (.int p0), .val (.long q1), .second, .val (.long q2), .second, .val (.int p3), .val (.ref tt), .unset, .unset, .unset, .unset, .unset, .unset, .unset, .unset, .unset, .unset] [(.int k4), (.int (4 : Int32)), (.ref tt)])
  refine G.stC B A_tt (i := 4) (by decide) (by decide) (Or.inr hf_tt) (z := (nar .char k4)) rfl at_69 (pc' := 70) rfl (fun h11 K11 A11 => ?_)
  replace A_tt := A11
  replace hn := Nat.le_trans hn K11.1
  replace hz := Nat.le_trans hz K11.1
  refine G.aload B at_70 (v := (.ref tt)) rfl rfl (pc' := 72) rfl ?_
  refine G.iconst B at_72 (z := (5 : Int32)) rfl (pc' := 73) rfl ?_
  refine G.iloadN B at_73 (v := p0) rfl (pc' := 74) rfl ?_
  refine G.bipush B at_74 (z := (10 : Int32)) rfl (pc' := 76) rfl ?_
  refine G.iushr B at_76 (pc' := 77) rfl ?_
  refine G.lloadN B at_77 (v := q2) rfl (pc' := 78) rfl ?_
  refine G.bipush B at_78 (z := (16 : Int32)) rfl (pc' := 80) rfl ?_
  refine G.lushr B at_80 (pc' := 81) rfl ?_
  refine G.callS (y := (⟨"com/example/libhybrid/libhybrid/text/PlaceCounterPassPinLaw", "mk", "(IJ)C"⟩ : MethodName)) B (hw _ (List.mem_of_getElem? (i := 1) rfl)) (hw _ (List.mem_of_getElem? (i := 2) rfl)) (rm := ({ frames := 0, cells := 0, slots := 0, locals := 0 } : Room)) (ws' := []) (rm1 l Z a0 hw ((p0.toUInt32 >>> ((10 : Int32) &&& 31).toUInt32).toInt32) ((q2.toUInt64 >>> ((16 : Int32) &&& 0x3f).toInt64.toUInt64).toInt64) _ n0 hn) (fun x hx => nomatch hx) (hw _ (List.mem_of_getElem? (i := 4) rfl)) (hw _ (List.mem_of_getElem? (i := 3) rfl)) (by decide) rfl (argsL := [(.int ((p0.toUInt32 >>> ((10 : Int32) &&& 31).toUInt32).toInt32)), (.long ((q2.toUInt64 >>> ((16 : Int32) &&& 0x3f).toInt64.toUInt64).toInt64))]) (rest := [(.int (5 : Int32)), (.ref tt)]) rfl (lenOf pd_2 rfl) (by decide) (W := 2) (Nat.le_of_eq rfl) (by decide) (by decide) (by decide) at_81 (pc' := 84) rfl ?_
  rintro _ _ K12 ⟨k5, rfl, rfl⟩
  show Gg0 p l e s m below meth c n0 h0 Z p0 q1 q2 p3  1 6 h11 (mkF m 84 #[.val (.int p0), .val (.long q1), .second, .val (.long q2), .second, .val (.int p3), .val (.ref tt), .unset, .unset, .unset, .unset, .unset, .unset, .unset, .unset, .unset, .unset] [(.int k5), (.int (5 : Int32)), (.ref tt)])
  refine G.stC B A_tt (i := 5) (by decide) (by decide) (Or.inr hf_tt) (z := (nar .char k5)) rfl at_84 (pc' := 85) rfl (fun h13 K13 A13 => ?_)
  replace A_tt := A13
  replace hn := Nat.le_trans hn K13.1
  replace hz := Nat.le_trans hz K13.1
  obtain ⟨F, eF⟩ : ∃ F, F = (up (up (up (up (up (up (fun _ => 0) 0 (nar .char k0)) 1 (nar .char k1)) 2 (nar .char k2)) 3 (nar .char k3)) 4 (nar .char k4)) 5 (nar .char k5)) := ⟨_, rfl⟩
  rw [← eF] at A_tt
  clear eF
  refine G.iconst B at_85 (z := (1 : Int32)) rfl (pc' := 86) rfl ?_
  refine G.newC B (hw _ (List.mem_of_getElem? (i := 0) rfl)) (n := 1) (by decide) (cap := 1) (by decide) (by decide) at_86 (pc' := 88) rfl (by decide) (by decide) (fun h14 lf hs_lf hf_lf K14 A_lf => ?_)
  have ne_tt_lf : tt ≠ lf := Nat.ne_of_lt (hs_lf ▸ A_tt.lt)
  replace hn := Nat.le_trans hn K14.1
  replace hz := Nat.le_trans hz K14.1
  replace A_tt := A_tt.keep K14 nin0
  show Gg0 p l e s m below meth c n0 h0 Z p0 q1 q2 p3  2 7 h14 (mkF m 88 #[.val (.int p0), .val (.long q1), .second, .val (.long q2), .second, .val (.int p3), .val (.ref tt), .unset, .unset, .unset, .unset, .unset, .unset, .unset, .unset, .unset, .unset] [(.ref lf)])
  refine G.astore B at_88 rfl (ls' := #[.val (.int p0), .val (.long q1), .second, .val (.long q2), .second, .val (.int p3), .val (.ref tt), .val (.ref lf), .unset, .unset, .unset, .unset, .unset, .unset, .unset, .unset, .unset]) rfl (pc' := 90) rfl ?_
  refine G.aload B at_90 (v := (.ref lf)) rfl rfl (pc' := 92) rfl ?_
  refine G.iconst B at_92 (z := (0 : Int32)) rfl (pc' := 93) rfl ?_
  refine G.bipush B at_93 (z := (10 : Int32)) rfl (pc' := 95) rfl ?_
  refine G.stC B A_lf (i := 0) (by decide) (by decide) (Or.inr hf_lf) (z := (10 : Int32)) rfl at_95 (pc' := 96) rfl (fun h15 K15 A15 => ?_)
  replace A_lf := A15
  replace hn := Nat.le_trans hn K15.1
  replace hz := Nat.le_trans hz K15.1
  replace A_tt := A_tt.keep K15 (ninS ne_tt_lf nin0)
  refine G.iload B at_96 (v := p3) rfl (pc' := 98) rfl ?_
  refine G.bipush B at_98 (z := (15 : Int32)) rfl (pc' := 100) rfl ?_
  refine G.iand B at_100 (pc' := 101) rfl ?_
  refine G.iconst B at_101 (z := (3 : Int32)) rfl (pc' := 102) rfl ?_
  refine G.irem B at_102 (by decide) (pc' := 103) rfl ?_
  refine G.istore B at_103 (ls' := #[.val (.int p0), .val (.long q1), .second, .val (.long q2), .second, .val (.int p3), .val (.ref tt), .val (.ref lf), .val (.int ((p3 &&& (15 : Int32)) % (3 : Int32))), .unset, .unset, .unset, .unset, .unset, .unset, .unset, .unset]) rfl (pc' := 105) rfl ?_
  obtain ⟨ss, e_ss⟩ : ∃ z, z = ((p3 &&& (15 : Int32)) % (3 : Int32)) := ⟨_, rfl⟩
  rw [← e_ss]
  show Gg0 p l e s m below meth c n0 h0 Z p0 q1 q2 p3  2 7 h15 (mkF m 105 #[.val (.int p0), .val (.long q1), .second, .val (.long q2), .second, .val (.int p3), .val (.ref tt), .val (.ref lf), .val (.int ss), .unset, .unset, .unset, .unset, .unset, .unset, .unset, .unset] [])
  obtain ⟨s', hs', hs2⟩ : ∃ n : Nat, ss.toInt = (n : Int) ∧ n ≤ 2 := e_ss ▸ own_s p3
  have nz1 := own_nz hs' (by omega)
  refine G.iload B at_105 (v := ss) rfl (pc' := 107) rfl ?_
  refine G.iload B at_107 (v := p3) rfl (pc' := 109) rfl ?_
  refine G.iconst B at_109 (z := (4 : Int32)) rfl (pc' := 110) rfl ?_
  refine G.iushr B at_110 (pc' := 111) rfl ?_
  refine G.sipush B at_111 (z := (255 : Int32)) rfl (pc' := 114) rfl ?_
  refine G.iand B at_114 (pc' := 115) rfl ?_
  refine G.bipush B at_115 (z := (7 : Int32)) rfl (pc' := 117) rfl ?_
  refine G.iload B at_117 (v := ss) rfl (pc' := 119) rfl ?_
  refine G.isub B at_119 (pc' := 120) rfl ?_
  refine G.irem B at_120 nz1 (pc' := 121) rfl ?_
  refine G.iadd B at_121 (pc' := 122) rfl ?_
  refine G.istore B at_122 (ls' := #[.val (.int p0), .val (.long q1), .second, .val (.long q2), .second, .val (.int p3), .val (.ref tt), .val (.ref lf), .val (.int ss), .val (.int (ss + ((((p3.toUInt32 >>> ((4 : Int32) &&& 31).toUInt32).toInt32) &&& (255 : Int32)) % ((7 : Int32) - ss)))), .unset, .unset, .unset, .unset, .unset, .unset, .unset]) rfl (pc' := 124) rfl ?_
  obtain ⟨pp, e_pp⟩ : ∃ z, z = (ss + ((((p3.toUInt32 >>> ((4 : Int32) &&& 31).toUInt32).toInt32) &&& (255 : Int32)) % ((7 : Int32) - ss))) := ⟨_, rfl⟩
  rw [← e_pp]
  show Gg0 p l e s m below meth c n0 h0 Z p0 q1 q2 p3  2 7 h15 (mkF m 124 #[.val (.int p0), .val (.long q1), .second, .val (.long q2), .second, .val (.int p3), .val (.ref tt), .val (.ref lf), .val (.int ss), .val (.int pp), .unset, .unset, .unset, .unset, .unset, .unset, .unset] [])
  obtain ⟨p', hp', hsp, hp6⟩ : ∃ p : Nat, pp.toInt = (p : Int) ∧ s' ≤ p ∧ p ≤ 6 := e_pp ▸ own_p _ hs' (by omega)
  have nz2 := own_nz hp' hp6
  refine G.iload B at_124 (v := pp) rfl (pc' := 126) rfl ?_
  refine G.iload B at_126 (v := p3) rfl (pc' := 128) rfl ?_
  refine G.bipush B at_128 (z := (12 : Int32)) rfl (pc' := 130) rfl ?_
  refine G.iushr B at_130 (pc' := 131) rfl ?_
  refine G.sipush B at_131 (z := (255 : Int32)) rfl (pc' := 134) rfl ?_
  refine G.iand B at_134 (pc' := 135) rfl ?_
  refine G.bipush B at_135 (z := (7 : Int32)) rfl (pc' := 137) rfl ?_
  refine G.iload B at_137 (v := pp) rfl (pc' := 139) rfl ?_
  refine G.isub B at_139 (pc' := 140) rfl ?_
  refine G.irem B at_140 nz2 (pc' := 141) rfl ?_
  refine G.iadd B at_141 (pc' := 142) rfl ?_
  refine G.istore B at_142 (ls' := #[.val (.int p0), .val (.long q1), .second, .val (.long q2), .second, .val (.int p3), .val (.ref tt), .val (.ref lf), .val (.int ss), .val (.int pp), .val (.int (pp + ((((p3.toUInt32 >>> ((12 : Int32) &&& 31).toUInt32).toInt32) &&& (255 : Int32)) % ((7 : Int32) - pp)))), .unset, .unset, .unset, .unset, .unset, .unset]) rfl (pc' := 144) rfl ?_
  obtain ⟨qq, e_qq⟩ : ∃ z, z = (pp + ((((p3.toUInt32 >>> ((12 : Int32) &&& 31).toUInt32).toInt32) &&& (255 : Int32)) % ((7 : Int32) - pp))) := ⟨_, rfl⟩
  rw [← e_qq]
  show Gg0 p l e s m below meth c n0 h0 Z p0 q1 q2 p3  2 7 h15 (mkF m 144 #[.val (.int p0), .val (.long q1), .second, .val (.long q2), .second, .val (.int p3), .val (.ref tt), .val (.ref lf), .val (.int ss), .val (.int pp), .val (.int qq), .unset, .unset, .unset, .unset, .unset, .unset] [])
  obtain ⟨q', hq', hpq, hq6⟩ : ∃ p : Nat, qq.toInt = (p : Int) ∧ p' ≤ p ∧ p ≤ 6 := e_qq ▸ own_p _ hp' hp6
  refine G.newO (q := 3) B (hw _ (List.mem_of_getElem? (i := 5) rfl)) (hw _ (List.mem_of_getElem? (i := 6) rfl)) (hw _ (List.mem_of_getElem? (i := 7) rfl)) at_144 (pc' := 147) rfl (by decide) (by decide) (fun h16 pc hs_pc hf_pc K16 _ E16 D16 => ?_)
  have ne_tt_pc : tt ≠ pc := Nat.ne_of_lt (hs_pc ▸ A_tt.lt)
  have ne_lf_pc : lf ≠ pc := Nat.ne_of_lt (hs_pc ▸ A_lf.lt)
  replace hn := Nat.le_trans hn K16.1
  replace hz := Nat.le_trans hz K16.1
  replace A_tt := A_tt.keep K16 nin0
  replace A_lf := A_lf.keep K16 nin0
  have O_pc : O_PC Z h16 pc (0 : Int64) (0 : Int64) (0 : Int32) := ⟨E16, D16 (Or.inl (hw _ (List.mem_of_getElem? (i := 15) rfl))) (ty := .long) (by decide), D16 (Or.inl (hw _ (List.mem_of_getElem? (i := 17) rfl))) (ty := .long) (by decide), D16 (Or.inl (hw _ (List.mem_of_getElem? (i := 24) rfl))) (ty := .boolean) (by decide)⟩
  show Gg0 p l e s m below meth c n0 h0 Z p0 q1 q2 p3  3 10 h16 (mkF m 147 #[.val (.int p0), .val (.long q1), .second, .val (.long q2), .second, .val (.int p3), .val (.ref tt), .val (.ref lf), .val (.int ss), .val (.int pp), .val (.int qq), .unset, .unset, .unset, .unset, .unset, .unset] [(.ref pc)])
  refine G.dup B at_147 rfl (pc' := 148) rfl ?_
  refine G.callC (y := (⟨"com/example/libhybrid/libhybrid/text/PlaceCounter", "<init>", "()V"⟩ : MethodName)) (a := pc) B rfl (hw _ (List.mem_of_getElem? (i := 8) rfl)) (hw _ (List.mem_of_getElem? (i := 9) rfl)) rfl (rm := ({ frames := 1, cells := 0, slots := 0, locals := 12 } : Room)) (ws' := [pc]) (rm2 l Z a0 hw pc 0 0 0 _ n0 hn O_pc (own_fr B (Or.inr hf_pc))) (allS (Or.inr hf_pc) all0) (hw _ (List.mem_of_getElem? (i := 10) rfl)) (hw _ (List.mem_of_getElem? (i := 7) rfl)) (by decide) rfl (argsL := []) (rest := [(.ref pc)]) rfl (lenOf pd_0 rfl) (by decide) (W := 1) (Nat.le_of_eq rfl) (by decide) (by decide) (by decide) at_148 (pc' := 151) rfl ?_
  rintro _ h17 K17 ⟨rfl, O_pc⟩
  replace hn := Nat.le_trans hn K17.1
  replace hz := Nat.le_trans hz K17.1
  replace A_tt := A_tt.keep K17 (ninS ne_tt_pc nin0)
  replace A_lf := A_lf.keep K17 (ninS ne_lf_pc nin0)
  show Gg0 p l e s m below meth c n0 h0 Z p0 q1 q2 p3  3 10 h17 (mkF m 151 #[.val (.int p0), .val (.long q1), .second, .val (.long q2), .second, .val (.int p3), .val (.ref tt), .val (.ref lf), .val (.int ss), .val (.int pp), .val (.int qq), .unset, .unset, .unset, .unset, .unset, .unset] [(.ref pc)])
  refine G.astore B at_151 rfl (ls' := #[.val (.int p0), .val (.long q1), .second, .val (.long q2), .second, .val (.int p3), .val (.ref tt), .val (.ref lf), .val (.int ss), .val (.int pp), .val (.int qq), .val (.ref pc), .unset, .unset, .unset, .unset, .unset]) rfl (pc' := 153) rfl ?_
  refine G.aload B at_153 (v := (.ref pc)) rfl rfl (pc' := 155) rfl ?_
  refine G.aload B at_155 (v := (.ref tt)) rfl rfl (pc' := 157) rfl ?_
  refine G.iload B at_157 (v := ss) rfl (pc' := 159) rfl ?_
  refine G.iload B at_159 (v := pp) rfl (pc' := 161) rfl ?_
  refine G.callV (y := (⟨"com/example/libhybrid/libhybrid/text/PlaceCounter", "pass", "([CII)V"⟩ : MethodName)) (a := pc) B O_pc.1 (hw _ (List.mem_of_getElem? (i := 18) rfl)) (hw _ (List.mem_of_getElem? (i := 19) rfl)) (hw _ (List.mem_of_getElem? (i := 21) rfl)) (hw _ (List.mem_of_getElem? (i := 20) rfl)) (rm := ({ frames := 0, cells := 0, slots := 0, locals := 0 } : Room)) (ws' := [pc]) (rm4 l Z a0 hw pc tt ss pp ((1 : Int64), (1 : Int64), false) 6 s' p' F _ n0 hn O_pc A_tt (Ne.symm ne_tt_pc) (own_fr B (Or.inr hf_pc)) hs' hp' hsp hp6 (by decide)) (allS (Or.inr hf_pc) all0) (hw _ (List.mem_of_getElem? (i := 22) rfl)) (hw _ (List.mem_of_getElem? (i := 7) rfl)) (by decide) rfl (argsL := [(.ref tt), (.int ss), (.int pp)]) (rest := []) rfl (lenOf pd_3 rfl) (by decide) (W := 0) (Nat.le_of_eq rfl) (by decide) (by decide) (by decide) at_161 (pc' := 164) rfl ?_
  rintro _ h18 K18 ⟨rfl, O_pc⟩
  replace hn := Nat.le_trans hn K18.1
  replace hz := Nat.le_trans hz K18.1
  replace A_tt := A_tt.keep K18 (ninS ne_tt_pc nin0)
  replace A_lf := A_lf.keep K18 (ninS ne_lf_pc nin0)
  show Gg0 p l e s m below meth c n0 h0 Z p0 q1 q2 p3  3 10 h18 (mkF m 164 #[.val (.int p0), .val (.long q1), .second, .val (.long q2), .second, .val (.int p3), .val (.ref tt), .val (.ref lf), .val (.int ss), .val (.int pp), .val (.int qq), .val (.ref pc), .unset, .unset, .unset, .unset, .unset] [])
  refine G.aload B at_164 (v := (.ref pc)) rfl rfl (pc' := 166) rfl ?_
  refine G.aload B at_166 (v := (.ref tt)) rfl rfl (pc' := 168) rfl ?_
  refine G.iload B at_168 (v := pp) rfl (pc' := 170) rfl ?_
  refine G.iload B at_170 (v := qq) rfl (pc' := 172) rfl ?_
  refine G.callV (y := (⟨"com/example/libhybrid/libhybrid/text/PlaceCounter", "pass", "([CII)V"⟩ : MethodName)) (a := pc) B O_pc.1 (hw _ (List.mem_of_getElem? (i := 18) rfl)) (hw _ (List.mem_of_getElem? (i := 19) rfl)) (hw _ (List.mem_of_getElem? (i := 21) rfl)) (hw _ (List.mem_of_getElem? (i := 20) rfl)) (rm := ({ frames := 0, cells := 0, slots := 0, locals := 0 } : Room)) (ws' := [pc]) (rm4 l Z a0 hw pc tt pp qq (rn F s' (p' - s') ((1 : Int64), (1 : Int64), false)) 6 p' q' F _ n0 hn O_pc A_tt (Ne.symm ne_tt_pc) (own_fr B (Or.inr hf_pc)) hp' hq' hpq hq6 (by decide)) (allS (Or.inr hf_pc) all0) (hw _ (List.mem_of_getElem? (i := 22) rfl)) (hw _ (List.mem_of_getElem? (i := 7) rfl)) (by decide) rfl (argsL := [(.ref tt), (.int pp), (.int qq)]) (rest := []) rfl (lenOf pd_3 rfl) (by decide) (W := 0) (Nat.le_of_eq rfl) (by decide) (by decide) (by decide) at_172 (pc' := 175) rfl ?_
  rintro _ h19 K19 ⟨rfl, O_pc⟩
  replace hn := Nat.le_trans hn K19.1
  replace hz := Nat.le_trans hz K19.1
  replace A_tt := A_tt.keep K19 (ninS ne_tt_pc nin0)
  replace A_lf := A_lf.keep K19 (ninS ne_lf_pc nin0)
  show Gg0 p l e s m below meth c n0 h0 Z p0 q1 q2 p3  3 10 h19 (mkF m 175 #[.val (.int p0), .val (.long q1), .second, .val (.long q2), .second, .val (.int p3), .val (.ref tt), .val (.ref lf), .val (.int ss), .val (.int pp), .val (.int qq), .val (.ref pc), .unset, .unset, .unset, .unset, .unset] [])
  refine G.aload B at_175 (v := (.ref pc)) rfl rfl (pc' := 177) rfl ?_
  refine G.aload B at_177 (v := (.ref tt)) rfl rfl (pc' := 179) rfl ?_
  refine G.iload B at_179 (v := qq) rfl (pc' := 181) rfl ?_
  refine G.bipush B at_181 (z := (6 : Int32)) rfl (pc' := 183) rfl ?_
  refine G.callV (y := (⟨"com/example/libhybrid/libhybrid/text/PlaceCounter", "pass", "([CII)V"⟩ : MethodName)) (a := pc) B O_pc.1 (hw _ (List.mem_of_getElem? (i := 18) rfl)) (hw _ (List.mem_of_getElem? (i := 19) rfl)) (hw _ (List.mem_of_getElem? (i := 21) rfl)) (hw _ (List.mem_of_getElem? (i := 20) rfl)) (rm := ({ frames := 0, cells := 0, slots := 0, locals := 0 } : Room)) (ws' := [pc]) (rm4 l Z a0 hw pc tt qq (6 : Int32) (rn F p' (q' - p') (rn F s' (p' - s') ((1 : Int64), (1 : Int64), false))) 6 q' 6 F _ n0 hn O_pc A_tt (Ne.symm ne_tt_pc) (own_fr B (Or.inr hf_pc)) hq' (by decide) hq6 (by decide) (by decide)) (allS (Or.inr hf_pc) all0) (hw _ (List.mem_of_getElem? (i := 22) rfl)) (hw _ (List.mem_of_getElem? (i := 7) rfl)) (by decide) rfl (argsL := [(.ref tt), (.int qq), (.int (6 : Int32))]) (rest := []) rfl (lenOf pd_3 rfl) (by decide) (W := 0) (Nat.le_of_eq rfl) (by decide) (by decide) (by decide) at_183 (pc' := 186) rfl ?_
  rintro _ h20 K20 ⟨rfl, O_pc⟩
  replace hn := Nat.le_trans hn K20.1
  replace hz := Nat.le_trans hz K20.1
  replace A_tt := A_tt.keep K20 (ninS ne_tt_pc nin0)
  replace A_lf := A_lf.keep K20 (ninS ne_lf_pc nin0)
  show Gg0 p l e s m below meth c n0 h0 Z p0 q1 q2 p3  3 10 h20 (mkF m 186 #[.val (.int p0), .val (.long q1), .second, .val (.long q2), .second, .val (.int p3), .val (.ref tt), .val (.ref lf), .val (.int ss), .val (.int pp), .val (.int qq), .val (.ref pc), .unset, .unset, .unset, .unset, .unset] [])
  have hr3 : (rn F q' (6 - q') (rn F p' (q' - p') (rn F s' (p' - s') ((1 : Int64), (1 : Int64), false)))) = (rn F s' (6 - s') ((1 : Int64), (1 : Int64), false)) := by
    rw [show 6 - s' = (q' - s') + (6 - q') by omega, rn_add, show s' + (q' - s') = q' by omega, show q' - s' = (p' - s') + (q' - p') by omega, rn_add, show s' + (p' - s') = p' by omega]
  change O_PC Z h20 pc (rn F q' (6 - q') (rn F p' (q' - p') (rn F s' (p' - s') ((1 : Int64), (1 : Int64), false)))).1 (rn F q' (6 - q') (rn F p' (q' - p') (rn F s' (p' - s') ((1 : Int64), (1 : Int64), false)))).2.1 (bi (rn F q' (6 - q') (rn F p' (q' - p') (rn F s' (p' - s') ((1 : Int64), (1 : Int64), false)))).2.2) at O_pc
  rw [hr3] at O_pc
  clear hr3
  obtain ⟨σ, eσ⟩ : ∃ z, z = (rn F s' (6 - s') ((1 : Int64), (1 : Int64), false)) := ⟨_, rfl⟩
  rw [← eσ] at O_pc
  refine G.iconst B at_186 (z := (3 : Int32)) rfl (pc' := 187) rfl ?_
  refine G.newJ B (hw _ (List.mem_of_getElem? (i := 25) rfl)) (n := 3) (by decide) (cap := 3) (by decide) (by decide) at_187 (pc' := 189) rfl (by decide) (by decide) (fun h21 st hs_st hf_st K21 A_st => ?_)
  have ne_tt_st : tt ≠ st := Nat.ne_of_lt (hs_st ▸ A_tt.lt)
  have ne_lf_st : lf ≠ st := Nat.ne_of_lt (hs_st ▸ A_lf.lt)
  have ne_pc_st : pc ≠ st := Nat.ne_of_lt (hs_st ▸ O_pc.lt)
  replace hn := Nat.le_trans hn K21.1
  replace hz := Nat.le_trans hz K21.1
  replace A_tt := A_tt.keep K21 nin0
  replace A_lf := A_lf.keep K21 nin0
  replace O_pc := O_pc.keep K21 nin0
  show Gg0 p l e s m below meth c n0 h0 Z p0 q1 q2 p3  4 13 h21 (mkF m 189 #[.val (.int p0), .val (.long q1), .second, .val (.long q2), .second, .val (.int p3), .val (.ref tt), .val (.ref lf), .val (.int ss), .val (.int pp), .val (.int qq), .val (.ref pc), .unset, .unset, .unset, .unset, .unset] [(.ref st)])
  refine G.astore B at_189 rfl (ls' := #[.val (.int p0), .val (.long q1), .second, .val (.long q2), .second, .val (.int p3), .val (.ref tt), .val (.ref lf), .val (.int ss), .val (.int pp), .val (.int qq), .val (.ref pc), .val (.ref st), .unset, .unset, .unset, .unset]) rfl (pc' := 191) rfl ?_
  refine G.aload B at_191 (v := (.ref st)) rfl rfl (pc' := 193) rfl ?_
  refine G.iconst B at_193 (z := (0 : Int32)) rfl (pc' := 194) rfl ?_
  refine G.lconst B at_194 (z := (1 : Int64)) rfl (pc' := 195) rfl ?_
  refine G.stJ B A_st (i := 0) (by decide) (by decide) (Or.inr hf_st) at_195 (pc' := 196) rfl (fun h22 K22 A22 => ?_)
  replace A_st := A22
  replace hn := Nat.le_trans hn K22.1
  replace hz := Nat.le_trans hz K22.1
  replace A_tt := A_tt.keep K22 (ninS ne_tt_st nin0)
  replace A_lf := A_lf.keep K22 (ninS ne_lf_st nin0)
  replace O_pc := O_pc.keep K22 (ninS ne_pc_st nin0)
  refine G.aload B at_196 (v := (.ref st)) rfl rfl (pc' := 198) rfl ?_
  refine G.iconst B at_198 (z := (1 : Int32)) rfl (pc' := 199) rfl ?_
  refine G.lconst B at_199 (z := (1 : Int64)) rfl (pc' := 200) rfl ?_
  refine G.stJ B A_st (i := 1) (by decide) (by decide) (Or.inr hf_st) at_200 (pc' := 201) rfl (fun h23 K23 A23 => ?_)
  replace A_st := A23
  replace hn := Nat.le_trans hn K23.1
  replace hz := Nat.le_trans hz K23.1
  replace A_tt := A_tt.keep K23 (ninS ne_tt_st nin0)
  replace A_lf := A_lf.keep K23 (ninS ne_lf_st nin0)
  replace O_pc := O_pc.keep K23 (ninS ne_pc_st nin0)
  refine G.aload B at_201 (v := (.ref st)) rfl rfl (pc' := 203) rfl ?_
  refine G.iconst B at_203 (z := (2 : Int32)) rfl (pc' := 204) rfl ?_
  refine G.lconst B at_204 (z := (0 : Int64)) rfl (pc' := 205) rfl ?_
  refine G.stJ B A_st (i := 2) (by decide) (by decide) (Or.inr hf_st) at_205 (pc' := 206) rfl (fun h24 K24 A24 => ?_)
  replace A_st := A24
  replace hn := Nat.le_trans hn K24.1
  replace hz := Nat.le_trans hz K24.1
  replace A_tt := A_tt.keep K24 (ninS ne_tt_st nin0)
  replace A_lf := A_lf.keep K24 (ninS ne_lf_st nin0)
  replace O_pc := O_pc.keep K24 (ninS ne_pc_st nin0)
  obtain ⟨t0, et0⟩ : ∃ F, F = (up (up (up (fun _ => 0) 0 (1 : Int64)) 1 (1 : Int64)) 2 (0 : Int64)) := ⟨_, rfl⟩
  rw [← et0] at A_st
  have R0 : Rr t0 (rn F s' (0 - s') ((1 : Int64), (1 : Int64), false)) := by
    rw [Nat.zero_sub, et0]
    exact ⟨by simp [up, rn], by simp [up, rn], by simp [up, rn, bj]⟩
  clear et0
  refine G.aload B at_206 (v := (.ref st)) rfl rfl (pc' := 208) rfl ?_
  refine G.aload B at_208 (v := (.ref tt)) rfl rfl (pc' := 210) rfl ?_
  refine G.iconst B at_210 (z := (0 : Int32)) rfl (pc' := 211) rfl ?_
  refine G.ldC B A_tt (i := 0) (by decide) (by decide) (x := (F 0)) rfl at_211 (pc' := 212) rfl ?_
  refine G.iconst B at_212 (z := (0 : Int32)) rfl (pc' := 213) rfl ?_
  refine G.iload B at_213 (v := ss) rfl (pc' := 215) rfl ?_
  suffices K223 : ∀ (on0 : Int32), ((0 < ss.toInt ∧ on0 = (0 : Int32)) ∨ (ss.toInt ≤ 0 ∧ on0 = (1 : Int32))) → Gg0 p l e s m below meth c n0 h0 Z p0 q1 q2 p3  4 13 h24 (mkF m 223 #[.val (.int p0), .val (.long q1), .second, .val (.long q2), .second, .val (.int p3), .val (.ref tt), .val (.ref lf), .val (.int ss), .val (.int pp), .val (.int qq), .val (.ref pc), .val (.ref st), .unset, .unset, .unset, .unset] [(.int on0), (.int (F 0)), (.ref st)]) by
    refine G.icmp_lt B at_215 (by decide) (pcT := 222) (by decide) (pc' := 218) rfl (fun (hc215 : 0 < ss.toInt) => ?_) (fun (hc215 : ss.toInt ≤ 0) => ?_)
    · refine G.iconst B at_222 (z := (0 : Int32)) rfl (pc' := 223) rfl ?_
      exact K223 (0 : Int32) (Or.inl ⟨hc215, rfl⟩)
    · refine G.iconst B at_218 (z := (1 : Int32)) rfl (pc' := 219) rfl ?_
      refine G.goto B at_219 (by decide) (pc' := 223) (by decide) ?_
      exact K223 (1 : Int32) (Or.inr ⟨hc215, rfl⟩)
  intro on0 hj223
  refine G.callS (y := (⟨"com/example/libhybrid/libhybrid/text/PlaceCounterPassPinLaw", "step", "([JCZ)V"⟩ : MethodName)) B (hw _ (List.mem_of_getElem? (i := 26) rfl)) (hw _ (List.mem_of_getElem? (i := 27) rfl)) (rm := ({ frames := 0, cells := 0, slots := 0, locals := 0 } : Room)) (ws' := [st]) (rm5 l Z a0 hw st (F 0) on0 t0 _ n0 hn A_st (own_fr B (Or.inr hf_st))) (allS (Or.inr hf_st) all0) (hw _ (List.mem_of_getElem? (i := 28) rfl)) (hw _ (List.mem_of_getElem? (i := 3) rfl)) (by decide) rfl (argsL := [(.ref st), (.int (F 0)), (.int on0)]) (rest := []) rfl (lenOf pd_4 rfl) (by decide) (W := 0) (Nat.le_of_eq rfl) (by decide) (by decide) (by decide) at_223 (pc' := 226) rfl ?_
  rintro _ h25 K25 ⟨rfl, t1, A_st, ht1⟩
  replace hn := Nat.le_trans hn K25.1
  replace hz := Nat.le_trans hz K25.1
  replace A_tt := A_tt.keep K25 (ninS ne_tt_st nin0)
  replace A_lf := A_lf.keep K25 (ninS ne_lf_st nin0)
  replace O_pc := O_pc.keep K25 (ninS ne_pc_st nin0)
  show Gg0 p l e s m below meth c n0 h0 Z p0 q1 q2 p3  4 13 h25 (mkF m 226 #[.val (.int p0), .val (.long q1), .second, .val (.long q2), .second, .val (.int p3), .val (.ref tt), .val (.ref lf), .val (.int ss), .val (.int pp), .val (.int qq), .val (.ref pc), .val (.ref st), .unset, .unset, .unset, .unset] [])
  have R1 : Rr t1 (rn F s' (0 + 1 - s') ((1 : Int64), (1 : Int64), false)) := own_st R0 rfl ht1 (by
    rcases hj223 with ⟨a, rfl⟩ | ⟨a, rfl⟩
    · exact ⟨fun q => absurd rfl q, fun q => by omega⟩
    · exact ⟨fun _ => by omega, fun _ => by decide⟩)
  refine G.aload B at_226 (v := (.ref st)) rfl rfl (pc' := 228) rfl ?_
  refine G.aload B at_228 (v := (.ref tt)) rfl rfl (pc' := 230) rfl ?_
  refine G.iconst B at_230 (z := (1 : Int32)) rfl (pc' := 231) rfl ?_
  refine G.ldC B A_tt (i := 1) (by decide) (by decide) (x := (F 1)) rfl at_231 (pc' := 232) rfl ?_
  refine G.iconst B at_232 (z := (1 : Int32)) rfl (pc' := 233) rfl ?_
  refine G.iload B at_233 (v := ss) rfl (pc' := 235) rfl ?_
  suffices K243 : ∀ (on1 : Int32), ((1 < ss.toInt ∧ on1 = (0 : Int32)) ∨ (ss.toInt ≤ 1 ∧ on1 = (1 : Int32))) → Gg0 p l e s m below meth c n0 h0 Z p0 q1 q2 p3  4 13 h25 (mkF m 243 #[.val (.int p0), .val (.long q1), .second, .val (.long q2), .second, .val (.int p3), .val (.ref tt), .val (.ref lf), .val (.int ss), .val (.int pp), .val (.int qq), .val (.ref pc), .val (.ref st), .unset, .unset, .unset, .unset] [(.int on1), (.int (F 1)), (.ref st)]) by
    refine G.icmp_lt B at_235 (by decide) (pcT := 242) (by decide) (pc' := 238) rfl (fun (hc235 : 1 < ss.toInt) => ?_) (fun (hc235 : ss.toInt ≤ 1) => ?_)
    · refine G.iconst B at_242 (z := (0 : Int32)) rfl (pc' := 243) rfl ?_
      exact K243 (0 : Int32) (Or.inl ⟨hc235, rfl⟩)
    · refine G.iconst B at_238 (z := (1 : Int32)) rfl (pc' := 239) rfl ?_
      refine G.goto B at_239 (by decide) (pc' := 243) (by decide) ?_
      exact K243 (1 : Int32) (Or.inr ⟨hc235, rfl⟩)
  intro on1 hj243
  refine G.callS (y := (⟨"com/example/libhybrid/libhybrid/text/PlaceCounterPassPinLaw", "step", "([JCZ)V"⟩ : MethodName)) B (hw _ (List.mem_of_getElem? (i := 26) rfl)) (hw _ (List.mem_of_getElem? (i := 27) rfl)) (rm := ({ frames := 0, cells := 0, slots := 0, locals := 0 } : Room)) (ws' := [st]) (rm5 l Z a0 hw st (F 1) on1 t1 _ n0 hn A_st (own_fr B (Or.inr hf_st))) (allS (Or.inr hf_st) all0) (hw _ (List.mem_of_getElem? (i := 28) rfl)) (hw _ (List.mem_of_getElem? (i := 3) rfl)) (by decide) rfl (argsL := [(.ref st), (.int (F 1)), (.int on1)]) (rest := []) rfl (lenOf pd_4 rfl) (by decide) (W := 0) (Nat.le_of_eq rfl) (by decide) (by decide) (by decide) at_243 (pc' := 246) rfl ?_
  rintro _ h26 K26 ⟨rfl, t2, A_st, ht2⟩
  replace hn := Nat.le_trans hn K26.1
  replace hz := Nat.le_trans hz K26.1
  replace A_tt := A_tt.keep K26 (ninS ne_tt_st nin0)
  replace A_lf := A_lf.keep K26 (ninS ne_lf_st nin0)
  replace O_pc := O_pc.keep K26 (ninS ne_pc_st nin0)
  show Gg0 p l e s m below meth c n0 h0 Z p0 q1 q2 p3  4 13 h26 (mkF m 246 #[.val (.int p0), .val (.long q1), .second, .val (.long q2), .second, .val (.int p3), .val (.ref tt), .val (.ref lf), .val (.int ss), .val (.int pp), .val (.int qq), .val (.ref pc), .val (.ref st), .unset, .unset, .unset, .unset] [])
  have R2 : Rr t2 (rn F s' (1 + 1 - s') ((1 : Int64), (1 : Int64), false)) := own_st R1 rfl ht2 (by
    rcases hj243 with ⟨a, rfl⟩ | ⟨a, rfl⟩
    · exact ⟨fun q => absurd rfl q, fun q => by omega⟩
    · exact ⟨fun _ => by omega, fun _ => by decide⟩)
  refine G.aload B at_246 (v := (.ref st)) rfl rfl (pc' := 248) rfl ?_
  refine G.aload B at_248 (v := (.ref tt)) rfl rfl (pc' := 250) rfl ?_
  refine G.iconst B at_250 (z := (2 : Int32)) rfl (pc' := 251) rfl ?_
  refine G.ldC B A_tt (i := 2) (by decide) (by decide) (x := (F 2)) rfl at_251 (pc' := 252) rfl ?_
  refine G.iconst B at_252 (z := (2 : Int32)) rfl (pc' := 253) rfl ?_
  refine G.iload B at_253 (v := ss) rfl (pc' := 255) rfl ?_
  suffices K263 : ∀ (on2 : Int32), ((2 < ss.toInt ∧ on2 = (0 : Int32)) ∨ (ss.toInt ≤ 2 ∧ on2 = (1 : Int32))) → Gg0 p l e s m below meth c n0 h0 Z p0 q1 q2 p3  4 13 h26 (mkF m 263 #[.val (.int p0), .val (.long q1), .second, .val (.long q2), .second, .val (.int p3), .val (.ref tt), .val (.ref lf), .val (.int ss), .val (.int pp), .val (.int qq), .val (.ref pc), .val (.ref st), .unset, .unset, .unset, .unset] [(.int on2), (.int (F 2)), (.ref st)]) by
    refine G.icmp_lt B at_255 (by decide) (pcT := 262) (by decide) (pc' := 258) rfl (fun (hc255 : 2 < ss.toInt) => ?_) (fun (hc255 : ss.toInt ≤ 2) => ?_)
    · refine G.iconst B at_262 (z := (0 : Int32)) rfl (pc' := 263) rfl ?_
      exact K263 (0 : Int32) (Or.inl ⟨hc255, rfl⟩)
    · refine G.iconst B at_258 (z := (1 : Int32)) rfl (pc' := 259) rfl ?_
      refine G.goto B at_259 (by decide) (pc' := 263) (by decide) ?_
      exact K263 (1 : Int32) (Or.inr ⟨hc255, rfl⟩)
  intro on2 hj263
  refine G.callS (y := (⟨"com/example/libhybrid/libhybrid/text/PlaceCounterPassPinLaw", "step", "([JCZ)V"⟩ : MethodName)) B (hw _ (List.mem_of_getElem? (i := 26) rfl)) (hw _ (List.mem_of_getElem? (i := 27) rfl)) (rm := ({ frames := 0, cells := 0, slots := 0, locals := 0 } : Room)) (ws' := [st]) (rm5 l Z a0 hw st (F 2) on2 t2 _ n0 hn A_st (own_fr B (Or.inr hf_st))) (allS (Or.inr hf_st) all0) (hw _ (List.mem_of_getElem? (i := 28) rfl)) (hw _ (List.mem_of_getElem? (i := 3) rfl)) (by decide) rfl (argsL := [(.ref st), (.int (F 2)), (.int on2)]) (rest := []) rfl (lenOf pd_4 rfl) (by decide) (W := 0) (Nat.le_of_eq rfl) (by decide) (by decide) (by decide) at_263 (pc' := 266) rfl ?_
  rintro _ h27 K27 ⟨rfl, t3, A_st, ht3⟩
  replace hn := Nat.le_trans hn K27.1
  replace hz := Nat.le_trans hz K27.1
  replace A_tt := A_tt.keep K27 (ninS ne_tt_st nin0)
  replace A_lf := A_lf.keep K27 (ninS ne_lf_st nin0)
  replace O_pc := O_pc.keep K27 (ninS ne_pc_st nin0)
  show Gg0 p l e s m below meth c n0 h0 Z p0 q1 q2 p3  4 13 h27 (mkF m 266 #[.val (.int p0), .val (.long q1), .second, .val (.long q2), .second, .val (.int p3), .val (.ref tt), .val (.ref lf), .val (.int ss), .val (.int pp), .val (.int qq), .val (.ref pc), .val (.ref st), .unset, .unset, .unset, .unset] [])
  have R3 : Rr t3 (rn F s' (2 + 1 - s') ((1 : Int64), (1 : Int64), false)) := own_st R2 rfl ht3 (by
    rcases hj263 with ⟨a, rfl⟩ | ⟨a, rfl⟩
    · exact ⟨fun q => absurd rfl q, fun q => by omega⟩
    · exact ⟨fun _ => by omega, fun _ => by decide⟩)
  refine G.aload B at_266 (v := (.ref st)) rfl rfl (pc' := 268) rfl ?_
  refine G.aload B at_268 (v := (.ref tt)) rfl rfl (pc' := 270) rfl ?_
  refine G.iconst B at_270 (z := (3 : Int32)) rfl (pc' := 271) rfl ?_
  refine G.ldC B A_tt (i := 3) (by decide) (by decide) (x := (F 3)) rfl at_271 (pc' := 272) rfl ?_
  refine G.iconst B at_272 (z := (1 : Int32)) rfl (pc' := 273) rfl ?_
  refine G.callS (y := (⟨"com/example/libhybrid/libhybrid/text/PlaceCounterPassPinLaw", "step", "([JCZ)V"⟩ : MethodName)) B (hw _ (List.mem_of_getElem? (i := 26) rfl)) (hw _ (List.mem_of_getElem? (i := 27) rfl)) (rm := ({ frames := 0, cells := 0, slots := 0, locals := 0 } : Room)) (ws' := [st]) (rm5 l Z a0 hw st (F 3) (1 : Int32) t3 _ n0 hn A_st (own_fr B (Or.inr hf_st))) (allS (Or.inr hf_st) all0) (hw _ (List.mem_of_getElem? (i := 28) rfl)) (hw _ (List.mem_of_getElem? (i := 3) rfl)) (by decide) rfl (argsL := [(.ref st), (.int (F 3)), (.int (1 : Int32))]) (rest := []) rfl (lenOf pd_4 rfl) (by decide) (W := 0) (Nat.le_of_eq rfl) (by decide) (by decide) (by decide) at_273 (pc' := 276) rfl ?_
  rintro _ h28 K28 ⟨rfl, t4, A_st, ht4⟩
  replace hn := Nat.le_trans hn K28.1
  replace hz := Nat.le_trans hz K28.1
  replace A_tt := A_tt.keep K28 (ninS ne_tt_st nin0)
  replace A_lf := A_lf.keep K28 (ninS ne_lf_st nin0)
  replace O_pc := O_pc.keep K28 (ninS ne_pc_st nin0)
  show Gg0 p l e s m below meth c n0 h0 Z p0 q1 q2 p3  4 13 h28 (mkF m 276 #[.val (.int p0), .val (.long q1), .second, .val (.long q2), .second, .val (.int p3), .val (.ref tt), .val (.ref lf), .val (.int ss), .val (.int pp), .val (.int qq), .val (.ref pc), .val (.ref st), .unset, .unset, .unset, .unset] [])
  have R4 : Rr t4 (rn F s' (3 + 1 - s') ((1 : Int64), (1 : Int64), false)) := own_st R3 rfl ht4 ⟨fun _ => by omega, fun _ => by decide⟩
  refine G.aload B at_276 (v := (.ref st)) rfl rfl (pc' := 278) rfl ?_
  refine G.aload B at_278 (v := (.ref tt)) rfl rfl (pc' := 280) rfl ?_
  refine G.iconst B at_280 (z := (4 : Int32)) rfl (pc' := 281) rfl ?_
  refine G.ldC B A_tt (i := 4) (by decide) (by decide) (x := (F 4)) rfl at_281 (pc' := 282) rfl ?_
  refine G.iconst B at_282 (z := (1 : Int32)) rfl (pc' := 283) rfl ?_
  refine G.callS (y := (⟨"com/example/libhybrid/libhybrid/text/PlaceCounterPassPinLaw", "step", "([JCZ)V"⟩ : MethodName)) B (hw _ (List.mem_of_getElem? (i := 26) rfl)) (hw _ (List.mem_of_getElem? (i := 27) rfl)) (rm := ({ frames := 0, cells := 0, slots := 0, locals := 0 } : Room)) (ws' := [st]) (rm5 l Z a0 hw st (F 4) (1 : Int32) t4 _ n0 hn A_st (own_fr B (Or.inr hf_st))) (allS (Or.inr hf_st) all0) (hw _ (List.mem_of_getElem? (i := 28) rfl)) (hw _ (List.mem_of_getElem? (i := 3) rfl)) (by decide) rfl (argsL := [(.ref st), (.int (F 4)), (.int (1 : Int32))]) (rest := []) rfl (lenOf pd_4 rfl) (by decide) (W := 0) (Nat.le_of_eq rfl) (by decide) (by decide) (by decide) at_283 (pc' := 286) rfl ?_
  rintro _ h29 K29 ⟨rfl, t5, A_st, ht5⟩
  replace hn := Nat.le_trans hn K29.1
  replace hz := Nat.le_trans hz K29.1
  replace A_tt := A_tt.keep K29 (ninS ne_tt_st nin0)
  replace A_lf := A_lf.keep K29 (ninS ne_lf_st nin0)
  replace O_pc := O_pc.keep K29 (ninS ne_pc_st nin0)
  show Gg0 p l e s m below meth c n0 h0 Z p0 q1 q2 p3  4 13 h29 (mkF m 286 #[.val (.int p0), .val (.long q1), .second, .val (.long q2), .second, .val (.int p3), .val (.ref tt), .val (.ref lf), .val (.int ss), .val (.int pp), .val (.int qq), .val (.ref pc), .val (.ref st), .unset, .unset, .unset, .unset] [])
  have R5 : Rr t5 (rn F s' (4 + 1 - s') ((1 : Int64), (1 : Int64), false)) := own_st R4 rfl ht5 ⟨fun _ => by omega, fun _ => by decide⟩
  refine G.aload B at_286 (v := (.ref st)) rfl rfl (pc' := 288) rfl ?_
  refine G.aload B at_288 (v := (.ref tt)) rfl rfl (pc' := 290) rfl ?_
  refine G.iconst B at_290 (z := (5 : Int32)) rfl (pc' := 291) rfl ?_
  refine G.ldC B A_tt (i := 5) (by decide) (by decide) (x := (F 5)) rfl at_291 (pc' := 292) rfl ?_
  refine G.iconst B at_292 (z := (1 : Int32)) rfl (pc' := 293) rfl ?_
  refine G.callS (y := (⟨"com/example/libhybrid/libhybrid/text/PlaceCounterPassPinLaw", "step", "([JCZ)V"⟩ : MethodName)) B (hw _ (List.mem_of_getElem? (i := 26) rfl)) (hw _ (List.mem_of_getElem? (i := 27) rfl)) (rm := ({ frames := 0, cells := 0, slots := 0, locals := 0 } : Room)) (ws' := [st]) (rm5 l Z a0 hw st (F 5) (1 : Int32) t5 _ n0 hn A_st (own_fr B (Or.inr hf_st))) (allS (Or.inr hf_st) all0) (hw _ (List.mem_of_getElem? (i := 28) rfl)) (hw _ (List.mem_of_getElem? (i := 3) rfl)) (by decide) rfl (argsL := [(.ref st), (.int (F 5)), (.int (1 : Int32))]) (rest := []) rfl (lenOf pd_4 rfl) (by decide) (W := 0) (Nat.le_of_eq rfl) (by decide) (by decide) (by decide) at_293 (pc' := 296) rfl ?_
  rintro _ h30 K30 ⟨rfl, t6, A_st, ht6⟩
  replace hn := Nat.le_trans hn K30.1
  replace hz := Nat.le_trans hz K30.1
  replace A_tt := A_tt.keep K30 (ninS ne_tt_st nin0)
  replace A_lf := A_lf.keep K30 (ninS ne_lf_st nin0)
  replace O_pc := O_pc.keep K30 (ninS ne_pc_st nin0)
  show Gg0 p l e s m below meth c n0 h0 Z p0 q1 q2 p3  4 13 h30 (mkF m 296 #[.val (.int p0), .val (.long q1), .second, .val (.long q2), .second, .val (.int p3), .val (.ref tt), .val (.ref lf), .val (.int ss), .val (.int pp), .val (.int qq), .val (.ref pc), .val (.ref st), .unset, .unset, .unset, .unset] [])
  have R6 : Rr t6 (rn F s' (5 + 1 - s') ((1 : Int64), (1 : Int64), false)) := own_st R5 rfl ht6 ⟨fun _ => by omega, fun _ => by decide⟩
  have R7 : Rr t6 σ := by rw [eσ]; exact R6
  refine G.aload B at_296 (v := (.ref pc)) rfl rfl (pc' := 298) rfl ?_
  refine G.callV (y := (⟨"com/example/libhybrid/libhybrid/text/PlaceCounter", "place", "()Lcom/example/libhybrid/libhybrid/text/Place;"⟩ : MethodName)) (a := pc) B O_pc.1 (hw _ (List.mem_of_getElem? (i := 29) rfl)) (hw _ (List.mem_of_getElem? (i := 30) rfl)) (hw _ (List.mem_of_getElem? (i := 32) rfl)) (hw _ (List.mem_of_getElem? (i := 31) rfl)) (rm := ({ frames := 3, cells := 1, slots := 2, locals := 41 } : Room)) (ws' := []) (rm6 l Z a0 hw pc σ.1 σ.2.1 (bi σ.2.2) _ n0 hn O_pc) (fun x hx => nomatch hx) (hw _ (List.mem_of_getElem? (i := 33) rfl)) (hw _ (List.mem_of_getElem? (i := 7) rfl)) (by decide) rfl (argsL := []) (rest := []) rfl (lenOf pd_5 rfl) (by decide) (W := 0) (Nat.le_of_eq rfl) (by decide) (by decide) (by decide) at_298 (pc' := 301) rfl ?_
  rintro _ h31 K31 ⟨pa, rfl, O_pa⟩
  replace hn := Nat.le_trans hn K31.1
  replace hz := Nat.le_trans hz K31.1
  replace A_tt := A_tt.keep K31 nin0
  replace A_lf := A_lf.keep K31 nin0
  replace O_pc := O_pc.keep K31 nin0
  replace A_st := A_st.keep K31 nin0
  show Gg0 p l e s m below meth c n0 h0 Z p0 q1 q2 p3  5 15 h31 (mkF m 301 #[.val (.int p0), .val (.long q1), .second, .val (.long q2), .second, .val (.int p3), .val (.ref tt), .val (.ref lf), .val (.int ss), .val (.int pp), .val (.int qq), .val (.ref pc), .val (.ref st), .unset, .unset, .unset, .unset] [(.ref pa)])
  refine G.astore B at_301 rfl (ls' := #[.val (.int p0), .val (.long q1), .second, .val (.long q2), .second, .val (.int p3), .val (.ref tt), .val (.ref lf), .val (.int ss), .val (.int pp), .val (.int qq), .val (.ref pc), .val (.ref st), .val (.ref pa), .unset, .unset, .unset]) rfl (pc' := 303) rfl ?_
  refine G.aload B at_303 (v := (.ref pa)) rfl rfl (pc' := 305) rfl ?_
  refine G.callV (y := (⟨"com/example/libhybrid/libhybrid/text/Place", "line", "()J"⟩ : MethodName)) (a := pa) B O_pa.1 (hw _ (List.mem_of_getElem? (i := 50) rfl)) (hw _ (List.mem_of_getElem? (i := 51) rfl)) (hw _ (List.mem_of_getElem? (i := 53) rfl)) (hw _ (List.mem_of_getElem? (i := 52) rfl)) (rm := ({ frames := 0, cells := 0, slots := 0, locals := 0 } : Room)) (ws' := []) (rm9 l Z a0 hw pa σ.1 σ.2.1 _ n0 hn O_pa) (fun x hx => nomatch hx) (hw _ (List.mem_of_getElem? (i := 54) rfl)) (hw _ (List.mem_of_getElem? (i := 36) rfl)) (by decide) rfl (argsL := []) (rest := []) rfl (lenOf pd_6 rfl) (by decide) (W := 0) (Nat.le_of_eq rfl) (by decide) (by decide) (by decide) at_305 (pc' := 308) rfl ?_
  rintro _ _ K32 ⟨lnpa, rfl, rfl, hlpa⟩
  show Gg0 p l e s m below meth c n0 h0 Z p0 q1 q2 p3  5 15 h31 (mkF m 308 #[.val (.int p0), .val (.long q1), .second, .val (.long q2), .second, .val (.int p3), .val (.ref tt), .val (.ref lf), .val (.int ss), .val (.int pp), .val (.int qq), .val (.ref pc), .val (.ref st), .val (.ref pa), .unset, .unset, .unset] [(.long lnpa)])
  refine G.aload B at_308 (v := (.ref st)) rfl rfl (pc' := 310) rfl ?_
  refine G.iconst B at_310 (z := (0 : Int32)) rfl (pc' := 311) rfl ?_
  refine G.ldJ B A_st (i := 0) (by decide) (by decide) (x := (t6 0)) rfl at_311 (pc' := 312) rfl ?_
  have hc312 : lnpa = (t6 0) := hlpa.trans R7.1.symm
  refine G.lcmp_ne B at_312 rfl at_313 (by decide) (pcT := 333) (by decide) (pc' := 316) rfl (fun q => absurd hc312 q) (fun _ => ?_)
  refine G.aload B at_316 (v := (.ref pa)) rfl rfl (pc' := 318) rfl ?_
  refine G.callV (y := (⟨"com/example/libhybrid/libhybrid/text/Place", "column", "()J"⟩ : MethodName)) (a := pa) B O_pa.1 (hw _ (List.mem_of_getElem? (i := 55) rfl)) (hw _ (List.mem_of_getElem? (i := 56) rfl)) (hw _ (List.mem_of_getElem? (i := 58) rfl)) (hw _ (List.mem_of_getElem? (i := 57) rfl)) (rm := ({ frames := 0, cells := 0, slots := 0, locals := 0 } : Room)) (ws' := []) (rm10 l Z a0 hw pa σ.1 σ.2.1 _ n0 hn O_pa) (fun x hx => nomatch hx) (hw _ (List.mem_of_getElem? (i := 59) rfl)) (hw _ (List.mem_of_getElem? (i := 36) rfl)) (by decide) rfl (argsL := []) (rest := []) rfl (lenOf pd_6 rfl) (by decide) (W := 0) (Nat.le_of_eq rfl) (by decide) (by decide) (by decide) at_318 (pc' := 321) rfl ?_
  rintro _ _ K33 ⟨clpa, rfl, rfl, hkpa⟩
  show Gg0 p l e s m below meth c n0 h0 Z p0 q1 q2 p3  5 15 h31 (mkF m 321 #[.val (.int p0), .val (.long q1), .second, .val (.long q2), .second, .val (.int p3), .val (.ref tt), .val (.ref lf), .val (.int ss), .val (.int pp), .val (.int qq), .val (.ref pc), .val (.ref st), .val (.ref pa), .unset, .unset, .unset] [(.long clpa)])
  refine G.aload B at_321 (v := (.ref st)) rfl rfl (pc' := 323) rfl ?_
  refine G.iconst B at_323 (z := (1 : Int32)) rfl (pc' := 324) rfl ?_
  refine G.ldJ B A_st (i := 1) (by decide) (by decide) (x := (t6 1)) rfl at_324 (pc' := 325) rfl ?_
  have hc325 : clpa = (t6 1) := hkpa.trans R7.2.1.symm
  refine G.lcmp_ne B at_325 rfl at_326 (by decide) (pcT := 333) (by decide) (pc' := 329) rfl (fun q => absurd hc325 q) (fun _ => ?_)
  refine G.iconst B at_329 (z := (1 : Int32)) rfl (pc' := 330) rfl ?_
  refine G.goto B at_330 (by decide) (pc' := 334) (by decide) ?_
  refine G.istore B at_334 (ls' := #[.val (.int p0), .val (.long q1), .second, .val (.long q2), .second, .val (.int p3), .val (.ref tt), .val (.ref lf), .val (.int ss), .val (.int pp), .val (.int qq), .val (.ref pc), .val (.ref st), .val (.ref pa), .val (.int (1 : Int32)), .unset, .unset]) rfl (pc' := 336) rfl ?_
  refine G.aload B at_336 (v := (.ref pc)) rfl rfl (pc' := 338) rfl ?_
  refine G.aload B at_338 (v := (.ref lf)) rfl rfl (pc' := 340) rfl ?_
  refine G.iconst B at_340 (z := (0 : Int32)) rfl (pc' := 341) rfl ?_
  refine G.iconst B at_341 (z := (1 : Int32)) rfl (pc' := 342) rfl ?_
  refine G.callV (y := (⟨"com/example/libhybrid/libhybrid/text/PlaceCounter", "pass", "([CII)V"⟩ : MethodName)) (a := pc) B O_pc.1 (hw _ (List.mem_of_getElem? (i := 18) rfl)) (hw _ (List.mem_of_getElem? (i := 19) rfl)) (hw _ (List.mem_of_getElem? (i := 21) rfl)) (hw _ (List.mem_of_getElem? (i := 20) rfl)) (rm := ({ frames := 0, cells := 0, slots := 0, locals := 0 } : Room)) (ws' := [pc]) (rm4 l Z a0 hw pc lf (0 : Int32) (1 : Int32) σ 1 0 1 (up (fun _ => 0) 0 (10 : Int32)) _ n0 hn O_pc A_lf (Ne.symm ne_lf_pc) (own_fr B (Or.inr hf_pc)) (by decide) (by decide) (by decide) (by decide) (by decide)) (allS (Or.inr hf_pc) all0) (hw _ (List.mem_of_getElem? (i := 22) rfl)) (hw _ (List.mem_of_getElem? (i := 7) rfl)) (by decide) rfl (argsL := [(.ref lf), (.int (0 : Int32)), (.int (1 : Int32))]) (rest := []) rfl (lenOf pd_3 rfl) (by decide) (W := 0) (Nat.le_of_eq rfl) (by decide) (by decide) (by decide) at_342 (pc' := 345) rfl ?_
  rintro _ h34 K34 ⟨rfl, O_pc⟩
  replace hn := Nat.le_trans hn K34.1
  replace hz := Nat.le_trans hz K34.1
  replace A_tt := A_tt.keep K34 (ninS ne_tt_pc nin0)
  replace A_lf := A_lf.keep K34 (ninS ne_lf_pc nin0)
  replace A_st := A_st.keep K34 (ninS (Ne.symm ne_pc_st) nin0)
  show Gg0 p l e s m below meth c n0 h0 Z p0 q1 q2 p3  5 15 h34 (mkF m 345 #[.val (.int p0), .val (.long q1), .second, .val (.long q2), .second, .val (.int p3), .val (.ref tt), .val (.ref lf), .val (.int ss), .val (.int pp), .val (.int qq), .val (.ref pc), .val (.ref st), .val (.ref pa), .val (.int (1 : Int32)), .unset, .unset] [])
  change O_PC Z h34 pc (rn (up (fun _ => 0) 0 (10 : Int32)) 0 (1 - 0) σ).1 (rn (up (fun _ => 0) 0 (10 : Int32)) 0 (1 - 0) σ).2.1 (bi (rn (up (fun _ => 0) 0 (10 : Int32)) 0 (1 - 0) σ).2.2) at O_pc
  have e8 : (rn (up (fun _ => 0) 0 (10 : Int32)) 0 (1 - 0) σ) = stp σ 10 := rfl
  rw [e8] at O_pc
  obtain ⟨τ, eτ⟩ : ∃ z, z = stp σ 10 := ⟨_, rfl⟩
  rw [← eτ] at O_pc
  refine G.aload B at_345 (v := (.ref st)) rfl rfl (pc' := 347) rfl ?_
  refine G.bipush B at_347 (z := (10 : Int32)) rfl (pc' := 349) rfl ?_
  refine G.iconst B at_349 (z := (1 : Int32)) rfl (pc' := 350) rfl ?_
  refine G.callS (y := (⟨"com/example/libhybrid/libhybrid/text/PlaceCounterPassPinLaw", "step", "([JCZ)V"⟩ : MethodName)) B (hw _ (List.mem_of_getElem? (i := 26) rfl)) (hw _ (List.mem_of_getElem? (i := 27) rfl)) (rm := ({ frames := 0, cells := 0, slots := 0, locals := 0 } : Room)) (ws' := [st]) (rm5 l Z a0 hw st (10 : Int32) (1 : Int32) t6 _ n0 hn A_st (own_fr B (Or.inr hf_st))) (allS (Or.inr hf_st) all0) (hw _ (List.mem_of_getElem? (i := 28) rfl)) (hw _ (List.mem_of_getElem? (i := 3) rfl)) (by decide) rfl (argsL := [(.ref st), (.int (10 : Int32)), (.int (1 : Int32))]) (rest := []) rfl (lenOf pd_4 rfl) (by decide) (W := 0) (Nat.le_of_eq rfl) (by decide) (by decide) (by decide) at_350 (pc' := 353) rfl ?_
  rintro _ h35 K35 ⟨rfl, t7, A_st, ht7⟩
  replace hn := Nat.le_trans hn K35.1
  replace hz := Nat.le_trans hz K35.1
  replace A_tt := A_tt.keep K35 (ninS ne_tt_st nin0)
  replace A_lf := A_lf.keep K35 (ninS ne_lf_st nin0)
  replace O_pc := O_pc.keep K35 (ninS ne_pc_st nin0)
  show Gg0 p l e s m below meth c n0 h0 Z p0 q1 q2 p3  5 15 h35 (mkF m 353 #[.val (.int p0), .val (.long q1), .second, .val (.long q2), .second, .val (.int p3), .val (.ref tt), .val (.ref lf), .val (.int ss), .val (.int pp), .val (.int qq), .val (.ref pc), .val (.ref st), .val (.ref pa), .val (.int (1 : Int32)), .unset, .unset] [])
  have R8 : Rr t7 τ := by
    rw [eτ]
    rcases ht7 with ⟨q, _⟩ | ⟨_, q⟩
    · exact absurd q (by decide)
    · exact own_sp R7 q
  refine G.aload B at_353 (v := (.ref pc)) rfl rfl (pc' := 355) rfl ?_
  refine G.callV (y := (⟨"com/example/libhybrid/libhybrid/text/PlaceCounter", "place", "()Lcom/example/libhybrid/libhybrid/text/Place;"⟩ : MethodName)) (a := pc) B O_pc.1 (hw _ (List.mem_of_getElem? (i := 29) rfl)) (hw _ (List.mem_of_getElem? (i := 30) rfl)) (hw _ (List.mem_of_getElem? (i := 32) rfl)) (hw _ (List.mem_of_getElem? (i := 31) rfl)) (rm := ({ frames := 3, cells := 1, slots := 2, locals := 41 } : Room)) (ws' := []) (rm6 l Z a0 hw pc τ.1 τ.2.1 (bi τ.2.2) _ n0 hn O_pc) (fun x hx => nomatch hx) (hw _ (List.mem_of_getElem? (i := 33) rfl)) (hw _ (List.mem_of_getElem? (i := 7) rfl)) (by decide) rfl (argsL := []) (rest := []) rfl (lenOf pd_5 rfl) (by decide) (W := 0) (Nat.le_of_eq rfl) (by decide) (by decide) (by decide) at_355 (pc' := 358) rfl ?_
  rintro _ h36 K36 ⟨pb, rfl, O_pb⟩
  replace hn := Nat.le_trans hn K36.1
  replace hz := Nat.le_trans hz K36.1
  replace A_tt := A_tt.keep K36 nin0
  replace A_lf := A_lf.keep K36 nin0
  replace O_pc := O_pc.keep K36 nin0
  replace A_st := A_st.keep K36 nin0
  show Gg0 p l e s m below meth c n0 h0 Z p0 q1 q2 p3  6 17 h36 (mkF m 358 #[.val (.int p0), .val (.long q1), .second, .val (.long q2), .second, .val (.int p3), .val (.ref tt), .val (.ref lf), .val (.int ss), .val (.int pp), .val (.int qq), .val (.ref pc), .val (.ref st), .val (.ref pa), .val (.int (1 : Int32)), .unset, .unset] [(.ref pb)])
  refine G.astore B at_358 rfl (ls' := #[.val (.int p0), .val (.long q1), .second, .val (.long q2), .second, .val (.int p3), .val (.ref tt), .val (.ref lf), .val (.int ss), .val (.int pp), .val (.int qq), .val (.ref pc), .val (.ref st), .val (.ref pa), .val (.int (1 : Int32)), .val (.ref pb), .unset]) rfl (pc' := 360) rfl ?_
  refine G.aload B at_360 (v := (.ref pb)) rfl rfl (pc' := 362) rfl ?_
  refine G.callV (y := (⟨"com/example/libhybrid/libhybrid/text/Place", "line", "()J"⟩ : MethodName)) (a := pb) B O_pb.1 (hw _ (List.mem_of_getElem? (i := 50) rfl)) (hw _ (List.mem_of_getElem? (i := 51) rfl)) (hw _ (List.mem_of_getElem? (i := 53) rfl)) (hw _ (List.mem_of_getElem? (i := 52) rfl)) (rm := ({ frames := 0, cells := 0, slots := 0, locals := 0 } : Room)) (ws' := []) (rm9 l Z a0 hw pb τ.1 τ.2.1 _ n0 hn O_pb) (fun x hx => nomatch hx) (hw _ (List.mem_of_getElem? (i := 54) rfl)) (hw _ (List.mem_of_getElem? (i := 36) rfl)) (by decide) rfl (argsL := []) (rest := []) rfl (lenOf pd_6 rfl) (by decide) (W := 0) (Nat.le_of_eq rfl) (by decide) (by decide) (by decide) at_362 (pc' := 365) rfl ?_
  rintro _ _ K37 ⟨lnpb, rfl, rfl, hlpb⟩
  show Gg0 p l e s m below meth c n0 h0 Z p0 q1 q2 p3  6 17 h36 (mkF m 365 #[.val (.int p0), .val (.long q1), .second, .val (.long q2), .second, .val (.int p3), .val (.ref tt), .val (.ref lf), .val (.int ss), .val (.int pp), .val (.int qq), .val (.ref pc), .val (.ref st), .val (.ref pa), .val (.int (1 : Int32)), .val (.ref pb), .unset] [(.long lnpb)])
  refine G.aload B at_365 (v := (.ref st)) rfl rfl (pc' := 367) rfl ?_
  refine G.iconst B at_367 (z := (0 : Int32)) rfl (pc' := 368) rfl ?_
  refine G.ldJ B A_st (i := 0) (by decide) (by decide) (x := (t7 0)) rfl at_368 (pc' := 369) rfl ?_
  have hc369 : lnpb = (t7 0) := hlpb.trans R8.1.symm
  refine G.lcmp_ne B at_369 rfl at_370 (by decide) (pcT := 390) (by decide) (pc' := 373) rfl (fun q => absurd hc369 q) (fun _ => ?_)
  refine G.aload B at_373 (v := (.ref pb)) rfl rfl (pc' := 375) rfl ?_
  refine G.callV (y := (⟨"com/example/libhybrid/libhybrid/text/Place", "column", "()J"⟩ : MethodName)) (a := pb) B O_pb.1 (hw _ (List.mem_of_getElem? (i := 55) rfl)) (hw _ (List.mem_of_getElem? (i := 56) rfl)) (hw _ (List.mem_of_getElem? (i := 58) rfl)) (hw _ (List.mem_of_getElem? (i := 57) rfl)) (rm := ({ frames := 0, cells := 0, slots := 0, locals := 0 } : Room)) (ws' := []) (rm10 l Z a0 hw pb τ.1 τ.2.1 _ n0 hn O_pb) (fun x hx => nomatch hx) (hw _ (List.mem_of_getElem? (i := 59) rfl)) (hw _ (List.mem_of_getElem? (i := 36) rfl)) (by decide) rfl (argsL := []) (rest := []) rfl (lenOf pd_6 rfl) (by decide) (W := 0) (Nat.le_of_eq rfl) (by decide) (by decide) (by decide) at_375 (pc' := 378) rfl ?_
  rintro _ _ K38 ⟨clpb, rfl, rfl, hkpb⟩
  show Gg0 p l e s m below meth c n0 h0 Z p0 q1 q2 p3  6 17 h36 (mkF m 378 #[.val (.int p0), .val (.long q1), .second, .val (.long q2), .second, .val (.int p3), .val (.ref tt), .val (.ref lf), .val (.int ss), .val (.int pp), .val (.int qq), .val (.ref pc), .val (.ref st), .val (.ref pa), .val (.int (1 : Int32)), .val (.ref pb), .unset] [(.long clpb)])
  refine G.aload B at_378 (v := (.ref st)) rfl rfl (pc' := 380) rfl ?_
  refine G.iconst B at_380 (z := (1 : Int32)) rfl (pc' := 381) rfl ?_
  refine G.ldJ B A_st (i := 1) (by decide) (by decide) (x := (t7 1)) rfl at_381 (pc' := 382) rfl ?_
  have hc382 : clpb = (t7 1) := hkpb.trans R8.2.1.symm
  refine G.lcmp_ne B at_382 rfl at_383 (by decide) (pcT := 390) (by decide) (pc' := 386) rfl (fun q => absurd hc382 q) (fun _ => ?_)
  refine G.iconst B at_386 (z := (1 : Int32)) rfl (pc' := 387) rfl ?_
  refine G.goto B at_387 (by decide) (pc' := 391) (by decide) ?_
  refine G.istore B at_391 (ls' := #[.val (.int p0), .val (.long q1), .second, .val (.long q2), .second, .val (.int p3), .val (.ref tt), .val (.ref lf), .val (.int ss), .val (.int pp), .val (.int qq), .val (.ref pc), .val (.ref st), .val (.ref pa), .val (.int (1 : Int32)), .val (.ref pb), .val (.int (1 : Int32))]) rfl (pc' := 393) rfl ?_
  refine G.iload B at_393 (v := (1 : Int32)) rfl (pc' := 395) rfl ?_
  have hc395 : (1 : Int32) ≠ 0 := by decide
  refine G.if_eq B at_395 (by decide) (pcT := 407) (by decide) (pc' := 398) rfl (fun q => absurd q hc395) (fun _ => ?_)
  refine G.iload B at_398 (v := (1 : Int32)) rfl (pc' := 400) rfl ?_
  have hc400 : (1 : Int32) ≠ 0 := by decide
  refine G.if_eq B at_400 (by decide) (pcT := 407) (by decide) (pc' := 403) rfl (fun q => absurd q hc400) (fun _ => ?_)
  refine G.iconst B at_403 (z := (1 : Int32)) rfl (pc' := 404) rfl ?_
  refine G.goto B at_404 (by decide) (pc' := 408) (by decide) ?_
  exact G.retZ B at_408 (by decide) (by decide) (Or.inr rfl) rfl
set_option maxRecDepth 65536 in
set_option maxHeartbeats 40000000 in
theorem comes_1 {Post : Tables → Env → Array Value → State → Outcome → State → Prop} (hpost : ∀ tb e args s v u, (limb_1_1.after args s (.returned v) u = true ∧ limb_1_2.after args s (.returned v) u = true ∧ True) → FrameEnd s (.returned v) u (Jvm.fieldLocs frame_1_writes args s ++ Jvm.arrayLocs frame_1_arrays args s ++ Jvm.staticLocs frame_1_statics s) 24 128 → Post tb e args s (.returned v) u) :
    ArmFor flags0 classFile x code maxLocals ret World_1 tables_1 room_1 Calls_1 rest_1 Pre_1 Post := by
  intro l hfl _ _ p e ha hc hk s m args below hf hA hF happ hP
  obtain ⟨hcalls, hrest, hpre⟩ := hP
  obtain ⟨-, -, -, hnamed, -, -, -, hat⟩ := (Spec.applies_iff hf).mp happ
  obtain ⟨hg, hn⟩ := and_e (Cond.before_iff.mp (show (Jvm.Cond.and given_1 narrow_1).before args s = true from hpre))
  obtain ⟨hq0, hg0⟩ := and_e hg
  obtain ⟨hq1, hg1⟩ := and_e hg0
  obtain ⟨hq2, hg2⟩ := and_e hg1
  obtain ⟨hq3, hg3⟩ := and_e hg2
  obtain ⟨w0, w1, w2, w3, rfl⟩ : ∃ w0 w1 w2 w3 : Value, args = #[w0, w1, w2, w3] := by
    have hs : args.size = 4 := by simpa [Cond.value, given_1] using hq0
    obtain ⟨L⟩ := args
    match L, hs with
    | [w0, w1, w2, w3], _ => exact ⟨w0, w1, w2, w3, rfl⟩
  have hw := fun d (hd : d ∈ tables_1) => atoms_spec (ws := Jvm.Cond.code x code maxLocals ret :: tables_1) hat d (List.mem_cons_of_mem _ hd)
  obtain ⟨i0, e0⟩ := is_v hq1
  obtain rfl : w0 = (.int i0) := Option.some.inj e0
  obtain ⟨i1, e1⟩ := isL_v hq2
  obtain rfl : w1 = (.long i1) := Option.some.inj e1
  obtain ⟨i2, e2⟩ := isL_v hq3
  obtain rfl : w2 = (.long i2) := Option.some.inj e2
  obtain ⟨i3, e3⟩ := is_v hg3
  obtain rfl : w3 = (.int i3) := Option.some.inj e3
  obtain ⟨n, o, h1, h2, h3, _, L, rfl, ⟨N, -, _, rfl, rfl⟩, hq⟩ := rm0 l s _ hw i0 i1 i2 i3 s.heap s.heap.size (Nat.le_refl _) p e ha hc hk s m _ below hf ((Spec.applies_iff_loose hf).mp happ).1 ⟨rfl, State.Warmed39.refl s, rfl⟩ trivial
  refine ⟨n, _, h1, h2, h3, hpost _ _ _ _ _ _ ⟨Cond.after_iff.mpr rfl, Cond.after_iff.mpr (eq_i res_at (Term.int_eval (1)) rfl), trivial⟩ ⟨hq.1, hq.2.1, (hq.2.2.sift fun y hy => Or.inr (N y hy)).mono (by decide) (by decide)⟩⟩
theorem main_1_1 : Claimed_1_1 := comes_1 fun _ _ _ _ _ _ h hF => ⟨h.1, hF⟩
theorem main_1_2 : Claimed_1_2 := comes_1 fun _ _ _ _ _ _ h hF => ⟨h.2.1, hF⟩
end Jvm.Pilot.@@N@@
namespace Jvm.Pilot.@@N@@
open Jvm Jvm.ClassFile Sem Op Lib Jvm.Free Jvm.Stand Jvm.Pilot.@@N@@.Jvm.D
/-! MADE BY PROGRAM (witnessworld.py) out of the Statement's table words and the real class files: 15 classes; the members and pool entries that the words name. The judged class is class 1, her method 3. -/
namespace start1
open Jvm.ClassFile
def u (s : String) : CpInfo := .utf8 (stringToUtf16 s)
/-- a pool by its gaps: so many unusable entries, then the entry; so many at the end -/
def gap : Nat → List CpInfo → List CpInfo
  | 0, r => r
  | n + 1, r => .unusable :: gap n r
def poolList (es : List (Nat × CpInfo)) (last : Nat) : List CpInfo := es.foldr (fun e r => gap e.1 (e.2 :: r)) (gap last [])
def pool (es : List (Nat × CpInfo)) (last : Nat) : Array CpInfo := ⟨poolList es last⟩
def fileOf (pool : Array CpInfo) (this : Nat) (attrs : Array Attribute := #[]) (ms : Array MethodInfo := #[]) (fl : Nat := 33) (sup : Nat := 0) (ifs : Array Nat := #[]) (fds : Array FieldInfo := #[]) : ClassFile where
  minorVersion := 0
  majorVersion := 65
  constantPool := pool
  accessFlags := fl
  thisClass := this
  superClass := sup
  interfaces := ifs
  fields := fds
  methods := ms
  attributes := attrs
def plain (name : String) (sup : Option ClassId) : Class where
  name := name
  kind := .ordinary
  loader := none
  accessFlags := 33
  super := sup
  interfaces := #[]
  cf := none
  fields := #[]
  methods := #[]
  instanceTypes := #[]
  staticTypes := #[]
  resolved := #[]
  callSites := []
  init := .initialized
  statics := none
  mirror := none

def pool0 : Array CpInfo := pool [(5, u "<init>"), (0, u "()V"), (1, .class_ 10), (1, u "java/lang/Object")] 113

def k0c0 : Code := { maxStack := 0, maxLocals := 1, code := object_method_1_code, exceptionTable := #[], attributes := #[] }
def k0m0 : Method := { name := "<init>", desc := "()V", sig := { parameters := [], returnType := none }, accessFlags := 1, code := some k0c0 }
/-- java/lang/Object -/
def k0 : Class := { plain "java/lang/Object" none with
  accessFlags := 33
  interfaces := #[]
  cf := some (fileOf pool0 8 #[] #[{ accessFlags := 1, nameIndex := 5, descriptorIndex := 6, attributes := #[] }] 33 0 #[] #[])
  fields := #[]
  methods := #[k0m0]
  instanceTypes := #[]
  staticTypes := #[]
  resolved := Array.replicate 124 none
  statics := none }

def pool1 : Array CpInfo := pool [(2, .class_ 4), (0, .nameAndType 5 6), (0, u "java/lang/Object"), (0, u "<init>"), (0, u "()V"), (0, .long 65535), (1, .methodref 10 11), (0, .class_ 12), (0, .nameAndType 13 14), (0, u "com/example/libhybrid/libhybrid/text/PlaceCounterPassPinLaw"), (0, u "mk"), (0, u "(IJ)C"), (0, .class_ 16), (0, u "com/example/libhybrid/libhybrid/text/PlaceCounter"), (0, .methodref 15 3), (0, .methodref 15 19), (0, .nameAndType 20 21), (0, u "pass"), (0, u "([CII)V"), (0, .methodref 10 23), (0, .nameAndType 24 25), (0, u "step"), (0, u "([JCZ)V"), (0, .methodref 15 27), (0, .nameAndType 28 29), (0, u "place"), (0, u "()Lcom/example/libhybrid/libhybrid/text/Place;"), (0, .methodref 31 32), (0, .class_ 33), (0, .nameAndType 34 35), (0, u "com/example/libhybrid/libhybrid/text/Place"), (0, u "line"), (0, u "()J"), (0, .methodref 31 37), (0, .nameAndType 38 35), (0, u "column"), (3, u "law"), (0, u "(IJJI)Z")] 6

def k1m0 : Method := { name := "<init>", desc := "()V", sig := { parameters := [], returnType := none }, accessFlags := 1, code := none }
def k1c1 : Code := { maxStack := 4, maxLocals := 4, code := method_2_code, exceptionTable := #[], attributes := #[] }
def k1m1 : Method := { name := "mk", desc := "(IJ)C", sig := { parameters := [.int, .long], returnType := some .char }, accessFlags := 10, code := some k1c1 }
def k1c2 : Code := { maxStack := 6, maxLocals := 3, code := method_3_code, exceptionTable := #[], attributes := #[] }
def k1m2 : Method := { name := "step", desc := "([JCZ)V", sig := { parameters := [(.array .long), .char, .boolean], returnType := none }, accessFlags := 10, code := some k1c2 }
def k1c3 : Code := { maxStack := 6, maxLocals := 17, code := code, exceptionTable := #[], attributes := #[] }
def k1m3 : Method := { name := "law", desc := "(IJJI)Z", sig := { parameters := [.int, .long, .long, .int], returnType := some .boolean }, accessFlags := 9, code := some k1c3 }
/-- com/example/libhybrid/libhybrid/text/PlaceCounterPassPinLaw -/
def k1 : Class := { plain "com/example/libhybrid/libhybrid/text/PlaceCounterPassPinLaw" (some 0) with
  accessFlags := 49
  interfaces := #[]
  cf := some (fileOf pool1 10 #[] #[{ accessFlags := 1, nameIndex := 5, descriptorIndex := 6, attributes := #[] }, { accessFlags := 10, nameIndex := 13, descriptorIndex := 14, attributes := #[] }, { accessFlags := 10, nameIndex := 24, descriptorIndex := 25, attributes := #[] }, { accessFlags := 9, nameIndex := 42, descriptorIndex := 43, attributes := #[] }] 49 2 #[] #[])
  fields := #[]
  methods := #[k1m0, k1m1, k1m2, k1m3]
  instanceTypes := #[]
  staticTypes := #[]
  resolved := Array.replicate 50 none
  statics := none }

def pool2 : Array CpInfo := pool [(1, .methodref 2 3), (0, .class_ 4), (0, .nameAndType 5 6), (0, u "java/lang/Object"), (0, u "<init>"), (0, u "()V"), (0, .fieldref 8 9), (0, .class_ 10), (0, .nameAndType 11 12), (0, u "com/example/libhybrid/libhybrid/text/PlaceCounter"), (0, u "line"), (0, u "J"), (0, .fieldref 8 14), (0, .nameAndType 15 12), (0, u "column"), (0, .fieldref 8 17), (0, .nameAndType 18 19), (0, u "afterCarriageReturn"), (0, u "Z"), (1, .class_ 22), (0, u "com/example/libhybrid/libhybrid/text/Place"), (0, .methodref 21 24), (0, .nameAndType 5 25), (0, u "(JJ)V"), (2, u "place"), (0, u "()Lcom/example/libhybrid/libhybrid/text/Place;"), (6, u "pass"), (0, u "([CII)V")] 7

def k2c0 : Code := { maxStack := 3, maxLocals := 1, code := prog_114_method_1_code, exceptionTable := #[], attributes := #[] }
def k2m0 : Method := { name := "<init>", desc := "()V", sig := { parameters := [], returnType := none }, accessFlags := 1, code := some k2c0 }
def k2c1 : Code := { maxStack := 5, maxLocals := 7, code := prog_114_method_2_code, exceptionTable := #[], attributes := #[] }
def k2m1 : Method := { name := "pass", desc := "([CII)V", sig := { parameters := [(.array .char), .int, .int], returnType := none }, accessFlags := 1, code := some k2c1 }
def k2c2 : Code := { maxStack := 6, maxLocals := 1, code := prog_114_method_4_code, exceptionTable := #[], attributes := #[] }
def k2m2 : Method := { name := "place", desc := "()Lcom/example/libhybrid/libhybrid/text/Place;", sig := { parameters := [], returnType := some (.object "com/example/libhybrid/libhybrid/text/Place") }, accessFlags := 1, code := some k2c2 }
/-- com/example/libhybrid/libhybrid/text/PlaceCounter -/
def k2 : Class := { plain "com/example/libhybrid/libhybrid/text/PlaceCounter" (some 0) with
  accessFlags := 49
  interfaces := #[]
  cf := some (fileOf pool2 8 #[] #[{ accessFlags := 1, nameIndex := 5, descriptorIndex := 6, attributes := #[] }, { accessFlags := 1, nameIndex := 36, descriptorIndex := 37, attributes := #[] }, { accessFlags := 1, nameIndex := 28, descriptorIndex := 29, attributes := #[] }] 49 2 #[] #[{ accessFlags := 2, nameIndex := 11, descriptorIndex := 12, attributes := #[] }, { accessFlags := 2, nameIndex := 15, descriptorIndex := 12, attributes := #[] }, { accessFlags := 2, nameIndex := 18, descriptorIndex := 19, attributes := #[] }])
  fields := #[{ name := "line", type := .long, accessFlags := 2, slot := 0, constantValue := 0 }, { name := "column", type := .long, accessFlags := 2, slot := 1, constantValue := 0 }, { name := "afterCarriageReturn", type := .boolean, accessFlags := 2, slot := 2, constantValue := 0 }]
  methods := #[k2m0, k2m1, k2m2]
  instanceTypes := #[.long, .long, .boolean]
  staticTypes := #[]
  resolved := Array.replicate 45 none
  statics := none }

def pool3 : Array CpInfo := pool [(1, .methodref 2 3), (0, .class_ 4), (0, .nameAndType 5 6), (0, u "java/lang/Object"), (0, u "<init>"), (0, u "()V"), (0, .class_ 8), (0, u "java/lang/Record")] 13

def k3c0 : Code := { maxStack := 1, maxLocals := 1, code := jdk_30_method_1_code, exceptionTable := #[], attributes := #[] }
def k3m0 : Method := { name := "<init>", desc := "()V", sig := { parameters := [], returnType := none }, accessFlags := 4, code := some k3c0 }
/-- java/lang/Record -/
def k3 : Class := { plain "java/lang/Record" (some 0) with
  accessFlags := 1057
  interfaces := #[]
  cf := some (fileOf pool3 7 #[] #[{ accessFlags := 4, nameIndex := 5, descriptorIndex := 6, attributes := #[] }] 1057 2 #[] #[])
  fields := #[]
  methods := #[k3m0]
  instanceTypes := #[]
  staticTypes := #[]
  resolved := Array.replicate 22 none
  statics := none }

def pool4 : Array CpInfo := pool [(1, .methodref 2 3), (0, .class_ 4), (0, .nameAndType 5 6), (0, u "java/lang/Record"), (0, u "<init>"), (0, u "()V"), (0, .fieldref 8 9), (0, .class_ 10), (0, .nameAndType 11 12), (0, u "com/example/libhybrid/libhybrid/text/Place"), (0, u "line"), (0, u "J"), (0, .fieldref 8 14), (0, .nameAndType 15 12), (0, u "column"), (12, u "(JJ)V"), (7, u "()J")] 29

def k4c0 : Code := { maxStack := 3, maxLocals := 5, code := prog_113_method_1_code, exceptionTable := #[], attributes := #[] }
def k4m0 : Method := { name := "<init>", desc := "(JJ)V", sig := { parameters := [.long, .long], returnType := none }, accessFlags := 1, code := some k4c0 }
def k4c1 : Code := { maxStack := 2, maxLocals := 1, code := prog_113_method_5_code, exceptionTable := #[], attributes := #[] }
def k4m1 : Method := { name := "line", desc := "()J", sig := { parameters := [], returnType := some .long }, accessFlags := 1, code := some k4c1 }
def k4c2 : Code := { maxStack := 2, maxLocals := 1, code := prog_113_method_6_code, exceptionTable := #[], attributes := #[] }
def k4m2 : Method := { name := "column", desc := "()J", sig := { parameters := [], returnType := some .long }, accessFlags := 1, code := some k4c2 }
/-- com/example/libhybrid/libhybrid/text/Place -/
def k4 : Class := { plain "com/example/libhybrid/libhybrid/text/Place" (some 3) with
  accessFlags := 49
  interfaces := #[]
  cf := some (fileOf pool4 8 #[] #[{ accessFlags := 1, nameIndex := 5, descriptorIndex := 28, attributes := #[] }, { accessFlags := 1, nameIndex := 11, descriptorIndex := 36, attributes := #[] }, { accessFlags := 1, nameIndex := 15, descriptorIndex := 36, attributes := #[] }] 49 2 #[] #[{ accessFlags := 18, nameIndex := 11, descriptorIndex := 12, attributes := #[] }, { accessFlags := 18, nameIndex := 15, descriptorIndex := 12, attributes := #[] }])
  fields := #[{ name := "line", type := .long, accessFlags := 18, slot := 0, constantValue := 0 }, { name := "column", type := .long, accessFlags := 18, slot := 1, constantValue := 0 }]
  methods := #[k4m0, k4m1, k4m2]
  instanceTypes := #[.long, .long]
  staticTypes := #[]
  resolved := Array.replicate 66 none
  statics := none }

def pool5 : Array CpInfo := pool [(1, u "java/lang/Cloneable"), (0, .class_ 1), (0, u "java/lang/Object"), (0, .class_ 3)] 3

/-- java/lang/Cloneable -/
def k5 : Class := { plain "java/lang/Cloneable" (some 0) with
  accessFlags := 1537
  interfaces := #[]
  cf := some (fileOf pool5 2 #[] #[] 1537 4 #[] #[])
  fields := #[]
  methods := #[]
  instanceTypes := #[]
  staticTypes := #[]
  resolved := Array.replicate 8 none
  statics := none }

def pool6 : Array CpInfo := pool [(1, u "java/io/Serializable"), (0, .class_ 1), (0, u "java/lang/Object"), (0, .class_ 3)] 3

/-- java/io/Serializable -/
def k6 : Class := { plain "java/io/Serializable" (some 0) with
  accessFlags := 1537
  interfaces := #[]
  cf := some (fileOf pool6 2 #[] #[] 1537 4 #[] #[])
  fields := #[]
  methods := #[]
  instanceTypes := #[]
  staticTypes := #[]
  resolved := Array.replicate 8 none
  statics := none }

/-- the primitive byte -/
def k7 : Class := { plain "byte" none with kind := .primitive 'B', accessFlags := 0x411 }
/-- [B -/
def k8 : Class := { plain "[B" (some 0) with kind := .array 7 .byte, interfaces := #[5, 6], accessFlags := 1041 }

/-- the primitive char -/
def k9 : Class := { plain "char" none with kind := .primitive 'C', accessFlags := 0x411 }
/-- [C -/
def k10 : Class := { plain "[C" (some 0) with kind := .array 9 .char, interfaces := #[5, 6], accessFlags := 1041 }

/-- the primitive int -/
def k11 : Class := { plain "int" none with kind := .primitive 'I', accessFlags := 0x411 }
/-- [I -/
def k12 : Class := { plain "[I" (some 0) with kind := .array 11 .int, interfaces := #[5, 6], accessFlags := 1041 }

/-- the primitive long -/
def k13 : Class := { plain "long" none with kind := .primitive 'J', accessFlags := 0x411 }
/-- [J -/
def k14 : Class := { plain "[J" (some 0) with kind := .array 13 .long, interfaces := #[5, 6], accessFlags := 1041 }

def heap : Heap := #[]
def classes : Array Class := #[k0, k1, k2, k3, k4, k5, k6, k7, k8, k9, k10, k11, k12, k13, k14]
def interned : List (Array UInt16 × Addr) := []
def slotsUsed : Nat := 0
def theMethod : MethodId := ⟨1, 3⟩
def args0 : Array Value := #[.int 5, .long 7, .long 3, .int 1]
def aboutOver (below : List Frame) : State where
  vm := { classes := classes, interned := interned.toArray }
  heap := heap
  slotsUsed := slotsUsed
  threads := #[{ frames := .invoking theMethod args0 :: below }]
def below0 : List Frame := [.native { method := ⟨0, 0⟩, args := #[] }]
def about1 : State := aboutOver below0
def p0 : Program := .bare "" "" ""
def e0 : Env := launch0.env 0 0 0
theorem w_frames : about1.frames = Frame.invoking theMethod args0 :: below0 := rfl
set_option maxRecDepth 65536 in
theorem w_args : argsFit about1.vm theMethod args0 = true := by decide +kernel
set_option maxRecDepth 65536 in
theorem w_heap : heapFits about1 = true := by decide +kernel
set_option maxRecDepth 65536 in
theorem w_runnable : about1.curStatus? = some .runnable := by decide +kernel
set_option maxRecDepth 65536 in
theorem w_alone : about1.alone = true := by decide +kernel
set_option maxRecDepth 65536 in
theorem w_named : about1.methodNamed? x = some theMethod := by decide +kernel
set_option maxRecDepth 65536 in
theorem w_hears : about1.hears theMethod below0 = true := by decide +kernel
set_option maxRecDepth 65536 in
theorem w_ripe : about1.ripe theMethod args0 below0 = true := by decide +kernel
theorem w_running : about1.status = .running := rfl
set_option maxRecDepth 65536 in
theorem w_room : about1.hasRoom e0.platform room_1 = true :=
  launch0.hasRoom_least _ room_1 (by decide +kernel) (by decide +kernel) (by decide +kernel) (by decide +kernel) (by decide +kernel) (by decide +kernel)
theorem allAtoms_all (ts : List Jvm.Cond) (a : Array Jvm.Value) (st : Jvm.State) : (allAtoms ts).before a st = ts.all (fun c => c.before a st) := by
  induction ts with
  | nil => rfl
  | cons c t ih =>
    show (Jvm.Cond.and c (allAtoms t)).before a st = _
    rw [Jvm.Cond.before_and, ih, List.all_cons]
def words1 : List Jvm.Cond := Jvm.Cond.code x code maxLocals ret :: tables_1
/-- a 'code' word, met by the world's own term for the bytes: nothing is compared byte by byte -/
theorem code_word {y : MethodName} {bytes : ByteArray} {mx : Nat} {rt : Option FieldType} {a : Array Value} {s : State} {m : MethodId} {meth : Method} {c : Code} (h1 : s.methodNamed? y = some m) (h2 : s.vm.method? m = some meth) (h3 : meth.code = some c) (h4 : c.code = bytes)
    (h5 : (c.maxLocals == mx && c.exceptionTable.isEmpty && decide (c.maxStack ≤ mostOperands) && decide (meth.sig.returnType = rt) && !meth.locks && decide (parseMethodDescriptor y.desc = some meth.sig)) = true) : (Jvm.Cond.code y bytes mx rt).before a s = true := by
  simp only [Bool.and_eq_true, beq_iff_eq, Bool.not_eq_true', decide_eq_true_eq] at h5
  obtain ⟨⟨⟨⟨⟨g1, g2⟩, g3⟩, g4⟩, g5⟩, g6⟩ := h5
  simp [Cond.before, Cond.holds, Cond.value, h1, h2, h3, h4, g1, g2, g3, g4, g5, g6]
def isCode : Jvm.Cond → Bool
  | .code _ _ _ _ => true
  | _ => false
theorem all_split {L : List Jvm.Cond} {P : Jvm.Cond → Bool} (h1 : L.all (fun c => isCode c || P c) = true) (h2 : ∀ c ∈ L.filter isCode, P c = true) : L.all P = true := by
  refine List.all_eq_true.mpr fun c hc => ?_
  have h := List.all_eq_true.mp h1 c hc
  rcases Bool.eq_false_or_eq_true (isCode c) with hi | hi
  · exact h2 c (List.mem_filter.mpr ⟨hc, hi⟩)
  · simpa [hi] using h
set_option maxRecDepth 65536 in
theorem w_c0 : (Jvm.Cond.code x code maxLocals ret).before args0 about1 = true := code_word (m := ⟨1, 3⟩) (meth := k1m3) (c := k1c3) (by decide +kernel) rfl rfl rfl (by decide +kernel)
set_option maxRecDepth 65536 in
theorem w_c1 : (Jvm.Cond.code ({ cls := "com/example/libhybrid/libhybrid/text/PlaceCounterPassPinLaw", name := "mk", desc := "(IJ)C" } : Jvm.MethodName) method_2_code (4 : Nat) (Option.some Jvm.ClassFile.FieldType.char)).before args0 about1 = true := code_word (m := ⟨1, 1⟩) (meth := k1m1) (c := k1c1) (by decide +kernel) rfl rfl rfl (by decide +kernel)
set_option maxRecDepth 65536 in
theorem w_c2 : (Jvm.Cond.code ({ cls := "com/example/libhybrid/libhybrid/text/PlaceCounter", name := "<init>", desc := "()V" } : Jvm.MethodName) prog_114_method_1_code (1 : Nat) (Option.none : Option Jvm.ClassFile.FieldType)).before args0 about1 = true := code_word (m := ⟨2, 0⟩) (meth := k2m0) (c := k2c0) (by decide +kernel) rfl rfl rfl (by decide +kernel)
set_option maxRecDepth 65536 in
theorem w_c3 : (Jvm.Cond.code ({ cls := "java/lang/Object", name := "<init>", desc := "()V" } : Jvm.MethodName) object_method_1_code (1 : Nat) (Option.none : Option Jvm.ClassFile.FieldType)).before args0 about1 = true := code_word (m := ⟨0, 0⟩) (meth := k0m0) (c := k0c0) (by decide +kernel) rfl rfl rfl (by decide +kernel)
set_option maxRecDepth 65536 in
theorem w_c4 : (Jvm.Cond.code ({ cls := "com/example/libhybrid/libhybrid/text/PlaceCounter", name := "pass", desc := "([CII)V" } : Jvm.MethodName) prog_114_method_2_code (7 : Nat) (Option.none : Option Jvm.ClassFile.FieldType)).before args0 about1 = true := code_word (m := ⟨2, 1⟩) (meth := k2m1) (c := k2c1) (by decide +kernel) rfl rfl rfl (by decide +kernel)
set_option maxRecDepth 65536 in
theorem w_c5 : (Jvm.Cond.code ({ cls := "com/example/libhybrid/libhybrid/text/PlaceCounterPassPinLaw", name := "step", desc := "([JCZ)V" } : Jvm.MethodName) method_3_code (3 : Nat) (Option.none : Option Jvm.ClassFile.FieldType)).before args0 about1 = true := code_word (m := ⟨1, 2⟩) (meth := k1m2) (c := k1c2) (by decide +kernel) rfl rfl rfl (by decide +kernel)
set_option maxRecDepth 65536 in
theorem w_c6 : (Jvm.Cond.code ({ cls := "com/example/libhybrid/libhybrid/text/PlaceCounter", name := "place", desc := "()Lcom/example/libhybrid/libhybrid/text/Place;" } : Jvm.MethodName) prog_114_method_4_code (1 : Nat) (Option.some (Jvm.ClassFile.FieldType.object "com/example/libhybrid/libhybrid/text/Place"))).before args0 about1 = true := code_word (m := ⟨2, 2⟩) (meth := k2m2) (c := k2c2) (by decide +kernel) rfl rfl rfl (by decide +kernel)
set_option maxRecDepth 65536 in
theorem w_c7 : (Jvm.Cond.code ({ cls := "com/example/libhybrid/libhybrid/text/Place", name := "<init>", desc := "(JJ)V" } : Jvm.MethodName) prog_113_method_1_code (5 : Nat) (Option.none : Option Jvm.ClassFile.FieldType)).before args0 about1 = true := code_word (m := ⟨4, 0⟩) (meth := k4m0) (c := k4c0) (by decide +kernel) rfl rfl rfl (by decide +kernel)
set_option maxRecDepth 65536 in
theorem w_c8 : (Jvm.Cond.code ({ cls := "java/lang/Record", name := "<init>", desc := "()V" } : Jvm.MethodName) jdk_30_method_1_code (1 : Nat) (Option.none : Option Jvm.ClassFile.FieldType)).before args0 about1 = true := code_word (m := ⟨3, 0⟩) (meth := k3m0) (c := k3c0) (by decide +kernel) rfl rfl rfl (by decide +kernel)
set_option maxRecDepth 65536 in
theorem w_c9 : (Jvm.Cond.code ({ cls := "com/example/libhybrid/libhybrid/text/Place", name := "line", desc := "()J" } : Jvm.MethodName) prog_113_method_5_code (1 : Nat) (Option.some Jvm.ClassFile.FieldType.long)).before args0 about1 = true := code_word (m := ⟨4, 1⟩) (meth := k4m1) (c := k4c1) (by decide +kernel) rfl rfl rfl (by decide +kernel)
set_option maxRecDepth 65536 in
theorem w_c10 : (Jvm.Cond.code ({ cls := "com/example/libhybrid/libhybrid/text/Place", name := "column", desc := "()J" } : Jvm.MethodName) prog_113_method_6_code (1 : Nat) (Option.some Jvm.ClassFile.FieldType.long)).before args0 about1 = true := code_word (m := ⟨4, 2⟩) (meth := k4m2) (c := k4c2) (by decide +kernel) rfl rfl rfl (by decide +kernel)
def codes1 : List Jvm.Cond := [Jvm.Cond.code x code maxLocals ret, Jvm.Cond.code ({ cls := "com/example/libhybrid/libhybrid/text/PlaceCounterPassPinLaw", name := "mk", desc := "(IJ)C" } : Jvm.MethodName) method_2_code (4 : Nat) (Option.some Jvm.ClassFile.FieldType.char), Jvm.Cond.code ({ cls := "com/example/libhybrid/libhybrid/text/PlaceCounter", name := "<init>", desc := "()V" } : Jvm.MethodName) prog_114_method_1_code (1 : Nat) (Option.none : Option Jvm.ClassFile.FieldType), Jvm.Cond.code ({ cls := "java/lang/Object", name := "<init>", desc := "()V" } : Jvm.MethodName) object_method_1_code (1 : Nat) (Option.none : Option Jvm.ClassFile.FieldType), Jvm.Cond.code ({ cls := "com/example/libhybrid/libhybrid/text/PlaceCounter", name := "pass", desc := "([CII)V" } : Jvm.MethodName) prog_114_method_2_code (7 : Nat) (Option.none : Option Jvm.ClassFile.FieldType), Jvm.Cond.code ({ cls := "com/example/libhybrid/libhybrid/text/PlaceCounterPassPinLaw", name := "step", desc := "([JCZ)V" } : Jvm.MethodName) method_3_code (3 : Nat) (Option.none : Option Jvm.ClassFile.FieldType), Jvm.Cond.code ({ cls := "com/example/libhybrid/libhybrid/text/PlaceCounter", name := "place", desc := "()Lcom/example/libhybrid/libhybrid/text/Place;" } : Jvm.MethodName) prog_114_method_4_code (1 : Nat) (Option.some (Jvm.ClassFile.FieldType.object "com/example/libhybrid/libhybrid/text/Place")), Jvm.Cond.code ({ cls := "com/example/libhybrid/libhybrid/text/Place", name := "<init>", desc := "(JJ)V" } : Jvm.MethodName) prog_113_method_1_code (5 : Nat) (Option.none : Option Jvm.ClassFile.FieldType), Jvm.Cond.code ({ cls := "java/lang/Record", name := "<init>", desc := "()V" } : Jvm.MethodName) jdk_30_method_1_code (1 : Nat) (Option.none : Option Jvm.ClassFile.FieldType), Jvm.Cond.code ({ cls := "com/example/libhybrid/libhybrid/text/Place", name := "line", desc := "()J" } : Jvm.MethodName) prog_113_method_5_code (1 : Nat) (Option.some Jvm.ClassFile.FieldType.long), Jvm.Cond.code ({ cls := "com/example/libhybrid/libhybrid/text/Place", name := "column", desc := "()J" } : Jvm.MethodName) prog_113_method_6_code (1 : Nat) (Option.some Jvm.ClassFile.FieldType.long)]
set_option maxRecDepth 65536 in
theorem codes_eq : words1.filter isCode = codes1 := rfl
theorem w_codes : ∀ c ∈ words1.filter isCode, c.before args0 about1 = true := by
  rw [codes_eq]
  intro c hc
  simp only [codes1, List.mem_cons, List.not_mem_nil, or_false] at hc
  rcases hc with rfl | rfl | rfl | rfl | rfl | rfl | rfl | rfl | rfl | rfl | rfl
  · exact w_c0
  · exact w_c1
  · exact w_c2
  · exact w_c3
  · exact w_c4
  · exact w_c5
  · exact w_c6
  · exact w_c7
  · exact w_c8
  · exact w_c9
  · exact w_c10
set_option maxRecDepth 65536 in
theorem w_t1 : (words1.take 24).all (fun c => isCode c || c.before args0 about1) = true := by decide +kernel
set_option maxRecDepth 65536 in
theorem w_t2 : ((words1.drop 24).take 24).all (fun c => isCode c || c.before args0 about1) = true := by decide +kernel
set_option maxRecDepth 65536 in
theorem w_t3 : ((words1.drop 24).drop 24).all (fun c => isCode c || c.before args0 about1) = true := by decide +kernel
theorem w_tables : (allAtoms (Jvm.Cond.code x code maxLocals ret :: tables_1)).before args0 about1 = true := by
  rw [allAtoms_all]
  show words1.all (fun c => c.before args0 about1) = true
  refine all_split ?_ w_codes
  rw [← List.take_append_drop 24 words1, List.all_append, w_t1, ← List.take_append_drop 24 (words1.drop 24), List.all_append, w_t2, w_t3]
  rfl
set_option maxRecDepth 65536 in
theorem w_case : (Jvm.Cond.and given_1 narrow_1).before args0 about1 = true := by decide +kernel
theorem w_applies : (headSpec (Jvm.Cond.code x code maxLocals ret :: tables_1) room_1).applies x e0.platform about1 = true :=
  (Spec.applies_iff w_frames).mpr ⟨w_running, w_runnable, w_alone, w_named, w_hears, w_ripe, w_room, w_tables⟩
theorem atStart : AtStart classFile x code maxLocals ret World_1 tables_1 room_1 Calls_1 rest_1 Pre_1 launch0 p0 e0 about1 theMethod args0 below0 :=
  ⟨lists_1, trivial, launch0.admits_env _ _ _, launch0.least_env, fairChoices_fair.cas, fairChoices_fair.clock, w_frames, w_args, w_heap, w_applies, trivial, trivial, w_case⟩
end start1
theorem witness_1 : WitnessClaimed_1 := ⟨start1.p0, start1.e0, start1.about1, start1.theMethod, start1.args0, start1.below0, start1.atStart⟩
end Jvm.Pilot.@@N@@
