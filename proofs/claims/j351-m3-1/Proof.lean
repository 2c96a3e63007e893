import JvmDerived
import JvmDerived.Pilot.@@N@@Statement
import JvmDerived.Pilot.@@N@@Code
set_option linter.unusedVariables false
set_option linter.unusedSimpArgs false
namespace Jvm.RoadKit
open Sem ClassFile Op Lib Jvm.Stand Jvm.Free Jvm.LawKit
section New
variable {p : Program} {l : Launch} {e : Env} {R : Room} {s : State} {m : MethodId} {args : Array Value} {below : List Frame} {meth : Method} {c : Code} {T : State} {locs : List Loc} {cells slots : Nat}
theorem retI (X : Stand p l e R s m args below meth c T locs cells slots) (hx : p.tables.exec = Jvm.exec) {pc : Nat} {Ls : Array Slot} {z : Int32} {rest : List Value} (hret : meth.sig.returnType = some .int) (hd : decode c.code pc = .ok (.ireturn, 1)) {fs : List Frame}
    (hl : ∀ (f : JFrame) (acts : List Action), f.method = m → f.locked = none → f.entered = [] → (doReturn e (T.setTop f) acts (some (.int z))).1 = T.setFrames fs) : Steps p.tables e below (T.setTop (mkF m pc Ls (.int z :: rest))) (T.setFrames fs) := by
  have hm' : T.vm.method? m = some meth := X.method'
  have hn : narrow .int (.int z) = .int z := rfl
  show Steps p.tables e below (T.setTop { method := m, pc := pc, locals := Ls, stack := _ :: rest, locked := none }) _
  jvm_step X.here [X.here.top, hx, hd, hm', hret, hn]
  first | (intro acts; rw [hl _ acts rfl rfl rfl]) | rw [hl _ _ rfl rfl rfl]
  exact Steps.refl _
end New
end Jvm.RoadKit
namespace Jvm.Pilot.@@N@@
open Jvm Jvm.ClassFile Sem Op Lib Jvm.Free Jvm.Stand Jvm.LawKit Jvm.RoadKit Bundle Jvm.Pilot.@@N@@.Jvm.D
section OwnKit
variable {p : Program} {l : Launch} {e : Env} {R : Room} {s : State} {m : MethodId} {args : Array Value} {below : List Frame} {meth : Method} {c : Code} {Z : State} {own nm : String} {bytes : ByteArray} {maxL : Nat} {rt : Option FieldType} {n0 : Nat} {h0 : Heap} {ws : List Addr} {Q : Option Value → Heap → Prop} {cells slots : Nat} {h : Heap} {pc pc' : Nat} {ls ls' : Array Slot} {st : List Value} {a0 : Array Value}
/-- what is fixed in a body -/
def Cx (p : Program) (s : State) (m : MethodId) (meth : Method) (c : Code) (Z : State) (own nm : String) (bytes : ByteArray) (maxL : Nat) (rt : Option FieldType) (n0 : Nat) (h0 : Heap) (ws : List Addr) : Prop :=
  (p.tables.exec = Jvm.exec ∧ c.code = bytes ∧ c.maxLocals = maxL ∧ s.vm.findClass own = some m.cls ∧ Z.Warmed39 s.vm) ∧ (meth.sig.returnType = rt ∧ meth.locks = false ∧ meth.name = nm ∧ n0 ≤ h0.size ∧ ∀ x ∈ ws, n0 ≤ x)
/-- from every state that stands here with the heap h at the frame g, the run returns and Q holds at the end -/
def G (p : Program) (l : Launch) (e : Env) (R : Room) (s : State) (m : MethodId) (args : Array Value) (below : List Frame) (meth : Method) (c : Code) (n0 : Nat) (h0 : Heap) (ws : List Addr) (Q : Option Value → Heap → Prop) (cells slots : Nat) (h : Heap) (g : JFrame) : Prop :=
  ∀ (T : State) (locs : List Loc) (k n : Nat), Stand p l e R s m args below meth c T locs k n → k ≤ cells → n ≤ slots → T.heap = h → Fr n0 locs → Keep h0 h ws →
    ∃ (U : State) (v : Option Value) (L : List Loc), Steps p.tables e below (T.setTop g) U ∧ U.status = .running ∧ Ended U below (.returned v) ∧ (Fr n0 L ∧ Keep h0 U.heap ws ∧ Q v U.heap) ∧ FrameEnd s (.returned v) U L R.cells R.slots
/-- the contract of a callee: called with these arguments at this heap it returns, writes old cells of ws alone, and Q holds -/
def Mt (l : Launch) (Z : State) (y : MethodName) (bytes : ByteArray) (maxL : Nat) (rt : Option FieldType) (cs : List Jvm.Cond) (rm : Room) (n0 : Nat) (as' : Array Value) (h : Heap) (ws : List Addr) (Q : Option Value → Heap → Prop) : Prop :=
  MetFree l y (head1 (Jvm.Cond.code y bytes maxL rt :: cs) rm) (fun a U => a = as' ∧ Z.Warmed39 U.vm ∧ U.heap = h) (fun _ _ _ _ _ => True) (fun _ U o U' => ∃ v L, o = .returned v ∧ (Fr n0 L ∧ Keep h U'.heap ws ∧ Q v U'.heap) ∧ FrameEnd U o U' L rm.cells rm.slots)
def RV (Q : Heap → Prop) : Option Value → Heap → Prop := fun v h => v = none ∧ Q h
def RI (Q : Int32 → Heap → Prop) : Option Value → Heap → Prop := fun v h => ∃ z : Int32, v = some (.int z) ∧ Q z h
def RJ (Q : Int64 → Heap → Prop) : Option Value → Heap → Prop := fun v h => ∃ z : Int64, v = some (.long z) ∧ Q z h
def RA (Q : Addr → Heap → Prop) : Option Value → Heap → Prop := fun v h => ∃ z : Addr, v = some (.ref z) ∧ Q z h
theorem G.mono {g : JFrame} {cells' slots' : Nat} (hc : cells ≤ cells') (hs : slots ≤ slots') (kk : G p l e R s m args below meth c n0 h0 ws Q cells' slots' h g) : G p l e R s m args below meth c n0 h0 ws Q cells slots h g := fun T locs k n X hk hn eT N K => kk T locs k n X (Nat.le_trans hk hc) (Nat.le_trans hn hs) eT N K
theorem G.stepX {g g' : JFrame} (stp : ∀ T locs k n t, Stand p l e R s m args below meth c T locs k n → T.heap = h → Steps p.tables e below (T.setTop g') t → Steps p.tables e below (T.setTop g) t) (kk : G p l e R s m args below meth c n0 h0 ws Q cells slots h g') : G p l e R s m args below meth c n0 h0 ws Q cells slots h g := fun T locs k n X hk hn eT N K => by
  obtain ⟨U, v, L, hs, r⟩ := kk T locs k n X hk hn eT N K
  exact ⟨U, v, L, stp T locs k n U X eT hs, r⟩
theorem G.stepT {g g' : JFrame} (stp : ∀ T locs k n, Stand p l e R s m args below meth c T locs k n → T.heap = h → ∃ T', Stand p l e R s m args below meth c T' locs k n ∧ T'.heap = h ∧ ∀ t, Steps p.tables e below (T'.setTop g') t → Steps p.tables e below (T.setTop g) t) (kk : G p l e R s m args below meth c n0 h0 ws Q cells slots h g') : G p l e R s m args below meth c n0 h0 ws Q cells slots h g := fun T locs k n X hk hn eT N K => by
  obtain ⟨T', X', e', stp'⟩ := stp T locs k n X eT
  obtain ⟨U, v, L, hs, r⟩ := kk T' locs k n X' hk hn e' N K
  exact ⟨U, v, L, stp' U hs, r⟩
theorem own_fr {a : Addr} (B : Cx p s m meth c Z own nm bytes maxL rt n0 h0 ws) (ha : a ∈ ws ∨ h0.size ≤ a) : n0 ≤ a := ha.elim (B.2.2.2.2.2 a) (Nat.le_trans B.2.2.2.2.1)
theorem G.wr {g g' : JFrame} {a : Addr} {sl : Nat} {v : Value} (B : Cx p s m meth c Z own nm bytes maxL rt n0 h0 ws) (ha : a ∈ ws ∨ h0.size ≤ a) (stp : ∀ T locs k n, Stand p l e R s m args below meth c T locs k n → T.heap = h → ∃ T' h', Stand p l e R s m args below meth c T' (locs ++ [⟨a, sl⟩]) k n ∧ T'.heap = h' ∧ Wr h h' a sl v ∧ ∀ t, Steps p.tables e below (T'.setTop g') t → Steps p.tables e below (T.setTop g) t) (kk : ∀ h', Wr h h' a sl v → G p l e R s m args below meth c n0 h0 ws Q cells slots h' g') : G p l e R s m args below meth c n0 h0 ws Q cells slots h g := fun T locs k n X hk hn eT N K => by
  obtain ⟨T', h', X', e', W, stp'⟩ := stp T locs k n X eT
  obtain ⟨U, v, L, hs, r⟩ := kk h' W T' _ k n X' hk hn e' (Fr.snoc X' N (own_fr B ha)) (K.wr W ha)
  exact ⟨U, v, L, stp' U hs, r⟩
theorem G.out {g : JFrame} {v : Option Value} (B : Cx p s m meth c Z own nm bytes maxL rt n0 h0 ws) (hv : rt = none → v = none) (hc : cells ≤ R.cells) (hs : slots ≤ R.slots) (hQ : Q v h)
    (stp : ∀ T locs k n fs, Stand p l e R s m args below meth c T locs k n → (∀ (f : JFrame) (acts : List Action), f.method = m → f.locked = none → f.entered = [] → (doReturn e (T.setTop f) acts v).1 = T.setFrames fs) → Steps p.tables e below (T.setTop g) (T.setFrames fs)) : G p l e R s m args below meth c n0 h0 ws Q cells slots h g := fun T locs k n X hk hn eT N K => by
  obtain ⟨fs, hr, hrun, hended, hW, hsame⟩ := X.leave (v := v) (fun q => hv (B.2.1.symm.trans q)) B.2.2.1
  refine ⟨T.setFrames fs, v, locs, stp T locs k n fs X hr, hrun, hended, ⟨N, ?_, ?_⟩, ⟨_, rfl⟩, hW, hsame.mono (Nat.le_trans hk hc) (Nat.le_trans hn hs)⟩
  · show Keep h0 T.heap ws
    rw [eT]; exact K
  · show Q v T.heap
    rw [eT]; exact hQ
theorem Mt.intro {y : MethodName} {cs : List Jvm.Cond} {as' : Array Value} (hpl : plainFor y = true) (hn : n0 ≤ h0.size) (hws : ∀ x ∈ ws, n0 ≤ x)
    (body : ∀ p e s m below meth c, Cx p s m meth c Z y.cls y.name bytes maxL rt n0 h0 ws → G p l e R s m as' below meth c n0 h0 ws Q 0 0 h0 (entryFrame m as' maxL)) : Mt l Z y bytes maxL rt cs R n0 as' h0 ws Q := by
  refine MetFree.of_bodySF hpl hisR ?_
  intro p e s m args below meth c s₁ Bd hml0 hP hK
  obtain ⟨rfl, hZ, hh⟩ := hP
  have B : Cx p s m meth c Z y.cls y.name bytes maxL rt n0 h0 ws := ⟨⟨Bd.exec, Bd.bytes, hml0, findClass_of_methodNamed Bd.named, hZ⟩, Bd.returns, Bd.notSynchronized, (name_of_methodNamed Bd.named Bd.method).1, hn, hws⟩
  have X0 : Stand p l e R s m args below meth c s₁ [] 0 0 := Stand.of_body Bd
  have e0 : s₁.heap = h0 := by rw [← hh, Bd.state]; rfl
  obtain ⟨U, v, L, hs, h1, h2, h3, h4⟩ := body p e s m below meth c B s₁ [] 0 0 X0 (Nat.le_refl _) (Nat.le_refl _) e0 (Fr.nil n0) (Keep.refl _ _)
  exact ⟨U, _, hs, h1, h2, v, L, rfl, h3, h4⟩
theorem G.entry {g g' : JFrame} (q : g = g') (kk : G p l e R s m args below meth c n0 h0 ws Q cells slots h g') : G p l e R s m args below meth c n0 h0 ws Q cells slots h g := q ▸ kk
theorem G.iloadN {k : Fin 4} {v : Int32} (B : Cx p s m meth c Z own nm bytes maxL rt n0 h0 ws) (hd : decode bytes pc = .ok (.iload_n k, 1)) (hl : ls[k.val]? = some (.val (.int v))) (hp : pc + 1 = pc') (kk : G p l e R s m args below meth c n0 h0 ws Q cells slots h (mkF m pc' ls (.int v :: st))) : G p l e R s m args below meth c n0 h0 ws Q cells slots h (mkF m pc ls st) := by
  subst hp
  exact G.stepX (fun T locs k n t X _ q => XS.iloadN X.here B.1.1 rfl (hb B.1.2.1 hd) hl q) kk
theorem G.iload {k : Nat} {v : Int32} (B : Cx p s m meth c Z own nm bytes maxL rt n0 h0 ws) (hd : decode bytes pc = .ok (.iload k, 2)) (hl : ls[k]? = some (.val (.int v))) (hp : pc + 2 = pc') (kk : G p l e R s m args below meth c n0 h0 ws Q cells slots h (mkF m pc' ls (.int v :: st))) : G p l e R s m args below meth c n0 h0 ws Q cells slots h (mkF m pc ls st) := by
  subst hp
  exact G.stepX (fun T locs k n t X _ q => XS.iload X.here B.1.1 rfl (hb B.1.2.1 hd) hl q) kk
theorem G.lloadN {k : Fin 4} {v : Int64} (B : Cx p s m meth c Z own nm bytes maxL rt n0 h0 ws) (hd : decode bytes pc = .ok (.lload_n k, 1)) (hl : ls[k.val]? = some (.val (.long v))) (hp : pc + 1 = pc') (kk : G p l e R s m args below meth c n0 h0 ws Q cells slots h (mkF m pc' ls (.long v :: st))) : G p l e R s m args below meth c n0 h0 ws Q cells slots h (mkF m pc ls st) := by
  subst hp
  exact G.stepX (fun T locs k n t X _ q => XS.lloadN X.here B.1.1 rfl (hb B.1.2.1 hd) hl q) kk
theorem G.lload {k : Nat} {v : Int64} (B : Cx p s m meth c Z own nm bytes maxL rt n0 h0 ws) (hd : decode bytes pc = .ok (.lload k, 2)) (hl : ls[k]? = some (.val (.long v))) (hp : pc + 2 = pc') (kk : G p l e R s m args below meth c n0 h0 ws Q cells slots h (mkF m pc' ls (.long v :: st))) : G p l e R s m args below meth c n0 h0 ws Q cells slots h (mkF m pc ls st) := by
  subst hp
  exact G.stepX (fun T locs k n t X _ q => XS.lload X.here B.1.1 rfl (hb B.1.2.1 hd) hl q) kk
theorem G.aloadN {k : Fin 4} {v : Value} (B : Cx p s m meth c Z own nm bytes maxL rt n0 h0 ws) (hd : decode bytes pc = .ok (.aload_n k, 1)) (hl : ls[k.val]? = some (.val v)) (hv : v.isRef = true) (hp : pc + 1 = pc') (kk : G p l e R s m args below meth c n0 h0 ws Q cells slots h (mkF m pc' ls (v :: st))) : G p l e R s m args below meth c n0 h0 ws Q cells slots h (mkF m pc ls st) := by
  subst hp
  exact G.stepX (fun T locs k n t X _ q => XS.aloadN X.here B.1.1 rfl (hb B.1.2.1 hd) hl hv q) kk
theorem G.aload {k : Nat} {v : Value} (B : Cx p s m meth c Z own nm bytes maxL rt n0 h0 ws) (hd : decode bytes pc = .ok (.aload k, 2)) (hl : ls[k]? = some (.val v)) (hv : v.isRef = true) (hp : pc + 2 = pc') (kk : G p l e R s m args below meth c n0 h0 ws Q cells slots h (mkF m pc' ls (v :: st))) : G p l e R s m args below meth c n0 h0 ws Q cells slots h (mkF m pc ls st) := by
  subst hp
  exact G.stepX (fun T locs k n t X _ q => XS.aload X.here B.1.1 rfl (hb B.1.2.1 hd) hl hv q) kk
theorem G.istoreN {k : Fin 4} {v : Int32} (B : Cx p s m meth c Z own nm bytes maxL rt n0 h0 ws) (hd : decode bytes pc = .ok (.istore_n k, 1)) (hl : storeLocals ls k.val (.int v) = some ls') (hp : pc + 1 = pc') (kk : G p l e R s m args below meth c n0 h0 ws Q cells slots h (mkF m pc' ls' st)) : G p l e R s m args below meth c n0 h0 ws Q cells slots h (mkF m pc ls (.int v :: st)) := by
  subst hp
  exact G.stepX (fun T locs k n t X _ q => XS.istoreN X.here B.1.1 rfl (hb B.1.2.1 hd) rfl hl q) kk
theorem G.istore {k : Nat} {v : Int32} (B : Cx p s m meth c Z own nm bytes maxL rt n0 h0 ws) (hd : decode bytes pc = .ok (.istore k, 2)) (hl : storeLocals ls k (.int v) = some ls') (hp : pc + 2 = pc') (kk : G p l e R s m args below meth c n0 h0 ws Q cells slots h (mkF m pc' ls' st)) : G p l e R s m args below meth c n0 h0 ws Q cells slots h (mkF m pc ls (.int v :: st)) := by
  subst hp
  exact G.stepX (fun T locs k n t X _ q => XS.istore X.here B.1.1 rfl (hb B.1.2.1 hd) rfl hl q) kk
theorem G.lstoreN {k : Fin 4} {v : Int64} (B : Cx p s m meth c Z own nm bytes maxL rt n0 h0 ws) (hd : decode bytes pc = .ok (.lstore_n k, 1)) (hl : storeLocals ls k.val (.long v) = some ls') (hp : pc + 1 = pc') (kk : G p l e R s m args below meth c n0 h0 ws Q cells slots h (mkF m pc' ls' st)) : G p l e R s m args below meth c n0 h0 ws Q cells slots h (mkF m pc ls (.long v :: st)) := by
  subst hp
  exact G.stepX (fun T locs k n t X _ q => XS.lstoreN X.here B.1.1 rfl (hb B.1.2.1 hd) rfl hl q) kk
theorem G.lstore {k : Nat} {v : Int64} (B : Cx p s m meth c Z own nm bytes maxL rt n0 h0 ws) (hd : decode bytes pc = .ok (.lstore k, 2)) (hl : storeLocals ls k (.long v) = some ls') (hp : pc + 2 = pc') (kk : G p l e R s m args below meth c n0 h0 ws Q cells slots h (mkF m pc' ls' st)) : G p l e R s m args below meth c n0 h0 ws Q cells slots h (mkF m pc ls (.long v :: st)) := by
  subst hp
  exact G.stepX (fun T locs k n t X _ q => XS.lstore X.here B.1.1 rfl (hb B.1.2.1 hd) rfl hl q) kk
theorem G.astoreN {k : Fin 4} {v : Value} (B : Cx p s m meth c Z own nm bytes maxL rt n0 h0 ws) (hd : decode bytes pc = .ok (.astore_n k, 1)) (hv : v.isRef = true) (hl : storeLocals ls k.val v = some ls') (hp : pc + 1 = pc') (kk : G p l e R s m args below meth c n0 h0 ws Q cells slots h (mkF m pc' ls' st)) : G p l e R s m args below meth c n0 h0 ws Q cells slots h (mkF m pc ls (v :: st)) := by
  subst hp
  exact G.stepX (fun T locs k n t X _ q => XS.astoreN X.here B.1.1 rfl (hb B.1.2.1 hd) rfl hv hl q) kk
theorem G.astore {k : Nat} {v : Value} (B : Cx p s m meth c Z own nm bytes maxL rt n0 h0 ws) (hd : decode bytes pc = .ok (.astore k, 2)) (hv : v.isRef = true) (hl : storeLocals ls k v = some ls') (hp : pc + 2 = pc') (kk : G p l e R s m args below meth c n0 h0 ws Q cells slots h (mkF m pc' ls' st)) : G p l e R s m args below meth c n0 h0 ws Q cells slots h (mkF m pc ls (v :: st)) := by
  subst hp
  exact G.stepX (fun T locs k n t X _ q => XS.astore X.here B.1.1 rfl (hb B.1.2.1 hd) rfl hv hl q) kk
theorem G.iconst {i : Int} {z : Int32} (B : Cx p s m meth c Z own nm bytes maxL rt n0 h0 ws) (hd : decode bytes pc = .ok (.iconst i, 1)) (hz : Int32.ofInt i = z) (hp : pc + 1 = pc') (kk : G p l e R s m args below meth c n0 h0 ws Q cells slots h (mkF m pc' ls (.int z :: st))) : G p l e R s m args below meth c n0 h0 ws Q cells slots h (mkF m pc ls st) := by
  subst hp hz
  exact G.stepX (fun T locs k n t X _ q => XS.iconst X.here B.1.1 rfl (hb B.1.2.1 hd) q) kk
theorem G.bipush {i : Int} {z : Int32} (B : Cx p s m meth c Z own nm bytes maxL rt n0 h0 ws) (hd : decode bytes pc = .ok (.bipush i, 2)) (hz : (Int8.ofInt i).toInt32 = z) (hp : pc + 2 = pc') (kk : G p l e R s m args below meth c n0 h0 ws Q cells slots h (mkF m pc' ls (.int z :: st))) : G p l e R s m args below meth c n0 h0 ws Q cells slots h (mkF m pc ls st) := by
  subst hp hz
  exact G.stepX (fun T locs k n t X _ q => XS.bipush X.here B.1.1 rfl (hb B.1.2.1 hd) q) kk
theorem G.sipush {i : Int} {z : Int32} (B : Cx p s m meth c Z own nm bytes maxL rt n0 h0 ws) (hd : decode bytes pc = .ok (.sipush i, 3)) (hz : (Int16.ofInt i).toInt32 = z) (hp : pc + 3 = pc') (kk : G p l e R s m args below meth c n0 h0 ws Q cells slots h (mkF m pc' ls (.int z :: st))) : G p l e R s m args below meth c n0 h0 ws Q cells slots h (mkF m pc ls st) := by
  subst hp hz
  exact G.stepX (fun T locs k n t X _ q => XS.sipush X.here B.1.1 rfl (hb B.1.2.1 hd) q) kk
theorem G.lconst {i : Fin 2} {z : Int64} (B : Cx p s m meth c Z own nm bytes maxL rt n0 h0 ws) (hd : decode bytes pc = .ok (.lconst i, 1)) (hz : Int64.ofNat i = z) (hp : pc + 1 = pc') (kk : G p l e R s m args below meth c n0 h0 ws Q cells slots h (mkF m pc' ls (.long z :: st))) : G p l e R s m args below meth c n0 h0 ws Q cells slots h (mkF m pc ls st) := by
  subst hp hz
  exact G.stepX (fun T locs k n t X _ q => XS.lconst X.here B.1.1 rfl (hb B.1.2.1 hd) q) kk
theorem G.aconstNull (B : Cx p s m meth c Z own nm bytes maxL rt n0 h0 ws) (hd : decode bytes pc = .ok (.aconst_null, 1)) (hp : pc + 1 = pc') (kk : G p l e R s m args below meth c n0 h0 ws Q cells slots h (mkF m pc' ls (.null :: st))) : G p l e R s m args below meth c n0 h0 ws Q cells slots h (mkF m pc ls st) := by
  subst hp
  exact G.stepX (fun T locs k n t X _ q => XS.aconstNull X.here B.1.1 rfl (hb B.1.2.1 hd) q) kk
theorem G.iadd {x y : Int32} (B : Cx p s m meth c Z own nm bytes maxL rt n0 h0 ws) (hd : decode bytes pc = .ok (.iadd, 1)) (hp : pc + 1 = pc') (kk : G p l e R s m args below meth c n0 h0 ws Q cells slots h (mkF m pc' ls (.int (x + y) :: st))) : G p l e R s m args below meth c n0 h0 ws Q cells slots h (mkF m pc ls (.int y :: .int x :: st)) := by
  subst hp
  exact G.stepX (fun T locs k n t X _ q => XS.iadd X.here B.1.1 rfl (hb B.1.2.1 hd) rfl q) kk
theorem G.ladd {x y : Int64} (B : Cx p s m meth c Z own nm bytes maxL rt n0 h0 ws) (hd : decode bytes pc = .ok (.ladd, 1)) (hp : pc + 1 = pc') (kk : G p l e R s m args below meth c n0 h0 ws Q cells slots h (mkF m pc' ls (.long (x + y) :: st))) : G p l e R s m args below meth c n0 h0 ws Q cells slots h (mkF m pc ls (.long y :: .long x :: st)) := by
  subst hp
  exact G.stepX (fun T locs k n t X _ q => XS.ladd X.here B.1.1 rfl (hb B.1.2.1 hd) rfl q) kk
theorem G.isub {x y : Int32} (B : Cx p s m meth c Z own nm bytes maxL rt n0 h0 ws) (hd : decode bytes pc = .ok (.isub, 1)) (hp : pc + 1 = pc') (kk : G p l e R s m args below meth c n0 h0 ws Q cells slots h (mkF m pc' ls (.int (x - y) :: st))) : G p l e R s m args below meth c n0 h0 ws Q cells slots h (mkF m pc ls (.int y :: .int x :: st)) := by
  subst hp
  exact G.stepX (fun T locs k n t X _ q => XS.isub X.here B.1.1 rfl (hb B.1.2.1 hd) rfl q) kk
theorem G.lsub {x y : Int64} (B : Cx p s m meth c Z own nm bytes maxL rt n0 h0 ws) (hd : decode bytes pc = .ok (.lsub, 1)) (hp : pc + 1 = pc') (kk : G p l e R s m args below meth c n0 h0 ws Q cells slots h (mkF m pc' ls (.long (x - y) :: st))) : G p l e R s m args below meth c n0 h0 ws Q cells slots h (mkF m pc ls (.long y :: .long x :: st)) := by
  subst hp
  exact G.stepX (fun T locs k n t X _ q => XS.lsub X.here B.1.1 rfl (hb B.1.2.1 hd) rfl q) kk
theorem G.imul {x y : Int32} (B : Cx p s m meth c Z own nm bytes maxL rt n0 h0 ws) (hd : decode bytes pc = .ok (.imul, 1)) (hp : pc + 1 = pc') (kk : G p l e R s m args below meth c n0 h0 ws Q cells slots h (mkF m pc' ls (.int (x * y) :: st))) : G p l e R s m args below meth c n0 h0 ws Q cells slots h (mkF m pc ls (.int y :: .int x :: st)) := by
  subst hp
  exact G.stepX (fun T locs k n t X _ q => XS.imul X.here B.1.1 rfl (hb B.1.2.1 hd) rfl q) kk
theorem G.lmul {x y : Int64} (B : Cx p s m meth c Z own nm bytes maxL rt n0 h0 ws) (hd : decode bytes pc = .ok (.lmul, 1)) (hp : pc + 1 = pc') (kk : G p l e R s m args below meth c n0 h0 ws Q cells slots h (mkF m pc' ls (.long (x * y) :: st))) : G p l e R s m args below meth c n0 h0 ws Q cells slots h (mkF m pc ls (.long y :: .long x :: st)) := by
  subst hp
  exact G.stepX (fun T locs k n t X _ q => XS.lmul X.here B.1.1 rfl (hb B.1.2.1 hd) rfl q) kk
theorem G.iand {x y : Int32} (B : Cx p s m meth c Z own nm bytes maxL rt n0 h0 ws) (hd : decode bytes pc = .ok (.iand, 1)) (hp : pc + 1 = pc') (kk : G p l e R s m args below meth c n0 h0 ws Q cells slots h (mkF m pc' ls (.int (x &&& y) :: st))) : G p l e R s m args below meth c n0 h0 ws Q cells slots h (mkF m pc ls (.int y :: .int x :: st)) := by
  subst hp
  exact G.stepX (fun T locs k n t X _ q => XS.iand X.here B.1.1 rfl (hb B.1.2.1 hd) rfl q) kk
theorem G.land {x y : Int64} (B : Cx p s m meth c Z own nm bytes maxL rt n0 h0 ws) (hd : decode bytes pc = .ok (.land, 1)) (hp : pc + 1 = pc') (kk : G p l e R s m args below meth c n0 h0 ws Q cells slots h (mkF m pc' ls (.long (x &&& y) :: st))) : G p l e R s m args below meth c n0 h0 ws Q cells slots h (mkF m pc ls (.long y :: .long x :: st)) := by
  subst hp
  exact G.stepX (fun T locs k n t X _ q => XS.land X.here B.1.1 rfl (hb B.1.2.1 hd) rfl q) kk
theorem G.ior {x y : Int32} (B : Cx p s m meth c Z own nm bytes maxL rt n0 h0 ws) (hd : decode bytes pc = .ok (.ior, 1)) (hp : pc + 1 = pc') (kk : G p l e R s m args below meth c n0 h0 ws Q cells slots h (mkF m pc' ls (.int (x ||| y) :: st))) : G p l e R s m args below meth c n0 h0 ws Q cells slots h (mkF m pc ls (.int y :: .int x :: st)) := by
  subst hp
  exact G.stepX (fun T locs k n t X _ q => XS.ior X.here B.1.1 rfl (hb B.1.2.1 hd) rfl q) kk
theorem G.lor {x y : Int64} (B : Cx p s m meth c Z own nm bytes maxL rt n0 h0 ws) (hd : decode bytes pc = .ok (.lor, 1)) (hp : pc + 1 = pc') (kk : G p l e R s m args below meth c n0 h0 ws Q cells slots h (mkF m pc' ls (.long (x ||| y) :: st))) : G p l e R s m args below meth c n0 h0 ws Q cells slots h (mkF m pc ls (.long y :: .long x :: st)) := by
  subst hp
  exact G.stepX (fun T locs k n t X _ q => XS.lor X.here B.1.1 rfl (hb B.1.2.1 hd) rfl q) kk
theorem G.ixor {x y : Int32} (B : Cx p s m meth c Z own nm bytes maxL rt n0 h0 ws) (hd : decode bytes pc = .ok (.ixor, 1)) (hp : pc + 1 = pc') (kk : G p l e R s m args below meth c n0 h0 ws Q cells slots h (mkF m pc' ls (.int (x ^^^ y) :: st))) : G p l e R s m args below meth c n0 h0 ws Q cells slots h (mkF m pc ls (.int y :: .int x :: st)) := by
  subst hp
  exact G.stepX (fun T locs k n t X _ q => XS.ixor X.here B.1.1 rfl (hb B.1.2.1 hd) rfl q) kk
theorem G.lxor {x y : Int64} (B : Cx p s m meth c Z own nm bytes maxL rt n0 h0 ws) (hd : decode bytes pc = .ok (.lxor, 1)) (hp : pc + 1 = pc') (kk : G p l e R s m args below meth c n0 h0 ws Q cells slots h (mkF m pc' ls (.long (x ^^^ y) :: st))) : G p l e R s m args below meth c n0 h0 ws Q cells slots h (mkF m pc ls (.long y :: .long x :: st)) := by
  subst hp
  exact G.stepX (fun T locs k n t X _ q => XS.lxor X.here B.1.1 rfl (hb B.1.2.1 hd) rfl q) kk
theorem G.idiv {x y : Int32} (B : Cx p s m meth c Z own nm bytes maxL rt n0 h0 ws) (hd : decode bytes pc = .ok (.idiv, 1)) (hy : y ≠ 0) (hp : pc + 1 = pc') (kk : G p l e R s m args below meth c n0 h0 ws Q cells slots h (mkF m pc' ls (.int (x / y) :: st))) : G p l e R s m args below meth c n0 h0 ws Q cells slots h (mkF m pc ls (.int y :: .int x :: st)) := by
  subst hp
  exact G.stepX (fun T locs k n t X _ q => XS.idiv X.here B.1.1 rfl (hb B.1.2.1 hd) rfl hy q) kk
theorem G.irem {x y : Int32} (B : Cx p s m meth c Z own nm bytes maxL rt n0 h0 ws) (hd : decode bytes pc = .ok (.irem, 1)) (hy : y ≠ 0) (hp : pc + 1 = pc') (kk : G p l e R s m args below meth c n0 h0 ws Q cells slots h (mkF m pc' ls (.int (x % y) :: st))) : G p l e R s m args below meth c n0 h0 ws Q cells slots h (mkF m pc ls (.int y :: .int x :: st)) := by
  subst hp
  exact G.stepX (fun T locs k n t X _ q => Jvm.RoadKit.iremM X B.1.1 rfl (hb B.1.2.1 hd) rfl hy q) kk
theorem G.ldiv {x y : Int64} (B : Cx p s m meth c Z own nm bytes maxL rt n0 h0 ws) (hd : decode bytes pc = .ok (.ldiv, 1)) (hy : y ≠ 0) (hp : pc + 1 = pc') (kk : G p l e R s m args below meth c n0 h0 ws Q cells slots h (mkF m pc' ls (.long (x / y) :: st))) : G p l e R s m args below meth c n0 h0 ws Q cells slots h (mkF m pc ls (.long y :: .long x :: st)) := by
  subst hp
  exact G.stepX (fun T locs k n t X _ q => XS.ldiv X.here B.1.1 rfl (hb B.1.2.1 hd) rfl hy q) kk
theorem G.lrem {x y : Int64} (B : Cx p s m meth c Z own nm bytes maxL rt n0 h0 ws) (hd : decode bytes pc = .ok (.lrem, 1)) (hy : y ≠ 0) (hp : pc + 1 = pc') (kk : G p l e R s m args below meth c n0 h0 ws Q cells slots h (mkF m pc' ls (.long (x % y) :: st))) : G p l e R s m args below meth c n0 h0 ws Q cells slots h (mkF m pc ls (.long y :: .long x :: st)) := by
  subst hp
  rw [← lrem_mod] at kk
  exact G.stepX (fun T locs k n t X _ q => XS.lrem X.here B.1.1 rfl (hb B.1.2.1 hd) rfl hy q) kk
theorem G.ishl {x y : Int32} (B : Cx p s m meth c Z own nm bytes maxL rt n0 h0 ws) (hd : decode bytes pc = .ok (.ishl, 1)) (hp : pc + 1 = pc') (kk : G p l e R s m args below meth c n0 h0 ws Q cells slots h (mkF m pc' ls (.int (x <<< (y &&& 31)) :: st))) : G p l e R s m args below meth c n0 h0 ws Q cells slots h (mkF m pc ls (.int y :: .int x :: st)) := by
  subst hp
  exact G.stepX (fun T locs k n t X _ q => XS.ishl X.here B.1.1 rfl (hb B.1.2.1 hd) rfl q) kk
theorem G.ishr {x y : Int32} (B : Cx p s m meth c Z own nm bytes maxL rt n0 h0 ws) (hd : decode bytes pc = .ok (.ishr, 1)) (hp : pc + 1 = pc') (kk : G p l e R s m args below meth c n0 h0 ws Q cells slots h (mkF m pc' ls (.int (x >>> (y &&& 31)) :: st))) : G p l e R s m args below meth c n0 h0 ws Q cells slots h (mkF m pc ls (.int y :: .int x :: st)) := by
  subst hp
  exact G.stepX (fun T locs k n t X _ q => XS.ishr X.here B.1.1 rfl (hb B.1.2.1 hd) rfl q) kk
theorem G.iushr {x y : Int32} (B : Cx p s m meth c Z own nm bytes maxL rt n0 h0 ws) (hd : decode bytes pc = .ok (.iushr, 1)) (hp : pc + 1 = pc') (kk : G p l e R s m args below meth c n0 h0 ws Q cells slots h (mkF m pc' ls (.int ((x.toUInt32 >>> (y &&& 31).toUInt32).toInt32) :: st))) : G p l e R s m args below meth c n0 h0 ws Q cells slots h (mkF m pc ls (.int y :: .int x :: st)) := by
  subst hp
  exact G.stepX (fun T locs k n t X _ q => XS.iushr X.here B.1.1 rfl (hb B.1.2.1 hd) rfl q) kk
theorem G.lshl {x : Int64} {y : Int32} (B : Cx p s m meth c Z own nm bytes maxL rt n0 h0 ws) (hd : decode bytes pc = .ok (.lshl, 1)) (hp : pc + 1 = pc') (kk : G p l e R s m args below meth c n0 h0 ws Q cells slots h (mkF m pc' ls (.long (x <<< (y &&& 0x3f).toInt64) :: st))) : G p l e R s m args below meth c n0 h0 ws Q cells slots h (mkF m pc ls (.int y :: .long x :: st)) := by
  subst hp
  exact G.stepX (fun T locs k n t X _ q => XS.lshl X.here B.1.1 rfl (hb B.1.2.1 hd) rfl q) kk
theorem G.lshr {x : Int64} {y : Int32} (B : Cx p s m meth c Z own nm bytes maxL rt n0 h0 ws) (hd : decode bytes pc = .ok (.lshr, 1)) (hp : pc + 1 = pc') (kk : G p l e R s m args below meth c n0 h0 ws Q cells slots h (mkF m pc' ls (.long (x >>> (y &&& 0x3f).toInt64) :: st))) : G p l e R s m args below meth c n0 h0 ws Q cells slots h (mkF m pc ls (.int y :: .long x :: st)) := by
  subst hp
  exact G.stepX (fun T locs k n t X _ q => XS.lshr X.here B.1.1 rfl (hb B.1.2.1 hd) rfl q) kk
theorem G.lushr {x : Int64} {y : Int32} (B : Cx p s m meth c Z own nm bytes maxL rt n0 h0 ws) (hd : decode bytes pc = .ok (.lushr, 1)) (hp : pc + 1 = pc') (kk : G p l e R s m args below meth c n0 h0 ws Q cells slots h (mkF m pc' ls (.long ((x.toUInt64 >>> (y &&& 0x3f).toInt64.toUInt64).toInt64) :: st))) : G p l e R s m args below meth c n0 h0 ws Q cells slots h (mkF m pc ls (.int y :: .long x :: st)) := by
  subst hp
  exact G.stepX (fun T locs k n t X _ q => XS.lushr X.here B.1.1 rfl (hb B.1.2.1 hd) rfl q) kk
theorem G.ineg {x : Int32} (B : Cx p s m meth c Z own nm bytes maxL rt n0 h0 ws) (hd : decode bytes pc = .ok (.ineg, 1)) (hp : pc + 1 = pc') (kk : G p l e R s m args below meth c n0 h0 ws Q cells slots h (mkF m pc' ls (.int (-x) :: st))) : G p l e R s m args below meth c n0 h0 ws Q cells slots h (mkF m pc ls (.int x :: st)) := by
  subst hp
  exact G.stepX (fun T locs k n t X _ q => XS.ineg X.here B.1.1 rfl (hb B.1.2.1 hd) rfl q) kk
theorem G.lneg {x : Int64} (B : Cx p s m meth c Z own nm bytes maxL rt n0 h0 ws) (hd : decode bytes pc = .ok (.lneg, 1)) (hp : pc + 1 = pc') (kk : G p l e R s m args below meth c n0 h0 ws Q cells slots h (mkF m pc' ls (.long (-x) :: st))) : G p l e R s m args below meth c n0 h0 ws Q cells slots h (mkF m pc ls (.long x :: st)) := by
  subst hp
  exact G.stepX (fun T locs k n t X _ q => XS.lneg X.here B.1.1 rfl (hb B.1.2.1 hd) rfl q) kk
theorem G.i2l {x : Int32} (B : Cx p s m meth c Z own nm bytes maxL rt n0 h0 ws) (hd : decode bytes pc = .ok (.i2l, 1)) (hp : pc + 1 = pc') (kk : G p l e R s m args below meth c n0 h0 ws Q cells slots h (mkF m pc' ls (.long x.toInt64 :: st))) : G p l e R s m args below meth c n0 h0 ws Q cells slots h (mkF m pc ls (.int x :: st)) := by
  subst hp
  exact G.stepX (fun T locs k n t X _ q => XS.i2l X.here B.1.1 rfl (hb B.1.2.1 hd) rfl q) kk
theorem G.l2i {x : Int64} (B : Cx p s m meth c Z own nm bytes maxL rt n0 h0 ws) (hd : decode bytes pc = .ok (.l2i, 1)) (hp : pc + 1 = pc') (kk : G p l e R s m args below meth c n0 h0 ws Q cells slots h (mkF m pc' ls (.int x.toInt32 :: st))) : G p l e R s m args below meth c n0 h0 ws Q cells slots h (mkF m pc ls (.long x :: st)) := by
  subst hp
  exact G.stepX (fun T locs k n t X _ q => XS.l2i X.here B.1.1 rfl (hb B.1.2.1 hd) rfl q) kk
theorem G.i2b {x : Int32} (B : Cx p s m meth c Z own nm bytes maxL rt n0 h0 ws) (hd : decode bytes pc = .ok (.i2b, 1)) (hp : pc + 1 = pc') (kk : G p l e R s m args below meth c n0 h0 ws Q cells slots h (mkF m pc' ls (.int x.toInt8.toInt32 :: st))) : G p l e R s m args below meth c n0 h0 ws Q cells slots h (mkF m pc ls (.int x :: st)) := by
  subst hp
  exact G.stepX (fun T locs k n t X _ q => XS.i2b X.here B.1.1 rfl (hb B.1.2.1 hd) rfl q) kk
theorem G.i2s {x : Int32} (B : Cx p s m meth c Z own nm bytes maxL rt n0 h0 ws) (hd : decode bytes pc = .ok (.i2s, 1)) (hp : pc + 1 = pc') (kk : G p l e R s m args below meth c n0 h0 ws Q cells slots h (mkF m pc' ls (.int x.toInt16.toInt32 :: st))) : G p l e R s m args below meth c n0 h0 ws Q cells slots h (mkF m pc ls (.int x :: st)) := by
  subst hp
  exact G.stepX (fun T locs k n t X _ q => XS.i2s X.here B.1.1 rfl (hb B.1.2.1 hd) rfl q) kk
theorem G.i2c {x : Int32} (B : Cx p s m meth c Z own nm bytes maxL rt n0 h0 ws) (hd : decode bytes pc = .ok (.i2c, 1)) (hp : pc + 1 = pc') (kk : G p l e R s m args below meth c n0 h0 ws Q cells slots h (mkF m pc' ls (.int x.toUInt32.toUInt16.toUInt32.toInt32 :: st))) : G p l e R s m args below meth c n0 h0 ws Q cells slots h (mkF m pc ls (.int x :: st)) := by
  subst hp
  exact G.stepX (fun T locs k n t X _ q => XS.i2c X.here B.1.1 rfl (hb B.1.2.1 hd) rfl q) kk
theorem G.lcmp {x y : Int64} (B : Cx p s m meth c Z own nm bytes maxL rt n0 h0 ws) (hd : decode bytes pc = .ok (.lcmp, 1)) (hp : pc + 1 = pc') (kk : G p l e R s m args below meth c n0 h0 ws Q cells slots h (mkF m pc' ls (.int (lcmpW x y) :: st))) : G p l e R s m args below meth c n0 h0 ws Q cells slots h (mkF m pc ls (.long y :: .long x :: st)) := by
  subst hp
  exact G.stepX (fun T locs k n t X _ q => XS.lcmp X.here B.1.1 rfl (hb B.1.2.1 hd) rfl q) kk
theorem G.iinc {k : Nat} {cst : Int} {x z : Int32} (B : Cx p s m meth c Z own nm bytes maxL rt n0 h0 ws) (hd : decode bytes pc = .ok (.iinc k cst, 3)) (hl : ls[k]? = some (.val (.int x))) (hz : x + Int32.ofInt cst = z) (hl' : storeLocals ls k (.int z) = some ls') (hp : pc + 3 = pc') (kk : G p l e R s m args below meth c n0 h0 ws Q cells slots h (mkF m pc' ls' st)) : G p l e R s m args below meth c n0 h0 ws Q cells slots h (mkF m pc ls st) := by
  subst hp
  exact G.stepX (fun T locs k n t X _ q => XS.iinc X.here B.1.1 rfl (hb B.1.2.1 hd) hl (by rw [hz]; exact hl') q) kk
theorem G.dup {v : Value} (B : Cx p s m meth c Z own nm bytes maxL rt n0 h0 ws) (hd : decode bytes pc = .ok (.dup, 1)) (hc : v.category = 1) (hp : pc + 1 = pc') (kk : G p l e R s m args below meth c n0 h0 ws Q cells slots h (mkF m pc' ls (v :: v :: st))) : G p l e R s m args below meth c n0 h0 ws Q cells slots h (mkF m pc ls (v :: st)) := by
  subst hp
  exact G.stepX (fun T locs k n t X _ q => XS.dup X.here B.1.1 rfl (hb B.1.2.1 hd) rfl hc q) kk
theorem G.pop {v : Value} (B : Cx p s m meth c Z own nm bytes maxL rt n0 h0 ws) (hd : decode bytes pc = .ok (.pop, 1)) (hc : v.category = 1) (hp : pc + 1 = pc') (kk : G p l e R s m args below meth c n0 h0 ws Q cells slots h (mkF m pc' ls st)) : G p l e R s m args below meth c n0 h0 ws Q cells slots h (mkF m pc ls (v :: st)) := by
  subst hp
  exact G.stepX (fun T locs k n t X _ q => XS.pop X.here B.1.1 rfl (hb B.1.2.1 hd) rfl hc q) kk
theorem G.dupX1 {v w : Value} (B : Cx p s m meth c Z own nm bytes maxL rt n0 h0 ws) (hd : decode bytes pc = .ok (.dup_x1, 1)) (hc : v.category = 1) (hc' : w.category = 1) (hp : pc + 1 = pc') (kk : G p l e R s m args below meth c n0 h0 ws Q cells slots h (mkF m pc' ls (v :: w :: v :: st))) : G p l e R s m args below meth c n0 h0 ws Q cells slots h (mkF m pc ls (v :: w :: st)) := by
  subst hp
  exact G.stepX (fun T locs k n t X _ q => XS.dupX1 X.here B.1.1 rfl (hb B.1.2.1 hd) rfl hc hc' q) kk
theorem G.dup2 {v w : Value} (B : Cx p s m meth c Z own nm bytes maxL rt n0 h0 ws) (hd : decode bytes pc = .ok (.dup2, 1)) (hc : v.category = 1) (hc' : w.category = 1) (hp : pc + 1 = pc') (kk : G p l e R s m args below meth c n0 h0 ws Q cells slots h (mkF m pc' ls (v :: w :: v :: w :: st))) : G p l e R s m args below meth c n0 h0 ws Q cells slots h (mkF m pc ls (v :: w :: st)) := by
  subst hp
  exact G.stepX (fun T locs k n t X _ q => XT.dup2 X.here B.1.1 rfl (hb B.1.2.1 hd) rfl hc hc' q) kk
theorem G.goto {o : Int} (B : Cx p s m meth c Z own nm bytes maxL rt n0 h0 ws) (hd : decode bytes pc = .ok (.goto o, 3)) (ho : 0 ≤ (pc : Int) + o) (hp : ((pc : Int) + o).toNat = pc') (kk : G p l e R s m args below meth c n0 h0 ws Q cells slots h (mkF m pc' ls st)) : G p l e R s m args below meth c n0 h0 ws Q cells slots h (mkF m pc ls st) := by
  exact G.stepX (fun T locs k n t X _ q => XS.goto X.here B.1.1 rfl (pc0 := pc) (pc' := pc') rfl (hb B.1.2.1 hd) ho hp q) kk
theorem own_nlt {x y : Int32} (h : y.toInt ≤ x.toInt) : ¬ x < y := fun q => by rw [Int32.lt_iff_toInt_lt] at q; omega
theorem own_ylt {x y : Int32} (h : x.toInt < y.toInt) : x < y := Int32.lt_iff_toInt_lt.mpr h
theorem G.icmp_eq {x y : Int32} {o : Int} {pcT : Nat} (B : Cx p s m meth c Z own nm bytes maxL rt n0 h0 ws) (hd : decode bytes pc = .ok (.if_icmp .eq o, 3)) (ho : 0 ≤ (pc : Int) + o) (hT : ((pc : Int) + o).toNat = pcT) (hp : pc + 3 = pc') (k1 : x = y → G p l e R s m args below meth c n0 h0 ws Q cells slots h (mkF m pcT ls st)) (k2 : x ≠ y → G p l e R s m args below meth c n0 h0 ws Q cells slots h (mkF m pc' ls st)) : G p l e R s m args below meth c n0 h0 ws Q cells slots h (mkF m pc ls (.int y :: .int x :: st)) := by
  subst hp
  by_cases h : x = y
  · exact G.stepX (fun T locs k n t X _ q => XS.icmpYes X.here B.1.1 rfl (pc0 := pc) (pc' := pcT) rfl (hb B.1.2.1 hd) rfl (teq h).1 ho hT q) (k1 h)
  · exact G.stepX (fun T locs k n t X _ q => XS.icmpNo X.here B.1.1 rfl (hb B.1.2.1 hd) rfl (feq h).1 q) (k2 h)
theorem G.if_eq {x : Int32} {o : Int} {pcT : Nat} (B : Cx p s m meth c Z own nm bytes maxL rt n0 h0 ws) (hd : decode bytes pc = .ok (.ifCond .eq o, 3)) (ho : 0 ≤ (pc : Int) + o) (hT : ((pc : Int) + o).toNat = pcT) (hp : pc + 3 = pc') (k1 : x = 0 → G p l e R s m args below meth c n0 h0 ws Q cells slots h (mkF m pcT ls st)) (k2 : x ≠ 0 → G p l e R s m args below meth c n0 h0 ws Q cells slots h (mkF m pc' ls st)) : G p l e R s m args below meth c n0 h0 ws Q cells slots h (mkF m pc ls (.int x :: st)) := by
  subst hp
  by_cases h : x = 0
  · exact G.stepX (fun T locs k n t X _ q => XS.ifYes X.here B.1.1 rfl (pc0 := pc) (pc' := pcT) rfl (hb B.1.2.1 hd) rfl ((if0 _ _).trans (teq h).1) ho hT q) (k1 h)
  · exact G.stepX (fun T locs k n t X _ q => XS.ifNo X.here B.1.1 rfl (hb B.1.2.1 hd) rfl ((if0 _ _).trans (feq h).1) q) (k2 h)
theorem G.lcmp_eq {x y : Int64} {o : Int} {pc1 pcT : Nat} (B : Cx p s m meth c Z own nm bytes maxL rt n0 h0 ws) (hd0 : decode bytes pc = .ok (.lcmp, 1)) (hp0 : pc + 1 = pc1) (hd : decode bytes pc1 = .ok (.ifCond .eq o, 3)) (ho : 0 ≤ (pc1 : Int) + o) (hT : ((pc1 : Int) + o).toNat = pcT) (hp : pc1 + 3 = pc') (k1 : x = y → G p l e R s m args below meth c n0 h0 ws Q cells slots h (mkF m pcT ls st)) (k2 : x ≠ y → G p l e R s m args below meth c n0 h0 ws Q cells slots h (mkF m pc' ls st)) : G p l e R s m args below meth c n0 h0 ws Q cells slots h (mkF m pc ls (.long y :: .long x :: st)) :=
  G.lcmp B hd0 hp0 (G.if_eq B hd ho hT hp (fun q => k1 ((lw_eq x y).mp q)) (fun q => k2 (fun r => q ((lw_eq x y).mpr r))))
theorem G.icmp_ne {x y : Int32} {o : Int} {pcT : Nat} (B : Cx p s m meth c Z own nm bytes maxL rt n0 h0 ws) (hd : decode bytes pc = .ok (.if_icmp .ne o, 3)) (ho : 0 ≤ (pc : Int) + o) (hT : ((pc : Int) + o).toNat = pcT) (hp : pc + 3 = pc') (k1 : x ≠ y → G p l e R s m args below meth c n0 h0 ws Q cells slots h (mkF m pcT ls st)) (k2 : x = y → G p l e R s m args below meth c n0 h0 ws Q cells slots h (mkF m pc' ls st)) : G p l e R s m args below meth c n0 h0 ws Q cells slots h (mkF m pc ls (.int y :: .int x :: st)) := by
  subst hp
  by_cases h : x ≠ y
  · exact G.stepX (fun T locs k n t X _ q => XS.icmpYes X.here B.1.1 rfl (pc0 := pc) (pc' := pcT) rfl (hb B.1.2.1 hd) rfl (feq h).2 ho hT q) (k1 h)
  · replace h : x = y := Decidable.of_not_not h
    exact G.stepX (fun T locs k n t X _ q => XS.icmpNo X.here B.1.1 rfl (hb B.1.2.1 hd) rfl (teq h).2 q) (k2 h)
theorem G.if_ne {x : Int32} {o : Int} {pcT : Nat} (B : Cx p s m meth c Z own nm bytes maxL rt n0 h0 ws) (hd : decode bytes pc = .ok (.ifCond .ne o, 3)) (ho : 0 ≤ (pc : Int) + o) (hT : ((pc : Int) + o).toNat = pcT) (hp : pc + 3 = pc') (k1 : x ≠ 0 → G p l e R s m args below meth c n0 h0 ws Q cells slots h (mkF m pcT ls st)) (k2 : x = 0 → G p l e R s m args below meth c n0 h0 ws Q cells slots h (mkF m pc' ls st)) : G p l e R s m args below meth c n0 h0 ws Q cells slots h (mkF m pc ls (.int x :: st)) := by
  subst hp
  by_cases h : x ≠ 0
  · exact G.stepX (fun T locs k n t X _ q => XS.ifYes X.here B.1.1 rfl (pc0 := pc) (pc' := pcT) rfl (hb B.1.2.1 hd) rfl ((if0 _ _).trans (feq h).2) ho hT q) (k1 h)
  · replace h : x = 0 := Decidable.of_not_not h
    exact G.stepX (fun T locs k n t X _ q => XS.ifNo X.here B.1.1 rfl (hb B.1.2.1 hd) rfl ((if0 _ _).trans (teq h).2) q) (k2 h)
theorem G.lcmp_ne {x y : Int64} {o : Int} {pc1 pcT : Nat} (B : Cx p s m meth c Z own nm bytes maxL rt n0 h0 ws) (hd0 : decode bytes pc = .ok (.lcmp, 1)) (hp0 : pc + 1 = pc1) (hd : decode bytes pc1 = .ok (.ifCond .ne o, 3)) (ho : 0 ≤ (pc1 : Int) + o) (hT : ((pc1 : Int) + o).toNat = pcT) (hp : pc1 + 3 = pc') (k1 : x ≠ y → G p l e R s m args below meth c n0 h0 ws Q cells slots h (mkF m pcT ls st)) (k2 : x = y → G p l e R s m args below meth c n0 h0 ws Q cells slots h (mkF m pc' ls st)) : G p l e R s m args below meth c n0 h0 ws Q cells slots h (mkF m pc ls (.long y :: .long x :: st)) :=
  G.lcmp B hd0 hp0 (G.if_ne B hd ho hT hp (fun q => k1 (fun r => q ((lw_eq x y).mpr r))) (fun q => k2 ((lw_eq x y).mp q)))
theorem G.icmp_lt {x y : Int32} {o : Int} {pcT : Nat} (B : Cx p s m meth c Z own nm bytes maxL rt n0 h0 ws) (hd : decode bytes pc = .ok (.if_icmp .lt o, 3)) (ho : 0 ≤ (pc : Int) + o) (hT : ((pc : Int) + o).toNat = pcT) (hp : pc + 3 = pc') (k1 : x.toInt < y.toInt → G p l e R s m args below meth c n0 h0 ws Q cells slots h (mkF m pcT ls st)) (k2 : y.toInt ≤ x.toInt → G p l e R s m args below meth c n0 h0 ws Q cells slots h (mkF m pc' ls st)) : G p l e R s m args below meth c n0 h0 ws Q cells slots h (mkF m pc ls (.int y :: .int x :: st)) := by
  subst hp
  by_cases h : x.toInt < y.toInt
  · exact G.stepX (fun T locs k n t X _ q => XS.icmpYes X.here B.1.1 rfl (pc0 := pc) (pc' := pcT) rfl (hb B.1.2.1 hd) rfl (tlt (own_ylt h)).1 ho hT q) (k1 h)
  · replace h := Int.not_lt.mp h
    exact G.stepX (fun T locs k n t X _ q => XS.icmpNo X.here B.1.1 rfl (hb B.1.2.1 hd) rfl (flt (own_nlt h)).1 q) (k2 h)
theorem G.if_lt {x : Int32} {o : Int} {pcT : Nat} (B : Cx p s m meth c Z own nm bytes maxL rt n0 h0 ws) (hd : decode bytes pc = .ok (.ifCond .lt o, 3)) (ho : 0 ≤ (pc : Int) + o) (hT : ((pc : Int) + o).toNat = pcT) (hp : pc + 3 = pc') (k1 : x.toInt < 0 → G p l e R s m args below meth c n0 h0 ws Q cells slots h (mkF m pcT ls st)) (k2 : 0 ≤ x.toInt → G p l e R s m args below meth c n0 h0 ws Q cells slots h (mkF m pc' ls st)) : G p l e R s m args below meth c n0 h0 ws Q cells slots h (mkF m pc ls (.int x :: st)) := by
  subst hp
  by_cases h : x.toInt < 0
  · exact G.stepX (fun T locs k n t X _ q => XS.ifYes X.here B.1.1 rfl (pc0 := pc) (pc' := pcT) rfl (hb B.1.2.1 hd) rfl ((if0 _ _).trans (tlt (own_ylt (y := 0) h)).1) ho hT q) (k1 h)
  · replace h := Int.not_lt.mp h
    exact G.stepX (fun T locs k n t X _ q => XS.ifNo X.here B.1.1 rfl (hb B.1.2.1 hd) rfl ((if0 _ _).trans (flt (own_nlt (y := 0) h)).1) q) (k2 h)
theorem G.lcmp_lt {x y : Int64} {o : Int} {pc1 pcT : Nat} (B : Cx p s m meth c Z own nm bytes maxL rt n0 h0 ws) (hd0 : decode bytes pc = .ok (.lcmp, 1)) (hp0 : pc + 1 = pc1) (hd : decode bytes pc1 = .ok (.ifCond .lt o, 3)) (ho : 0 ≤ (pc1 : Int) + o) (hT : ((pc1 : Int) + o).toNat = pcT) (hp : pc1 + 3 = pc') (k1 : x.toInt < y.toInt → G p l e R s m args below meth c n0 h0 ws Q cells slots h (mkF m pcT ls st)) (k2 : y.toInt ≤ x.toInt → G p l e R s m args below meth c n0 h0 ws Q cells slots h (mkF m pc' ls st)) : G p l e R s m args below meth c n0 h0 ws Q cells slots h (mkF m pc ls (.long y :: .long x :: st)) :=
  G.lcmp B hd0 hp0 (G.if_lt B hd ho hT hp (fun q => k1 (by have := c_lcmp x y; omega)) (fun q => k2 (by have := c_lcmp x y; omega)))
theorem G.icmp_ge {x y : Int32} {o : Int} {pcT : Nat} (B : Cx p s m meth c Z own nm bytes maxL rt n0 h0 ws) (hd : decode bytes pc = .ok (.if_icmp .ge o, 3)) (ho : 0 ≤ (pc : Int) + o) (hT : ((pc : Int) + o).toNat = pcT) (hp : pc + 3 = pc') (k1 : y.toInt ≤ x.toInt → G p l e R s m args below meth c n0 h0 ws Q cells slots h (mkF m pcT ls st)) (k2 : x.toInt < y.toInt → G p l e R s m args below meth c n0 h0 ws Q cells slots h (mkF m pc' ls st)) : G p l e R s m args below meth c n0 h0 ws Q cells slots h (mkF m pc ls (.int y :: .int x :: st)) := by
  subst hp
  by_cases h : y.toInt ≤ x.toInt
  · exact G.stepX (fun T locs k n t X _ q => XS.icmpYes X.here B.1.1 rfl (pc0 := pc) (pc' := pcT) rfl (hb B.1.2.1 hd) rfl (flt (own_nlt h)).2.1 ho hT q) (k1 h)
  · replace h := Int.not_le.mp h
    exact G.stepX (fun T locs k n t X _ q => XS.icmpNo X.here B.1.1 rfl (hb B.1.2.1 hd) rfl (tlt (own_ylt h)).2.1 q) (k2 h)
theorem G.if_ge {x : Int32} {o : Int} {pcT : Nat} (B : Cx p s m meth c Z own nm bytes maxL rt n0 h0 ws) (hd : decode bytes pc = .ok (.ifCond .ge o, 3)) (ho : 0 ≤ (pc : Int) + o) (hT : ((pc : Int) + o).toNat = pcT) (hp : pc + 3 = pc') (k1 : 0 ≤ x.toInt → G p l e R s m args below meth c n0 h0 ws Q cells slots h (mkF m pcT ls st)) (k2 : x.toInt < 0 → G p l e R s m args below meth c n0 h0 ws Q cells slots h (mkF m pc' ls st)) : G p l e R s m args below meth c n0 h0 ws Q cells slots h (mkF m pc ls (.int x :: st)) := by
  subst hp
  by_cases h : 0 ≤ x.toInt
  · exact G.stepX (fun T locs k n t X _ q => XS.ifYes X.here B.1.1 rfl (pc0 := pc) (pc' := pcT) rfl (hb B.1.2.1 hd) rfl ((if0 _ _).trans (flt (own_nlt (y := 0) h)).2.1) ho hT q) (k1 h)
  · replace h := Int.not_le.mp h
    exact G.stepX (fun T locs k n t X _ q => XS.ifNo X.here B.1.1 rfl (hb B.1.2.1 hd) rfl ((if0 _ _).trans (tlt (own_ylt (y := 0) h)).2.1) q) (k2 h)
theorem G.lcmp_ge {x y : Int64} {o : Int} {pc1 pcT : Nat} (B : Cx p s m meth c Z own nm bytes maxL rt n0 h0 ws) (hd0 : decode bytes pc = .ok (.lcmp, 1)) (hp0 : pc + 1 = pc1) (hd : decode bytes pc1 = .ok (.ifCond .ge o, 3)) (ho : 0 ≤ (pc1 : Int) + o) (hT : ((pc1 : Int) + o).toNat = pcT) (hp : pc1 + 3 = pc') (k1 : y.toInt ≤ x.toInt → G p l e R s m args below meth c n0 h0 ws Q cells slots h (mkF m pcT ls st)) (k2 : x.toInt < y.toInt → G p l e R s m args below meth c n0 h0 ws Q cells slots h (mkF m pc' ls st)) : G p l e R s m args below meth c n0 h0 ws Q cells slots h (mkF m pc ls (.long y :: .long x :: st)) :=
  G.lcmp B hd0 hp0 (G.if_ge B hd ho hT hp (fun q => k1 (by have := c_lcmp x y; omega)) (fun q => k2 (by have := c_lcmp x y; omega)))
theorem G.icmp_gt {x y : Int32} {o : Int} {pcT : Nat} (B : Cx p s m meth c Z own nm bytes maxL rt n0 h0 ws) (hd : decode bytes pc = .ok (.if_icmp .gt o, 3)) (ho : 0 ≤ (pc : Int) + o) (hT : ((pc : Int) + o).toNat = pcT) (hp : pc + 3 = pc') (k1 : y.toInt < x.toInt → G p l e R s m args below meth c n0 h0 ws Q cells slots h (mkF m pcT ls st)) (k2 : x.toInt ≤ y.toInt → G p l e R s m args below meth c n0 h0 ws Q cells slots h (mkF m pc' ls st)) : G p l e R s m args below meth c n0 h0 ws Q cells slots h (mkF m pc ls (.int y :: .int x :: st)) := by
  subst hp
  by_cases h : y.toInt < x.toInt
  · exact G.stepX (fun T locs k n t X _ q => XS.icmpYes X.here B.1.1 rfl (pc0 := pc) (pc' := pcT) rfl (hb B.1.2.1 hd) rfl (tlt (own_ylt h)).2.2.1 ho hT q) (k1 h)
  · replace h := Int.not_lt.mp h
    exact G.stepX (fun T locs k n t X _ q => XS.icmpNo X.here B.1.1 rfl (hb B.1.2.1 hd) rfl (flt (own_nlt h)).2.2.1 q) (k2 h)
theorem G.if_gt {x : Int32} {o : Int} {pcT : Nat} (B : Cx p s m meth c Z own nm bytes maxL rt n0 h0 ws) (hd : decode bytes pc = .ok (.ifCond .gt o, 3)) (ho : 0 ≤ (pc : Int) + o) (hT : ((pc : Int) + o).toNat = pcT) (hp : pc + 3 = pc') (k1 : 0 < x.toInt → G p l e R s m args below meth c n0 h0 ws Q cells slots h (mkF m pcT ls st)) (k2 : x.toInt ≤ 0 → G p l e R s m args below meth c n0 h0 ws Q cells slots h (mkF m pc' ls st)) : G p l e R s m args below meth c n0 h0 ws Q cells slots h (mkF m pc ls (.int x :: st)) := by
  subst hp
  by_cases h : 0 < x.toInt
  · exact G.stepX (fun T locs k n t X _ q => XS.ifYes X.here B.1.1 rfl (pc0 := pc) (pc' := pcT) rfl (hb B.1.2.1 hd) rfl ((if0 _ _).trans (tlt (own_ylt (x := 0) h)).2.2.1) ho hT q) (k1 h)
  · replace h := Int.not_lt.mp h
    exact G.stepX (fun T locs k n t X _ q => XS.ifNo X.here B.1.1 rfl (hb B.1.2.1 hd) rfl ((if0 _ _).trans (flt (own_nlt (x := 0) h)).2.2.1) q) (k2 h)
theorem G.lcmp_gt {x y : Int64} {o : Int} {pc1 pcT : Nat} (B : Cx p s m meth c Z own nm bytes maxL rt n0 h0 ws) (hd0 : decode bytes pc = .ok (.lcmp, 1)) (hp0 : pc + 1 = pc1) (hd : decode bytes pc1 = .ok (.ifCond .gt o, 3)) (ho : 0 ≤ (pc1 : Int) + o) (hT : ((pc1 : Int) + o).toNat = pcT) (hp : pc1 + 3 = pc') (k1 : y.toInt < x.toInt → G p l e R s m args below meth c n0 h0 ws Q cells slots h (mkF m pcT ls st)) (k2 : x.toInt ≤ y.toInt → G p l e R s m args below meth c n0 h0 ws Q cells slots h (mkF m pc' ls st)) : G p l e R s m args below meth c n0 h0 ws Q cells slots h (mkF m pc ls (.long y :: .long x :: st)) :=
  G.lcmp B hd0 hp0 (G.if_gt B hd ho hT hp (fun q => k1 (by have := c_lcmp x y; omega)) (fun q => k2 (by have := c_lcmp x y; omega)))
theorem G.icmp_le {x y : Int32} {o : Int} {pcT : Nat} (B : Cx p s m meth c Z own nm bytes maxL rt n0 h0 ws) (hd : decode bytes pc = .ok (.if_icmp .le o, 3)) (ho : 0 ≤ (pc : Int) + o) (hT : ((pc : Int) + o).toNat = pcT) (hp : pc + 3 = pc') (k1 : x.toInt ≤ y.toInt → G p l e R s m args below meth c n0 h0 ws Q cells slots h (mkF m pcT ls st)) (k2 : y.toInt < x.toInt → G p l e R s m args below meth c n0 h0 ws Q cells slots h (mkF m pc' ls st)) : G p l e R s m args below meth c n0 h0 ws Q cells slots h (mkF m pc ls (.int y :: .int x :: st)) := by
  subst hp
  by_cases h : x.toInt ≤ y.toInt
  · exact G.stepX (fun T locs k n t X _ q => XS.icmpYes X.here B.1.1 rfl (pc0 := pc) (pc' := pcT) rfl (hb B.1.2.1 hd) rfl (flt (own_nlt h)).2.2.2 ho hT q) (k1 h)
  · replace h := Int.not_le.mp h
    exact G.stepX (fun T locs k n t X _ q => XS.icmpNo X.here B.1.1 rfl (hb B.1.2.1 hd) rfl (tlt (own_ylt h)).2.2.2 q) (k2 h)
theorem G.if_le {x : Int32} {o : Int} {pcT : Nat} (B : Cx p s m meth c Z own nm bytes maxL rt n0 h0 ws) (hd : decode bytes pc = .ok (.ifCond .le o, 3)) (ho : 0 ≤ (pc : Int) + o) (hT : ((pc : Int) + o).toNat = pcT) (hp : pc + 3 = pc') (k1 : x.toInt ≤ 0 → G p l e R s m args below meth c n0 h0 ws Q cells slots h (mkF m pcT ls st)) (k2 : 0 < x.toInt → G p l e R s m args below meth c n0 h0 ws Q cells slots h (mkF m pc' ls st)) : G p l e R s m args below meth c n0 h0 ws Q cells slots h (mkF m pc ls (.int x :: st)) := by
  subst hp
  by_cases h : x.toInt ≤ 0
  · exact G.stepX (fun T locs k n t X _ q => XS.ifYes X.here B.1.1 rfl (pc0 := pc) (pc' := pcT) rfl (hb B.1.2.1 hd) rfl ((if0 _ _).trans (flt (own_nlt (x := 0) h)).2.2.2) ho hT q) (k1 h)
  · replace h := Int.not_le.mp h
    exact G.stepX (fun T locs k n t X _ q => XS.ifNo X.here B.1.1 rfl (hb B.1.2.1 hd) rfl ((if0 _ _).trans (tlt (own_ylt (x := 0) h)).2.2.2) q) (k2 h)
theorem G.lcmp_le {x y : Int64} {o : Int} {pc1 pcT : Nat} (B : Cx p s m meth c Z own nm bytes maxL rt n0 h0 ws) (hd0 : decode bytes pc = .ok (.lcmp, 1)) (hp0 : pc + 1 = pc1) (hd : decode bytes pc1 = .ok (.ifCond .le o, 3)) (ho : 0 ≤ (pc1 : Int) + o) (hT : ((pc1 : Int) + o).toNat = pcT) (hp : pc1 + 3 = pc') (k1 : x.toInt ≤ y.toInt → G p l e R s m args below meth c n0 h0 ws Q cells slots h (mkF m pcT ls st)) (k2 : y.toInt < x.toInt → G p l e R s m args below meth c n0 h0 ws Q cells slots h (mkF m pc' ls st)) : G p l e R s m args below meth c n0 h0 ws Q cells slots h (mkF m pc ls (.long y :: .long x :: st)) :=
  G.lcmp B hd0 hp0 (G.if_le B hd ho hT hp (fun q => k1 (by have := c_lcmp x y; omega)) (fun q => k2 (by have := c_lcmp x y; omega)))
theorem G.ifnull_t {b : Addr} {o : Int} {pcT : Nat} (B : Cx p s m meth c Z own nm bytes maxL rt n0 h0 ws) (hd : decode bytes pc = .ok (.ifnull o, 3)) (ho : 0 ≤ (pc : Int) + o) (hT : ((pc : Int) + o).toNat = pcT) (kk : G p l e R s m args below meth c n0 h0 ws Q cells slots h (mkF m pcT ls st)) : G p l e R s m args below meth c n0 h0 ws Q cells slots h (mkF m pc ls (.null :: st)) :=
  G.stepX (fun T locs k n t X _ q => XS.ifnullYes X.here B.1.1 rfl (pc0 := pc) (pc' := pcT) rfl (hb B.1.2.1 hd) rfl ho hT q) kk
theorem G.ifnull_f {b : Addr} {o : Int} (B : Cx p s m meth c Z own nm bytes maxL rt n0 h0 ws) (hd : decode bytes pc = .ok (.ifnull o, 3)) (hp : pc + 3 = pc') (kk : G p l e R s m args below meth c n0 h0 ws Q cells slots h (mkF m pc' ls st)) : G p l e R s m args below meth c n0 h0 ws Q cells slots h (mkF m pc ls (.ref b :: st)) := by
  subst hp
  exact G.stepX (fun T locs k n t X _ q => XS.ifnullNo X.here B.1.1 rfl (hb B.1.2.1 hd) rfl q) kk
theorem G.ifnonnull_t {b : Addr} {o : Int} {pcT : Nat} (B : Cx p s m meth c Z own nm bytes maxL rt n0 h0 ws) (hd : decode bytes pc = .ok (.ifnonnull o, 3)) (ho : 0 ≤ (pc : Int) + o) (hT : ((pc : Int) + o).toNat = pcT) (kk : G p l e R s m args below meth c n0 h0 ws Q cells slots h (mkF m pcT ls st)) : G p l e R s m args below meth c n0 h0 ws Q cells slots h (mkF m pc ls (.ref b :: st)) :=
  G.stepX (fun T locs k n t X _ q => XS.ifnonnullYes X.here B.1.1 rfl (pc0 := pc) (pc' := pcT) rfl (hb B.1.2.1 hd) rfl ho hT q) kk
theorem G.ifnonnull_f {b : Addr} {o : Int} (B : Cx p s m meth c Z own nm bytes maxL rt n0 h0 ws) (hd : decode bytes pc = .ok (.ifnonnull o, 3)) (hp : pc + 3 = pc') (kk : G p l e R s m args below meth c n0 h0 ws Q cells slots h (mkF m pc' ls st)) : G p l e R s m args below meth c n0 h0 ws Q cells slots h (mkF m pc ls (.null :: st)) := by
  subst hp
  exact G.stepX (fun T locs k n t X _ q => XS.ifnonnullNo X.here B.1.1 rfl (hb B.1.2.1 hd) rfl q) kk
theorem G.ldc2 {index : Nat} {v : Int64} (B : Cx p s m meth c Z own nm bytes maxL rt n0 h0 ws) (w : (Jvm.Cond.constantLong own index v).before a0 Z = true) (hd : decode bytes pc = .ok (.ldc2_w index, 3)) (hp : pc + 3 = pc') (kk : G p l e R s m args below meth c n0 h0 ws Q cells slots h (mkF m pc' ls (.long v :: st))) : G p l e R s m args below meth c n0 h0 ws Q cells slots h (mkF m pc ls st) := by
  subst hp
  exact G.stepX (fun T locs k n t X _ q => X.ldc2Long B.1.1 B.1.2.2.2.1 (mvT B.1.2.2.2.2 w) (g := mkF m pc ls st) rfl (hb B.1.2.1 hd) t q) kk
theorem G.ldcI {index : Nat} {v : Int32} (B : Cx p s m meth c Z own nm bytes maxL rt n0 h0 ws) (w : (Jvm.Cond.constant own index v).before a0 Z = true) (hd : decode bytes pc = .ok (.ldc index, 2)) (hp : pc + 2 = pc') (kk : G p l e R s m args below meth c n0 h0 ws Q cells slots h (mkF m pc' ls (.int v :: st))) : G p l e R s m args below meth c n0 h0 ws Q cells slots h (mkF m pc ls st) := by
  subst hp
  exact G.stepX (fun T locs k n t X _ q => X.ldcInt B.1.1 B.1.2.2.2.1 (mvT B.1.2.2.2.2 w) (g := mkF m pc ls st) rfl (hb B.1.2.1 hd) t q) kk
theorem G.ldcW {index : Nat} {v : Int32} (B : Cx p s m meth c Z own nm bytes maxL rt n0 h0 ws) (w : (Jvm.Cond.constant own index v).before a0 Z = true) (hd : decode bytes pc = .ok (.ldc_w index, 3)) (hp : pc + 3 = pc') (kk : G p l e R s m args below meth c n0 h0 ws Q cells slots h (mkF m pc' ls (.int v :: st))) : G p l e R s m args below meth c n0 h0 ws Q cells slots h (mkF m pc ls st) := by
  subst hp
  exact G.stepX (fun T locs k n t X _ q => X.ldcwInt B.1.1 B.1.2.2.2.1 (mvT B.1.2.2.2.2 w) (g := mkF m pc ls st) rfl (hb B.1.2.1 hd) t q) kk
theorem G.retV {Q' : Heap → Prop} (B : Cx p s m meth c Z own nm bytes maxL none n0 h0 ws) (hd : decode bytes pc = .ok (.return_, 1)) (hc : cells ≤ R.cells) (hs : slots ≤ R.slots) (hQ : Q' h) : G p l e R s m args below meth c n0 h0 ws (RV Q') cells slots h (mkF m pc ls []) :=
  G.out (v := none) B (fun _ => rfl) hc hs ⟨rfl, hQ⟩ (fun T locs k n fs X hr => X.returnOut B.1.1 B.2.1 (hb B.1.2.1 hd) hr)
theorem G.retI {Q' : Int32 → Heap → Prop} {z : Int32} (B : Cx p s m meth c Z own nm bytes maxL (some .int) n0 h0 ws) (hd : decode bytes pc = .ok (.ireturn, 1)) (hc : cells ≤ R.cells) (hs : slots ≤ R.slots) (hQ : Q' z h) : G p l e R s m args below meth c n0 h0 ws (RI Q') cells slots h (mkF m pc ls (.int z :: st)) :=
  G.out (v := some (.int z)) B (fun q => nomatch q) hc hs ⟨z, rfl, hQ⟩ (fun T locs k n fs X hr => Jvm.RoadKit.retI X B.1.1 B.2.1 (hb B.1.2.1 hd) hr)
theorem G.retN {Q' : Int32 → Heap → Prop} {z : Int32} {t : FieldType} (B : Cx p s m meth c Z own nm bytes maxL (some t) n0 h0 ws) (ht : t = .boolean ∨ t = .byte ∨ t = .char ∨ t = .short) (hd : decode bytes pc = .ok (.ireturn, 1)) (hc : cells ≤ R.cells) (hs : slots ≤ R.slots) (hQ : Q' (nar t z) h) : G p l e R s m args below meth c n0 h0 ws (RI Q') cells slots h (mkF m pc ls (.int z :: st)) :=
  G.out (v := some (.int (nar t z))) B (fun q => nomatch q) hc hs ⟨_, rfl, hQ⟩ (fun T locs k n fs X hr => Jvm.RoadKit.retN X B.1.1 B.2.1 ht (hb B.1.2.1 hd) hr)
theorem G.retZ {Q' : Int32 → Heap → Prop} {z : Int32} (B : Cx p s m meth c Z own nm bytes maxL (some .boolean) n0 h0 ws) (hd : decode bytes pc = .ok (.ireturn, 1)) (hc : cells ≤ R.cells) (hs : slots ≤ R.slots) (hz : z = 0 ∨ z = 1) (hQ : Q' z h) : G p l e R s m args below meth c n0 h0 ws (RI Q') cells slots h (mkF m pc ls (.int z :: st)) :=
  G.retN B (Or.inl rfl) hd hc hs (by rcases hz with rfl | rfl <;> exact hQ)
theorem own_retJ {T : State} {locs : List Loc} {Ls : Array Slot} {w : Int64} {rest : List Value} (X : Stand p l e R s m args below meth c T locs cells slots) (hx : p.tables.exec = Jvm.exec) (hret : meth.sig.returnType = some .long) (hd : decode c.code pc = .ok (.lreturn, 1)) {fs : List Frame}
    (hr : ∀ (f : JFrame) (acts : List Action), f.method = m → f.locked = none → f.entered = [] → (doReturn e (T.setTop f) acts (some (.long w))).1 = T.setFrames fs) : Steps p.tables e below (T.setTop (mkF m pc Ls (.long w :: rest))) (T.setFrames fs) := by
  have hm' : T.vm.method? m = some meth := X.method'
  show Steps p.tables e below (T.setTop { method := m, pc := pc, locals := Ls, stack := _ :: rest, locked := none }) _
  jvm_step X.here [X.here.top, hx, hd, hm', hret, narrow]
  first | (intro acts; rw [hr _ acts rfl rfl rfl]) | rw [hr _ _ rfl rfl rfl]
  exact Steps.refl _
theorem G.retJ {Q' : Int64 → Heap → Prop} {z : Int64} (B : Cx p s m meth c Z own nm bytes maxL (some .long) n0 h0 ws) (hd : decode bytes pc = .ok (.lreturn, 1)) (hc : cells ≤ R.cells) (hs : slots ≤ R.slots) (hQ : Q' z h) : G p l e R s m args below meth c n0 h0 ws (RJ Q') cells slots h (mkF m pc ls (.long z :: st)) :=
  G.out (v := some (.long z)) B (fun q => nomatch q) hc hs ⟨z, rfl, hQ⟩ (fun T locs k n fs X hr => own_retJ X B.1.1 B.2.1 (hb B.1.2.1 hd) hr)
theorem own_retA {T : State} {locs : List Loc} {Ls : Array Slot} {w : Addr} {rest : List Value} {t : FieldType} (X : Stand p l e R s m args below meth c T locs cells slots) (hx : p.tables.exec = Jvm.exec) (hret : meth.sig.returnType = some t) (ht : t.isReference = true) (hd : decode c.code pc = .ok (.areturn, 1)) {fs : List Frame}
    (hr : ∀ (f : JFrame) (acts : List Action), f.method = m → f.locked = none → f.entered = [] → (doReturn e (T.setTop f) acts (some (.ref w))).1 = T.setFrames fs) : Steps p.tables e below (T.setTop (mkF m pc Ls (.ref w :: rest))) (T.setFrames fs) := by
  have hm' : T.vm.method? m = some meth := X.method'
  show Steps p.tables e below (T.setTop { method := m, pc := pc, locals := Ls, stack := _ :: rest, locked := none }) _
  jvm_step X.here [X.here.top, hx, hd, hm', hret, Value.isRef, ht]
  first | (intro acts; rw [hr _ acts rfl rfl rfl]) | rw [hr _ _ rfl rfl rfl]
  exact Steps.refl _
theorem G.retA {Q' : Addr → Heap → Prop} {z : Addr} {t : FieldType} (B : Cx p s m meth c Z own nm bytes maxL (some t) n0 h0 ws) (ht : t.isReference = true) (hd : decode bytes pc = .ok (.areturn, 1)) (hc : cells ≤ R.cells) (hs : slots ≤ R.slots) (hQ : Q' z h) : G p l e R s m args below meth c n0 h0 ws (RA Q') cells slots h (mkF m pc ls (.ref z :: st)) :=
  G.out (v := some (.ref z)) B (fun q => nomatch q) hc hs ⟨z, rfl, hQ⟩ (fun T locs k n fs X hr => own_retA X B.1.1 B.2.1 ht (hb B.1.2.1 hd) hr)
theorem G.getF {R0 O n d host : String} {index : Nat} {a : Addr} {v : Value} (B : Cx p s m meth c Z own nm bytes maxL rt n0 h0 ws) (w : (Jvm.Cond.fieldLink own index R0 n d).before a0 Z = true ∨ (Jvm.Cond.fieldLinkNest own index R0 n d host).before a0 Z = true) (via : Via Z R0 O n d) (Fd : Fld Z h a O n d v) (hd : decode bytes pc = .ok (.getfield index, 3)) (hp : pc + 3 = pc') (kk : G p l e R s m args below meth c n0 h0 ws Q cells slots h (mkF m pc' ls (v :: st))) : G p l e R s m args below meth c n0 h0 ws Q cells slots h (mkF m pc ls (.ref a :: st)) := by
  subst hp
  exact G.stepT (fun T locs k n X eT => Jvm.RoadKit.getF X B.1.1 B.1.2.2.2.2 B.1.2.2.2.1 w via eT Fd (g := (mkF m pc ls (.ref a :: st))) rfl rfl (hb B.1.2.1 hd)) kk
theorem G.putF {R0 O n d C : String} {index kq : Nat} {ty : FieldType} {a : Addr} {v v' old : Value} (B : Cx p s m meth c Z own nm bytes maxL rt n0 h0 ws) (w : (Jvm.Cond.fieldLink own index R0 n d).before a0 Z = true) (via : Via Z R0 O n d) (Fd : Fld Z h a O n d old) (E : Exa Z h a C) (L : (Jvm.Cond.lays C O n d).before a0 Z = true ∨ ((Jvm.Cond.laysFinal C O n d).before a0 Z = true ∧ own = O ∧ nm = "<init>")) (wi : (Jvm.Cond.instantiable C kq).before a0 Z = true)
    (hty : parseFieldDescriptor d = some ty) (hn : narrow ty v = v') (hf : fits ty v' = true) (ha : a ∈ ws ∨ h0.size ≤ a) (hd : decode bytes pc = .ok (.putfield index, 3)) (hp : pc + 3 = pc') (kk : ∀ h', Wr h h' a (Jvm.RoadKit.slotOf Z O n d) v' → G p l e R s m args below meth c n0 h0 ws Q cells slots h' (mkF m pc' ls st)) : G p l e R s m args below meth c n0 h0 ws Q cells slots h (mkF m pc ls (v :: .ref a :: st)) := by
  subst hp
  exact G.wr B ha (fun T locs k n X eT => Jvm.RoadKit.putFN X B.1.1 B.1.2.2.2.2 B.1.2.2.2.1 w via eT Fd E (L.imp id (fun q => ⟨q.1, q.2.1, B.2.2.2.1.trans q.2.2⟩)) wi hty hn hf (g := (mkF m pc ls (v :: .ref a :: st))) rfl rfl (hb B.1.2.1 hd)) kk
theorem G.newO {C : String} {index q : Nat} (B : Cx p s m meth c Z own nm bytes maxL rt n0 h0 ws) (w : (Jvm.Cond.classLink own index C).before a0 Z = true) (wi : (Jvm.Cond.instantiable C q).before a0 Z = true) (wz : (Jvm.Cond.initialized C).before a0 Z = true) (hd : decode bytes pc = .ok (.new index, 3)) (hp : pc + 3 = pc') (hc : cells + 1 ≤ R.cells) (hl : slots + q ≤ R.slots)
    (kk : ∀ h' a, a = h.size → h0.size ≤ a → Keep h h' [] → a < h'.size → Exa Z h' a C → (∀ {O n d : String} {ty : FieldType}, Laid Z a0 C O n d → parseFieldDescriptor d = some ty → Fld Z h' a O n d (defaultValue ty)) → G p l e R s m args below meth c n0 h0 ws Q (cells + 1) (slots + q) h' (mkF m pc' ls (.ref a :: st))) : G p l e R s m args below meth c n0 h0 ws Q cells slots h (mkF m pc ls st) := fun T locs k n X hk hn eT N K => by
  subst hp
  obtain ⟨T', h', X', e', E', A', D', -, stp⟩ := Jvm.RoadKit.newO X B.1.1 B.1.2.2.2.2 B.1.2.2.2.1 w wi wz eT (g := (mkF m pc ls st)) rfl (hb B.1.2.1 hd) (Nat.le_trans (Nat.add_le_add_right hk 1) hc) (Nat.le_trans (Nat.add_le_add_right hn q) hl)
  obtain ⟨U, v, L, hs, r⟩ := kk h' h.size rfl K.1 ((Keep.refl h []).ext E') A'.lt A' D' T' locs (k + 1) (n + q) X' (Nat.add_le_add_right hk 1) (Nat.add_le_add_right hn q) e' N (K.ext E')
  exact ⟨U, v, L, stp U hs, r⟩
theorem G.initO {index W : Nat} {a : Addr} (B : Cx p s m meth c Z own nm bytes maxL rt n0 h0 ws) (w1 : (Jvm.Cond.methodLink own index Lib.objectInit).before a0 Z = true) (w2 : (Jvm.Cond.instanceMethod Lib.objectInit).before a0 Z = true) (w3 : (Jvm.Cond.code Lib.objectInit ⟨#[0xb1]⟩ 1 none).before a0 Z = true) (hsz : ls.size = maxL) (hd : decode bytes pc = .ok (.invokespecial index, 3)) (hp : pc + 3 = pc') (hf : 1 ≤ R.frames) (hW : 2 * 0 + (st.map fun v => v.category).sum ≤ W) (hl : W + 12 ≤ R.locals) (kk : G p l e R s m args below meth c n0 h0 ws Q cells slots h (mkF m pc' ls st)) : G p l e R s m args below meth c n0 h0 ws Q cells slots h (mkF m pc ls (.ref a :: st)) := by
  subst hp
  exact G.stepT (fun T locs k n X eT => Jvm.RoadKit.initO X B.1.1 B.1.2.2.2.2 B.1.2.2.2.1 w1 w2 w3 eT (g := (mkF m pc ls (.ref a :: st))) rfl (hsz.trans B.1.2.2.1.symm) rfl (hb B.1.2.1 hd) hf (W := W) hW hl) kk
/-- an array of longs, of length n, its elements f -/
def ArJ (Z : State) (h : Heap) (a : Addr) (n : Nat) (f : Nat → Int64) : Prop := ∃ cl : Cell, Arr Z h a cl .long ∧ cl.slots.size = n ∧ n < 2147483648 ∧ ∀ i, i < n → cl.slots[i]? = some (.long (f i))
/-- an array of ints, bytes, booleans, chars or shorts -/
def ArI (Z : State) (h : Heap) (a : Addr) (ty : FieldType) (n : Nat) (f : Nat → Int32) : Prop := ∃ cl : Cell, Arr Z h a cl ty ∧ cl.slots.size = n ∧ n < 2147483648 ∧ ∀ i, i < n → cl.slots[i]? = some (.int (f i))
/-- f with v at the place j -/
def up {α : Type} (f : Nat → α) (j : Nat) (v : α) : Nat → α := fun i => if i = j then v else f i
theorem ArJ.lt {a : Addr} {n : Nat} {f : Nat → Int64} (A : ArJ Z h a n f) : a < h.size := by obtain ⟨cl, A, -⟩ := A; exact A.lt
theorem ArI.lt {a : Addr} {ty : FieldType} {n : Nat} {f : Nat → Int32} (A : ArI Z h a ty n f) : a < h.size := by obtain ⟨cl, A, -⟩ := A; exact A.lt
theorem ArJ.keep {a : Addr} {n : Nat} {f : Nat → Int64} {h' : Heap} {vs : List Addr} (A : ArJ Z h a n f) (K : Keep h h' vs) (q : a ∉ vs) : ArJ Z h' a n f := by obtain ⟨cl, A, r⟩ := A; exact ⟨cl, ⟨K.2.1 a cl A.1 q, A.2⟩, r⟩
theorem ArI.keep {a : Addr} {ty : FieldType} {n : Nat} {f : Nat → Int32} {h' : Heap} {vs : List Addr} (A : ArI Z h a ty n f) (K : Keep h h' vs) (q : a ∉ vs) : ArI Z h' a ty n f := by obtain ⟨cl, A, r⟩ := A; exact ⟨cl, ⟨K.2.1 a cl A.1 q, A.2⟩, r⟩
theorem own_idx {j : Int32} {i n : Nat} (hj : j.toInt = (i : Int)) (hi : i < n) : ¬ (j < 0 ∨ n ≤ j.toNatClampNeg) ∧ j.toNatClampNeg = i := by
  have h1 : j.toNatClampNeg = i := by show j.toInt.toNat = i; omega
  refine ⟨?_, h1⟩
  rintro (q | q)
  · rw [Int32.lt_iff_toInt_lt, Int32.toInt_zero] at q; omega
  · omega
theorem own_set {a : Addr} {cl : Cell} {ty : FieldType} {h' : Heap} {i n : Nat} {v : Value} {g : Nat → Value} (A : Arr Z h a cl ty) (hs : cl.slots.size = n) (hv : ∀ i, i < n → cl.slots[i]? = some (g i)) (W : Wr h h' a i v) : ∃ cl' : Cell, Arr Z h' a cl' ty ∧ cl'.slots.size = n ∧ ∀ k, k < n → cl'.slots[k]? = some (if k = i then v else g k) := by
  obtain ⟨cb', q1, q2, q3, q4, q5, q6, q7⟩ := wr_at W A.1
  obtain ⟨r1, r2, r3⟩ := q7 rfl
  subst r1
  refine ⟨_, A.same W, q4.trans hs, fun k hk => ?_⟩
  by_cases e : k = i
  · subst e; rw [if_pos rfl]; exact r2
  · rw [if_neg e, q6 k e]; exact hv k hk
theorem ArJ.set {a : Addr} {n : Nat} {f : Nat → Int64} {h' : Heap} {i : Nat} {v : Int64} (A : ArJ Z h a n f) (W : Wr h h' a i (.long v)) : ArJ Z h' a n (up f i v) := by
  obtain ⟨cl, A, hs, hn, hv⟩ := A
  obtain ⟨cl', A', hs', hv'⟩ := own_set (g := fun i => .long (f i)) A hs hv W
  refine ⟨cl', A', hs', hn, fun k hk => ?_⟩
  rw [hv' k hk]; unfold up; split <;> rfl
theorem ArI.set {a : Addr} {ty : FieldType} {n : Nat} {f : Nat → Int32} {h' : Heap} {i : Nat} {v : Int32} (A : ArI Z h a ty n f) (W : Wr h h' a i (.int v)) : ArI Z h' a ty n (up f i v) := by
  obtain ⟨cl, A, hs, hn, hv⟩ := A
  obtain ⟨cl', A', hs', hv'⟩ := own_set (g := fun i => .int (f i)) A hs hv W
  refine ⟨cl', A', hs', hn, fun k hk => ?_⟩
  rw [hv' k hk]; unfold up; split <;> rfl
theorem ArJ.congr {a : Addr} {n : Nat} {f g : Nat → Int64} (A : ArJ Z h a n f) (q : ∀ i, i < n → f i = g i) : ArJ Z h a n g := by
  obtain ⟨cl, A, hs, hn, hv⟩ := A
  exact ⟨cl, A, hs, hn, fun i hi => by rw [← q i hi]; exact hv i hi⟩
theorem ArI.congr {a : Addr} {ty : FieldType} {n : Nat} {f g : Nat → Int32} (A : ArI Z h a ty n f) (q : ∀ i, i < n → f i = g i) : ArI Z h a ty n g := by
  obtain ⟨cl, A, hs, hn, hv⟩ := A
  exact ⟨cl, A, hs, hn, fun i hi => by rw [← q i hi]; exact hv i hi⟩
theorem G.stJ {a : Addr} {j : Int32} {i n : Nat} {f : Nat → Int64} {x : Int64} (B : Cx p s m meth c Z own nm bytes maxL rt n0 h0 ws) (A : ArJ Z h a n f) (hj : j.toInt = (i : Int)) (hi : i < n) (ha : a ∈ ws ∨ h0.size ≤ a) (hd : decode bytes pc = .ok (.lastore, 1)) (hp : pc + 1 = pc') (kk : ∀ h', Keep h h' [a] → ArJ Z h' a n (up f i x) → G p l e R s m args below meth c n0 h0 ws Q cells slots h' (mkF m pc' ls st)) : G p l e R s m args below meth c n0 h0 ws Q cells slots h (mkF m pc ls (.long x :: .int j :: .ref a :: st)) := by
  subst hp
  have A0 := A
  obtain ⟨cl, A, hs, hn, hv⟩ := A
  obtain ⟨hin, hjn⟩ := own_idx hj (hs.symm ▸ hi : i < cl.slots.size)
  exact G.wr B ha (fun T locs k n X eT => Jvm.RoadKit.stJ X B.1.1 B.1.2.2.2.2 eT A (j := j) hin (g := (mkF m pc ls (.long x :: .int j :: .ref a :: st))) rfl rfl (hb B.1.2.1 hd)) (fun h' W => kk h' (Keep.of_wr W) (A0.set (hjn ▸ W)))
theorem G.stI {a : Addr} {j : Int32} {i n : Nat} {f : Nat → Int32} {x : Int32} (B : Cx p s m meth c Z own nm bytes maxL rt n0 h0 ws) (A : ArI Z h a .int n f) (hj : j.toInt = (i : Int)) (hi : i < n) (ha : a ∈ ws ∨ h0.size ≤ a) (hd : decode bytes pc = .ok (.iastore, 1)) (hp : pc + 1 = pc') (kk : ∀ h', Keep h h' [a] → ArI Z h' a .int n (up f i x) → G p l e R s m args below meth c n0 h0 ws Q cells slots h' (mkF m pc' ls st)) : G p l e R s m args below meth c n0 h0 ws Q cells slots h (mkF m pc ls (.int x :: .int j :: .ref a :: st)) := by
  subst hp
  have A0 := A
  obtain ⟨cl, A, hs, hn, hv⟩ := A
  obtain ⟨hin, hjn⟩ := own_idx hj (hs.symm ▸ hi : i < cl.slots.size)
  exact G.wr B ha (fun T locs k n X eT => Jvm.RoadKit.stI X B.1.1 B.1.2.2.2.2 eT A (j := j) hin (g := (mkF m pc ls (.int x :: .int j :: .ref a :: st))) rfl rfl (hb B.1.2.1 hd)) (fun h' W => kk h' (Keep.of_wr W) (A0.set (hjn ▸ W)))
theorem G.stB {a : Addr} {j : Int32} {i n : Nat} {f : Nat → Int32} {x z : Int32} (B : Cx p s m meth c Z own nm bytes maxL rt n0 h0 ws) (A : ArI Z h a .byte n f) (hj : j.toInt = (i : Int)) (hi : i < n) (ha : a ∈ ws ∨ h0.size ≤ a) (hz : nar .byte x = z) (hd : decode bytes pc = .ok (.bastore, 1)) (hp : pc + 1 = pc') (kk : ∀ h', Keep h h' [a] → ArI Z h' a .byte n (up f i z) → G p l e R s m args below meth c n0 h0 ws Q cells slots h' (mkF m pc' ls st)) : G p l e R s m args below meth c n0 h0 ws Q cells slots h (mkF m pc ls (.int x :: .int j :: .ref a :: st)) := by
  subst hp hz
  have A0 := A
  obtain ⟨cl, A, hs, hn, hv⟩ := A
  obtain ⟨hin, hjn⟩ := own_idx hj (hs.symm ▸ hi : i < cl.slots.size)
  exact G.wr B ha (fun T locs k n X eT => Jvm.RoadKit.stB X B.1.1 B.1.2.2.2.2 eT A (j := j) hin (g := (mkF m pc ls (.int x :: .int j :: .ref a :: st))) rfl rfl (hb B.1.2.1 hd)) (fun h' W => kk h' (Keep.of_wr W) (A0.set (hjn ▸ W)))
theorem G.stZ {a : Addr} {j : Int32} {i n : Nat} {f : Nat → Int32} {x z : Int32} (B : Cx p s m meth c Z own nm bytes maxL rt n0 h0 ws) (A : ArI Z h a .boolean n f) (hj : j.toInt = (i : Int)) (hi : i < n) (ha : a ∈ ws ∨ h0.size ≤ a) (hz : nar .boolean x = z) (hd : decode bytes pc = .ok (.bastore, 1)) (hp : pc + 1 = pc') (kk : ∀ h', Keep h h' [a] → ArI Z h' a .boolean n (up f i z) → G p l e R s m args below meth c n0 h0 ws Q cells slots h' (mkF m pc' ls st)) : G p l e R s m args below meth c n0 h0 ws Q cells slots h (mkF m pc ls (.int x :: .int j :: .ref a :: st)) := by
  subst hp hz
  have A0 := A
  obtain ⟨cl, A, hs, hn, hv⟩ := A
  obtain ⟨hin, hjn⟩ := own_idx hj (hs.symm ▸ hi : i < cl.slots.size)
  exact G.wr B ha (fun T locs k n X eT => Jvm.RoadKit.stZ X B.1.1 B.1.2.2.2.2 eT A (j := j) hin (g := (mkF m pc ls (.int x :: .int j :: .ref a :: st))) rfl rfl (hb B.1.2.1 hd)) (fun h' W => kk h' (Keep.of_wr W) (A0.set (hjn ▸ W)))
theorem G.stC {a : Addr} {j : Int32} {i n : Nat} {f : Nat → Int32} {x z : Int32} (B : Cx p s m meth c Z own nm bytes maxL rt n0 h0 ws) (A : ArI Z h a .char n f) (hj : j.toInt = (i : Int)) (hi : i < n) (ha : a ∈ ws ∨ h0.size ≤ a) (hz : nar .char x = z) (hd : decode bytes pc = .ok (.castore, 1)) (hp : pc + 1 = pc') (kk : ∀ h', Keep h h' [a] → ArI Z h' a .char n (up f i z) → G p l e R s m args below meth c n0 h0 ws Q cells slots h' (mkF m pc' ls st)) : G p l e R s m args below meth c n0 h0 ws Q cells slots h (mkF m pc ls (.int x :: .int j :: .ref a :: st)) := by
  subst hp hz
  have A0 := A
  obtain ⟨cl, A, hs, hn, hv⟩ := A
  obtain ⟨hin, hjn⟩ := own_idx hj (hs.symm ▸ hi : i < cl.slots.size)
  exact G.wr B ha (fun T locs k n X eT => Jvm.RoadKit.stC X B.1.1 B.1.2.2.2.2 eT A (j := j) hin (g := (mkF m pc ls (.int x :: .int j :: .ref a :: st))) rfl rfl (hb B.1.2.1 hd)) (fun h' W => kk h' (Keep.of_wr W) (A0.set (hjn ▸ W)))
theorem G.ldJ {a : Addr} {j : Int32} {i n : Nat} {f : Nat → Int64} {x : Int64} (B : Cx p s m meth c Z own nm bytes maxL rt n0 h0 ws) (A : ArJ Z h a n f) (hj : j.toInt = (i : Int)) (hi : i < n) (hv : f i = x) (hd : decode bytes pc = .ok (.laload, 1)) (hp : pc + 1 = pc') (kk : G p l e R s m args below meth c n0 h0 ws Q cells slots h (mkF m pc' ls (.long x :: st))) : G p l e R s m args below meth c n0 h0 ws Q cells slots h (mkF m pc ls (.int j :: .ref a :: st)) := by
  subst hp hv
  obtain ⟨cl, A, hs, hn, hv⟩ := A
  obtain ⟨hin, hjn⟩ := own_idx hj (hs.symm ▸ hi : i < cl.slots.size)
  exact G.stepX (fun T locs k n t X eT q => X.laload B.1.1 (j := j) (by rw [eT]; exact A.1) (State.isArrayOf_alike B.1.2.2.2.2.alike A.2.1) A.2.2 hin (by rw [hjn]; exact hv i hi) (g := (mkF m pc ls (.int j :: .ref a :: st))) rfl rfl (hb B.1.2.1 hd) _ q) kk
theorem G.ldI {a : Addr} {j : Int32} {i n : Nat} {f : Nat → Int32} {x : Int32} (B : Cx p s m meth c Z own nm bytes maxL rt n0 h0 ws) (A : ArI Z h a .int n f) (hj : j.toInt = (i : Int)) (hi : i < n) (hv : f i = x) (hd : decode bytes pc = .ok (.iaload, 1)) (hp : pc + 1 = pc') (kk : G p l e R s m args below meth c n0 h0 ws Q cells slots h (mkF m pc' ls (.int x :: st))) : G p l e R s m args below meth c n0 h0 ws Q cells slots h (mkF m pc ls (.int j :: .ref a :: st)) := by
  subst hp hv
  obtain ⟨cl, A, hs, hn, hv⟩ := A
  obtain ⟨hin, hjn⟩ := own_idx hj (hs.symm ▸ hi : i < cl.slots.size)
  exact G.stepX (fun T locs k n t X eT q => X.iaload B.1.1 (j := j) (by rw [eT]; exact A.1) (State.isArrayOf_alike B.1.2.2.2.2.alike A.2.1) A.2.2 hin (by rw [hjn]; exact hv i hi) (g := (mkF m pc ls (.int j :: .ref a :: st))) rfl rfl (hb B.1.2.1 hd) _ q) kk
theorem G.ldC {a : Addr} {j : Int32} {i n : Nat} {f : Nat → Int32} {x : Int32} (B : Cx p s m meth c Z own nm bytes maxL rt n0 h0 ws) (A : ArI Z h a .char n f) (hj : j.toInt = (i : Int)) (hi : i < n) (hv : f i = x) (hd : decode bytes pc = .ok (.caload, 1)) (hp : pc + 1 = pc') (kk : G p l e R s m args below meth c n0 h0 ws Q cells slots h (mkF m pc' ls (.int x :: st))) : G p l e R s m args below meth c n0 h0 ws Q cells slots h (mkF m pc ls (.int j :: .ref a :: st)) := by
  subst hp hv
  obtain ⟨cl, A, hs, hn, hv⟩ := A
  obtain ⟨hin, hjn⟩ := own_idx hj (hs.symm ▸ hi : i < cl.slots.size)
  exact G.stepX (fun T locs k n t X eT q => X.caload B.1.1 (j := j) (by rw [eT]; exact A.1) (State.isArrayOf_alike B.1.2.2.2.2.alike A.2.1) A.2.2 hin (by rw [hjn]; exact hv i hi) (g := (mkF m pc ls (.int j :: .ref a :: st))) rfl rfl (hb B.1.2.1 hd) _ q) kk
theorem G.ldB {a : Addr} {j : Int32} {i n : Nat} {f : Nat → Int32} {x : Int32} (B : Cx p s m meth c Z own nm bytes maxL rt n0 h0 ws) (A : ArI Z h a .byte n f) (hj : j.toInt = (i : Int)) (hi : i < n) (hv : f i = x) (hd : decode bytes pc = .ok (.baload, 1)) (hp : pc + 1 = pc') (kk : G p l e R s m args below meth c n0 h0 ws Q cells slots h (mkF m pc' ls (.int x :: st))) : G p l e R s m args below meth c n0 h0 ws Q cells slots h (mkF m pc ls (.int j :: .ref a :: st)) := by
  subst hp hv
  obtain ⟨cl, A, hs, hn, hv⟩ := A
  obtain ⟨hin, hjn⟩ := own_idx hj (hs.symm ▸ hi : i < cl.slots.size)
  exact G.stepX (fun T locs k n t X eT q => X.baloadBytes B.1.1 (j := j) (by rw [eT]; exact A.1) (State.isArrayOf_alike B.1.2.2.2.2.alike A.2.1) A.2.2 hin (by rw [hjn]; exact hv i hi) (g := (mkF m pc ls (.int j :: .ref a :: st))) rfl rfl (hb B.1.2.1 hd) _ q) kk
theorem G.ldZ {a : Addr} {j : Int32} {i n : Nat} {f : Nat → Int32} {x : Int32} (B : Cx p s m meth c Z own nm bytes maxL rt n0 h0 ws) (A : ArI Z h a .boolean n f) (hj : j.toInt = (i : Int)) (hi : i < n) (hv : f i = x) (hd : decode bytes pc = .ok (.baload, 1)) (hp : pc + 1 = pc') (kk : G p l e R s m args below meth c n0 h0 ws Q cells slots h (mkF m pc' ls (.int x :: st))) : G p l e R s m args below meth c n0 h0 ws Q cells slots h (mkF m pc ls (.int j :: .ref a :: st)) := by
  subst hp hv
  obtain ⟨cl, A, hs, hn, hv⟩ := A
  obtain ⟨hin, hjn⟩ := own_idx hj (hs.symm ▸ hi : i < cl.slots.size)
  exact G.stepX (fun T locs k n t X eT q => X.baloadBooleans B.1.1 (j := j) (by rw [eT]; exact A.1) (State.isArrayOf_alike B.1.2.2.2.2.alike A.2.1) A.2.2 hin (by rw [hjn]; exact hv i hi) (g := (mkF m pc ls (.int j :: .ref a :: st))) rfl rfl (hb B.1.2.1 hd) _ q) kk
theorem G.lenJ {a : Addr} {n : Nat} {z : Int32} {f : Nat → Int64} (B : Cx p s m meth c Z own nm bytes maxL rt n0 h0 ws) (A : ArJ Z h a n f) (hz : Int32.ofNat n = z) (hd : decode bytes pc = .ok (.arraylength, 1)) (hp : pc + 1 = pc') (kk : G p l e R s m args below meth c n0 h0 ws Q cells slots h (mkF m pc' ls (.int z :: st))) : G p l e R s m args below meth c n0 h0 ws Q cells slots h (mkF m pc ls (.ref a :: st)) := by
  subst hp hz
  obtain ⟨cl, A, hs, hn, hv⟩ := A
  subst hs
  exact G.stepX (fun T locs k n t X eT q => X.arraylength B.1.1 (by rw [eT]; exact A.1) (State.isArrayOf_alike B.1.2.2.2.2.alike A.2.1) (g := (mkF m pc ls (.ref a :: st))) rfl rfl (hb B.1.2.1 hd) _ q) kk
theorem G.lenI {a : Addr} {n : Nat} {z : Int32} {f : Nat → Int32} {ty : FieldType} (B : Cx p s m meth c Z own nm bytes maxL rt n0 h0 ws) (A : ArI Z h a ty n f) (hz : Int32.ofNat n = z) (hd : decode bytes pc = .ok (.arraylength, 1)) (hp : pc + 1 = pc') (kk : G p l e R s m args below meth c n0 h0 ws Q cells slots h (mkF m pc' ls (.int z :: st))) : G p l e R s m args below meth c n0 h0 ws Q cells slots h (mkF m pc ls (.ref a :: st)) := by
  subst hp hz
  obtain ⟨cl, A, hs, hn, hv⟩ := A
  subst hs
  exact G.stepX (fun T locs k n t X eT q => X.arraylength B.1.1 (by rw [eT]; exact A.1) (State.isArrayOf_alike B.1.2.2.2.2.alike A.2.1) (g := (mkF m pc ls (.ref a :: st))) rfl rfl (hb B.1.2.1 hd) _ q) kk
theorem own_newJ {a : Addr} {cA : ClassId} {z : Int32} {n : Nat} (A : Arr Z h a (newA cA .long z) .long) (hz : z.toInt = (n : Int)) : ArJ Z h a n (fun _ => 0) := by
  have hr := rng32 z
  have h1 : z.toNatClampNeg = n := by show z.toInt.toNat = n; omega
  exact ⟨_, A, (sz_new _ _ _).trans h1, by omega, fun i hi => by simp [newA, h1, hi, defaultValue]⟩
theorem own_newI {a : Addr} {cA : ClassId} {z : Int32} {n : Nat} {ty : FieldType} (hd : defaultValue ty = .int 0) (A : Arr Z h a (newA cA ty z) ty) (hz : z.toInt = (n : Int)) : ArI Z h a ty n (fun _ => 0) := by
  have hr := rng32 z
  have h1 : z.toNatClampNeg = n := by show z.toInt.toNat = n; omega
  exact ⟨_, A, (sz_new _ _ _).trans h1, by omega, fun i hi => by simp [newA, h1, hi, hd]⟩
theorem G.newJ {z : Int32} {n cap : Nat} (B : Cx p s m meth c Z own nm bytes maxL rt n0 h0 ws) (w : (Jvm.Cond.arrayClass .long).before a0 Z = true) (hz : z.toInt = (n : Int)) (hcap : n ≤ cap) (hb8 : cap * 8 ≤ 536870912) (hd : decode bytes pc = .ok (.newarray .long, 2)) (hp : pc + 2 = pc') (hc : cells + 1 ≤ R.cells) (hl : slots + cap ≤ R.slots)
    (kk : ∀ h' a, a = h.size → h0.size ≤ a → Keep h h' [] → ArJ Z h' a n (fun _ => 0) → G p l e R s m args below meth c n0 h0 ws Q (cells + 1) (slots + cap) h' (mkF m pc' ls (.ref a :: st))) : G p l e R s m args below meth c n0 h0 ws Q cells slots h (mkF m pc ls (.int z :: st)) := fun T locs k n' X hk hn eT N K => by
  subst hp
  have hr := rng32 z
  have h1 : z.toNatClampNeg = n := by show z.toInt.toNat = n; omega
  obtain ⟨T', h', cA, X', e', E', A', stp⟩ := Jvm.RoadKit.newP X B.1.1 B.1.2.2.2.2 (aty := .long) w eT (g := (mkF m pc ls (.int z :: st))) rfl (hb B.1.2.1 hd) rfl (fun q => by rw [Int32.lt_iff_toInt_lt, Int32.toInt_zero] at q; omega) (cap := cap) (by omega) hb8 (Nat.le_trans (Nat.add_le_add_right hk 1) hc) (Nat.le_trans (Nat.add_le_add_right hn cap) hl)
  obtain ⟨U, v, L, hs, r⟩ := kk h' h.size rfl K.1 ((Keep.refl h []).ext E') (own_newJ A' hz) T' locs (k + 1) (n' + cap) X' (Nat.add_le_add_right hk 1) (Nat.add_le_add_right hn cap) e' N (K.ext E')
  exact ⟨U, v, L, stp U hs, r⟩
theorem G.newI {z : Int32} {n cap : Nat} (B : Cx p s m meth c Z own nm bytes maxL rt n0 h0 ws) (w : (Jvm.Cond.arrayClass .int).before a0 Z = true) (hz : z.toInt = (n : Int)) (hcap : n ≤ cap) (hb8 : cap * 8 ≤ 536870912) (hd : decode bytes pc = .ok (.newarray .int, 2)) (hp : pc + 2 = pc') (hc : cells + 1 ≤ R.cells) (hl : slots + cap ≤ R.slots)
    (kk : ∀ h' a, a = h.size → h0.size ≤ a → Keep h h' [] → ArI Z h' a .int n (fun _ => 0) → G p l e R s m args below meth c n0 h0 ws Q (cells + 1) (slots + cap) h' (mkF m pc' ls (.ref a :: st))) : G p l e R s m args below meth c n0 h0 ws Q cells slots h (mkF m pc ls (.int z :: st)) := fun T locs k n' X hk hn eT N K => by
  subst hp
  have hr := rng32 z
  have h1 : z.toNatClampNeg = n := by show z.toInt.toNat = n; omega
  obtain ⟨T', h', cA, X', e', E', A', stp⟩ := Jvm.RoadKit.newP X B.1.1 B.1.2.2.2.2 (aty := .int) w eT (g := (mkF m pc ls (.int z :: st))) rfl (hb B.1.2.1 hd) rfl (fun q => by rw [Int32.lt_iff_toInt_lt, Int32.toInt_zero] at q; omega) (cap := cap) (by omega) hb8 (Nat.le_trans (Nat.add_le_add_right hk 1) hc) (Nat.le_trans (Nat.add_le_add_right hn cap) hl)
  obtain ⟨U, v, L, hs, r⟩ := kk h' h.size rfl K.1 ((Keep.refl h []).ext E') (own_newI rfl A' hz) T' locs (k + 1) (n' + cap) X' (Nat.add_le_add_right hk 1) (Nat.add_le_add_right hn cap) e' N (K.ext E')
  exact ⟨U, v, L, stp U hs, r⟩
theorem G.newB {z : Int32} {n cap : Nat} (B : Cx p s m meth c Z own nm bytes maxL rt n0 h0 ws) (w : (Jvm.Cond.arrayClass .byte).before a0 Z = true) (hz : z.toInt = (n : Int)) (hcap : n ≤ cap) (hb8 : cap * 8 ≤ 536870912) (hd : decode bytes pc = .ok (.newarray .byte, 2)) (hp : pc + 2 = pc') (hc : cells + 1 ≤ R.cells) (hl : slots + cap ≤ R.slots)
    (kk : ∀ h' a, a = h.size → h0.size ≤ a → Keep h h' [] → ArI Z h' a .byte n (fun _ => 0) → G p l e R s m args below meth c n0 h0 ws Q (cells + 1) (slots + cap) h' (mkF m pc' ls (.ref a :: st))) : G p l e R s m args below meth c n0 h0 ws Q cells slots h (mkF m pc ls (.int z :: st)) := fun T locs k n' X hk hn eT N K => by
  subst hp
  have hr := rng32 z
  have h1 : z.toNatClampNeg = n := by show z.toInt.toNat = n; omega
  obtain ⟨T', h', cA, X', e', E', A', stp⟩ := Jvm.RoadKit.newP X B.1.1 B.1.2.2.2.2 (aty := .byte) w eT (g := (mkF m pc ls (.int z :: st))) rfl (hb B.1.2.1 hd) rfl (fun q => by rw [Int32.lt_iff_toInt_lt, Int32.toInt_zero] at q; omega) (cap := cap) (by omega) hb8 (Nat.le_trans (Nat.add_le_add_right hk 1) hc) (Nat.le_trans (Nat.add_le_add_right hn cap) hl)
  obtain ⟨U, v, L, hs, r⟩ := kk h' h.size rfl K.1 ((Keep.refl h []).ext E') (own_newI rfl A' hz) T' locs (k + 1) (n' + cap) X' (Nat.add_le_add_right hk 1) (Nat.add_le_add_right hn cap) e' N (K.ext E')
  exact ⟨U, v, L, stp U hs, r⟩
theorem G.newZ {z : Int32} {n cap : Nat} (B : Cx p s m meth c Z own nm bytes maxL rt n0 h0 ws) (w : (Jvm.Cond.arrayClass .boolean).before a0 Z = true) (hz : z.toInt = (n : Int)) (hcap : n ≤ cap) (hb8 : cap * 8 ≤ 536870912) (hd : decode bytes pc = .ok (.newarray .boolean, 2)) (hp : pc + 2 = pc') (hc : cells + 1 ≤ R.cells) (hl : slots + cap ≤ R.slots)
    (kk : ∀ h' a, a = h.size → h0.size ≤ a → Keep h h' [] → ArI Z h' a .boolean n (fun _ => 0) → G p l e R s m args below meth c n0 h0 ws Q (cells + 1) (slots + cap) h' (mkF m pc' ls (.ref a :: st))) : G p l e R s m args below meth c n0 h0 ws Q cells slots h (mkF m pc ls (.int z :: st)) := fun T locs k n' X hk hn eT N K => by
  subst hp
  have hr := rng32 z
  have h1 : z.toNatClampNeg = n := by show z.toInt.toNat = n; omega
  obtain ⟨T', h', cA, X', e', E', A', stp⟩ := Jvm.RoadKit.newP X B.1.1 B.1.2.2.2.2 (aty := .boolean) w eT (g := (mkF m pc ls (.int z :: st))) rfl (hb B.1.2.1 hd) rfl (fun q => by rw [Int32.lt_iff_toInt_lt, Int32.toInt_zero] at q; omega) (cap := cap) (by omega) hb8 (Nat.le_trans (Nat.add_le_add_right hk 1) hc) (Nat.le_trans (Nat.add_le_add_right hn cap) hl)
  obtain ⟨U, v, L, hs, r⟩ := kk h' h.size rfl K.1 ((Keep.refl h []).ext E') (own_newI rfl A' hz) T' locs (k + 1) (n' + cap) X' (Nat.add_le_add_right hk 1) (Nat.add_le_add_right hn cap) e' N (K.ext E')
  exact ⟨U, v, L, stp U hs, r⟩
theorem G.newC {z : Int32} {n cap : Nat} (B : Cx p s m meth c Z own nm bytes maxL rt n0 h0 ws) (w : (Jvm.Cond.arrayClass .char).before a0 Z = true) (hz : z.toInt = (n : Int)) (hcap : n ≤ cap) (hb8 : cap * 8 ≤ 536870912) (hd : decode bytes pc = .ok (.newarray .char, 2)) (hp : pc + 2 = pc') (hc : cells + 1 ≤ R.cells) (hl : slots + cap ≤ R.slots)
    (kk : ∀ h' a, a = h.size → h0.size ≤ a → Keep h h' [] → ArI Z h' a .char n (fun _ => 0) → G p l e R s m args below meth c n0 h0 ws Q (cells + 1) (slots + cap) h' (mkF m pc' ls (.ref a :: st))) : G p l e R s m args below meth c n0 h0 ws Q cells slots h (mkF m pc ls (.int z :: st)) := fun T locs k n' X hk hn eT N K => by
  subst hp
  have hr := rng32 z
  have h1 : z.toNatClampNeg = n := by show z.toInt.toNat = n; omega
  obtain ⟨T', h', cA, X', e', E', A', stp⟩ := Jvm.RoadKit.newP X B.1.1 B.1.2.2.2.2 (aty := .char) w eT (g := (mkF m pc ls (.int z :: st))) rfl (hb B.1.2.1 hd) rfl (fun q => by rw [Int32.lt_iff_toInt_lt, Int32.toInt_zero] at q; omega) (cap := cap) (by omega) hb8 (Nat.le_trans (Nat.add_le_add_right hk 1) hc) (Nat.le_trans (Nat.add_le_add_right hn cap) hl)
  obtain ⟨U, v, L, hs, r⟩ := kk h' h.size rfl K.1 ((Keep.refl h []).ext E') (own_newI rfl A' hz) T' locs (k + 1) (n' + cap) X' (Nat.add_le_add_right hk 1) (Nat.add_le_add_right hn cap) e' N (K.ext E')
  exact ⟨U, v, L, stp U hs, r⟩
theorem own_back {y : MethodName} {bytes' : ByteArray} {maxL' : Nat} {rt' : Option FieldType} {rm : Room} {as' : Array Value} {ws' : List Addr} {Q' : Option Value → Heap → Prop} {len W : Nat} (B : Cx p s m meth c Z own nm bytes maxL rt n0 h0 ws) (M : Mt l Z y bytes' maxL' rt' [] rm n0 as' h ws' Q') (wc : (Jvm.Cond.code y bytes' maxL' rt').before a0 Z = true) (wz : (Jvm.Cond.initialized y.cls).before a0 Z = true) (hf : rm.frames + 1 ≤ R.frames) (hl : W + (maxL' + 11) + rm.locals ≤ R.locals) :
    Back l R p e below s args y len W (fun A a => a = as' ∧ A.U.heap = h ∧ A.cells + rm.cells ≤ R.cells ∧ A.slots + rm.slots ≤ R.slots) (fun A _ v B => ∃ L, (Fr n0 L ∧ Keep h B.U.heap ws' ∧ Q' v B.U.heap) ∧ B.locs = A.locs ++ L ∧ B.cells = A.cells + rm.cells ∧ B.slots = A.slots + rm.slots) :=
  backOf (Q := fun v hh L => Fr n0 L ∧ Keep h hh ws' ∧ Q' v hh) M B.1.2.2.2.2 wc wz hf hl
theorem G.callS {y : MethodName} {bytes' : ByteArray} {maxL' : Nat} {rt' : Option FieldType} {rm : Room} {ws' : List Addr} {Q' : Option Value → Heap → Prop} {index W : Nat} {argsL rest : List Value} (B : Cx p s m meth c Z own nm bytes maxL rt n0 h0 ws) (w1 : (Jvm.Cond.methodLink own index y).before a0 Z = true) (w2 : (Jvm.Cond.static y).before a0 Z = true) (M : Mt l Z y bytes' maxL' rt' [] rm n0 argsL.toArray h ws' Q') (hws : ∀ x ∈ ws', x ∈ ws ∨ h0.size ≤ x) (wc : (Jvm.Cond.code y bytes' maxL' rt').before a0 Z = true) (wz : (Jvm.Cond.initialized y.cls).before a0 Z = true) (hy : y.cls ≠ "java/lang/invoke/MethodHandle" ∧ y.cls ≠ "java/lang/invoke/VarHandle") (hsz : ls.size = maxL) (hst : st = argsL.reverse ++ rest) (hlen : ∀ sig, parseMethodDescriptor y.desc = some sig → argsL.length = sig.parameters.length) (hf : rm.frames + 1 ≤ R.frames) (hW : 2 * 0 + (rest.map fun v => v.category).sum ≤ W) (hl : W + (maxL' + 11) + rm.locals ≤ R.locals) (hc : cells + rm.cells ≤ R.cells) (hs : slots + rm.slots ≤ R.slots) (hd : decode bytes pc = .ok (.invokestatic index, 3)) (hp : pc + 3 = pc')
    (kk : ∀ v h', Keep h h' ws' → Q' v h' → G p l e R s m args below meth c n0 h0 ws Q (cells + rm.cells) (slots + rm.slots) h' (mkF m pc' ls (v.toList ++ rest))) : G p l e R s m args below meth c n0 h0 ws Q cells slots h (mkF m pc ls st) := fun T locs k n X hk hn eT N K => by
  subst hp hst
  obtain ⟨v, _, ⟨T', L', k', n'⟩, -, X', ⟨Lc, hQ, l1, y1, z1⟩, stp⟩ := Jvm.LawKit.callS X B.1.1 (y := y) B.1.2.2.2.1 (mvT B.1.2.2.2.2 w1) (mvT B.1.2.2.2.2 w2) (mvT B.1.2.2.2.2 wz) (mvT B.1.2.2.2.2 wc) hy (own_back (W := W) B M wc wz hf hl) (g := (mkF m pc ls (argsL.reverse ++ rest))) rfl (hsz.trans B.1.2.2.1.symm) (argsL := argsL) (rest := rest) hlen rfl hW (hb B.1.2.1 hd) (fun _ _ => ⟨rfl, eT, Nat.le_trans (Nat.add_le_add_right hk _) hc, Nat.le_trans (Nat.add_le_add_right hn _) hs⟩)
  dsimp only [Pt.U, Pt.locs, Pt.cells, Pt.slots] at X' l1 y1 z1 stp hQ
  subst l1 y1 z1
  obtain ⟨U, v, L, hs', r⟩ := kk v T'.heap hQ.2.1 hQ.2.2 T' (locs ++ Lc) _ _ X' (Nat.add_le_add_right hk _) (Nat.add_le_add_right hn _) rfl (Fr.app N hQ.1) (K.trans hQ.2.1 hws)
  exact ⟨U, v, L, stp _ hs', r⟩
theorem G.callC {a : Addr} {y : MethodName} {bytes' : ByteArray} {maxL' : Nat} {rt' : Option FieldType} {rm : Room} {ws' : List Addr} {Q' : Option Value → Heap → Prop} {index W : Nat} {argsL rest : List Value} (B : Cx p s m meth c Z own nm bytes maxL rt n0 h0 ws) (w0 : y.name = "<init>") (w1 : (Jvm.Cond.methodLink own index y).before a0 Z = true) (w2 : (Jvm.Cond.instanceMethod y).before a0 Z = true) (hrt : rt' = none) (M : Mt l Z y bytes' maxL' rt' [] rm n0 (.ref a :: argsL).toArray h ws' Q') (hws : ∀ x ∈ ws', x ∈ ws ∨ h0.size ≤ x) (wc : (Jvm.Cond.code y bytes' maxL' rt').before a0 Z = true) (wz : (Jvm.Cond.initialized y.cls).before a0 Z = true) (hy : y.cls ≠ "java/lang/invoke/MethodHandle" ∧ y.cls ≠ "java/lang/invoke/VarHandle") (hsz : ls.size = maxL) (hst : st = argsL.reverse ++ .ref a :: rest) (hlen : ∀ sig, parseMethodDescriptor y.desc = some sig → argsL.length = sig.parameters.length) (hf : rm.frames + 1 ≤ R.frames) (hW : 2 * 0 + (rest.map fun v => v.category).sum ≤ W) (hl : W + (maxL' + 11) + rm.locals ≤ R.locals) (hc : cells + rm.cells ≤ R.cells) (hs : slots + rm.slots ≤ R.slots) (hd : decode bytes pc = .ok (.invokespecial index, 3)) (hp : pc + 3 = pc')
    (kk : ∀ v h', Keep h h' ws' → Q' v h' → G p l e R s m args below meth c n0 h0 ws Q (cells + rm.cells) (slots + rm.slots) h' (mkF m pc' ls (v.toList ++ rest))) : G p l e R s m args below meth c n0 h0 ws Q cells slots h (mkF m pc ls st) := fun T locs k n X hk hn eT N K => by
  subst hp hst
  subst hrt
  obtain ⟨v, _, ⟨T', L', k', n'⟩, -, X', ⟨Lc, hQ, l1, y1, z1⟩, stp⟩ := X.specialBack B.1.1 (y := y) w0 B.1.2.2.2.1 (mvT B.1.2.2.2.2 w1) (mvT B.1.2.2.2.2 w2) (mvT B.1.2.2.2.2 wc) hy (own_back (W := W) B M wc wz hf hl) (g := (mkF m pc ls (argsL.reverse ++ .ref a :: rest))) rfl (hsz.trans B.1.2.2.1.symm) (Steps.refl _) (a := a) (argsL := argsL) (rest := rest) hlen rfl hW (hb B.1.2.1 hd) (fun _ _ => ⟨rfl, eT, Nat.le_trans (Nat.add_le_add_right hk _) hc, Nat.le_trans (Nat.add_le_add_right hn _) hs⟩)
  dsimp only [Pt.U, Pt.locs, Pt.cells, Pt.slots] at X' l1 y1 z1 stp hQ
  subst l1 y1 z1
  obtain ⟨U, v, L, hs', r⟩ := kk v T'.heap hQ.2.1 hQ.2.2 T' (locs ++ Lc) _ _ X' (Nat.add_le_add_right hk _) (Nat.add_le_add_right hn _) rfl (Fr.app N hQ.1) (K.trans hQ.2.1 hws)
  exact ⟨U, v, L, stp.trans hs', r⟩
theorem G.callV {a : Addr} {y : MethodName} {bytes' : ByteArray} {maxL' : Nat} {rt' : Option FieldType} {rm : Room} {ws' : List Addr} {Q' : Option Value → Heap → Prop} {index W : Nat} {argsL rest : List Value} (B : Cx p s m meth c Z own nm bytes maxL rt n0 h0 ws) (E : Exa Z h a y.cls) (w1 : (Jvm.Cond.methodLink own index y).before a0 Z = true) (w2 : (Jvm.Cond.declares y).before a0 Z = true) (w3 : (Jvm.Cond.selects y.cls y y).before a0 Z = true) (w4 : (Jvm.Cond.instanceMethod y).before a0 Z = true) (M : Mt l Z y bytes' maxL' rt' [] rm n0 (.ref a :: argsL).toArray h ws' Q') (hws : ∀ x ∈ ws', x ∈ ws ∨ h0.size ≤ x) (wc : (Jvm.Cond.code y bytes' maxL' rt').before a0 Z = true) (wz : (Jvm.Cond.initialized y.cls).before a0 Z = true) (hy : y.cls ≠ "java/lang/invoke/MethodHandle" ∧ y.cls ≠ "java/lang/invoke/VarHandle") (hsz : ls.size = maxL) (hst : st = argsL.reverse ++ .ref a :: rest) (hlen : ∀ sig, parseMethodDescriptor y.desc = some sig → argsL.length = sig.parameters.length) (hf : rm.frames + 1 ≤ R.frames) (hW : 2 * 0 + (rest.map fun v => v.category).sum ≤ W) (hl : W + (maxL' + 11) + rm.locals ≤ R.locals) (hc : cells + rm.cells ≤ R.cells) (hs : slots + rm.slots ≤ R.slots) (hd : decode bytes pc = .ok (.invokevirtual index, 3)) (hp : pc + 3 = pc')
    (kk : ∀ v h', Keep h h' ws' → Q' v h' → G p l e R s m args below meth c n0 h0 ws Q (cells + rm.cells) (slots + rm.slots) h' (mkF m pc' ls (v.toList ++ rest))) : G p l e R s m args below meth c n0 h0 ws Q cells slots h (mkF m pc ls st) := fun T locs k n X hk hn eT N K => by
  subst hp hst
  obtain ⟨cq, kq, qa, qb, qc⟩ := isOf B.1.2.2.2.2 eT E
  obtain ⟨v, _, ⟨T', L', k', n'⟩, -, X', ⟨Lc, hQ, l1, y1, z1⟩, stp⟩ := X.virtualBack B.1.1 (y := y) (z := y) B.1.2.2.2.1 (mvT B.1.2.2.2.2 w1) (mvT B.1.2.2.2.2 w2) (notFace_of_selects (args := #[]) (mvT B.1.2.2.2.2 w3)) (mvT B.1.2.2.2.2 w3) (mvT B.1.2.2.2.2 w4) hy (own_back (W := W) B M wc wz hf hl) qa qc (g := (mkF m pc ls (argsL.reverse ++ .ref a :: rest))) rfl (hsz.trans B.1.2.2.1.symm) (Steps.refl _) (argsL := argsL) (rest := rest) hlen rfl hW (hb B.1.2.1 hd) (fun _ _ => ⟨rfl, eT, Nat.le_trans (Nat.add_le_add_right hk _) hc, Nat.le_trans (Nat.add_le_add_right hn _) hs⟩)
  dsimp only [Pt.U, Pt.locs, Pt.cells, Pt.slots] at X' l1 y1 z1 stp hQ
  subst l1 y1 z1
  obtain ⟨U, v, L, hs', r⟩ := kk v T'.heap hQ.2.1 hQ.2.2 T' (locs ++ Lc) _ _ X' (Nat.add_le_add_right hk _) (Nat.add_le_add_right hn _) rfl (Fr.app N hQ.1) (K.trans hQ.2.1 hws)
  exact ⟨U, v, L, stp.trans hs', r⟩
theorem own_sel {args : Array Value} {s : State} {y z : MethodName} {K : String} (hz : (Jvm.Cond.selects K z z).before args s = true) (hcl : z.cls = y.cls) (hinst : (Jvm.Cond.instanceMethod y).before args s = true) (hpriv : s.PrivateAt y) (hy : y.cls ≠ "java/lang/invoke/MethodHandle" ∧ y.cls ≠ "java/lang/invoke/VarHandle") : (Jvm.Cond.selects y.cls y y).before args s = true := by
  obtain ⟨mk, meth, hnamed, hmeth, hst, hab⟩ := Cond.instanceMethod_spec hinst
  obtain ⟨c2, r2, m2, q1, q2, q3, q4, kP, hkP, hkPi⟩ := Cond.selects_spec hz
  have h1 := findClass_of_methodNamed hnamed
  have h2 := findClass_of_methodNamed q3
  rw [hcl, h1] at h2
  have h3 : mk.cls = m2.cls := Option.some.inj h2
  rw [← h3] at hkP
  have h4 := State.methodFound?_of_named hnamed hy
  have h5 := selectMethod_private (p := {}) (c := mk.cls) hmeth (hpriv mk meth hnamed hmeth)
  simp [Cond.before, Cond.holds, Cond.value, h1, h4, hnamed, h5, hkP, hkPi]
theorem G.callP {a : Addr} {z : MethodName} {K : String} {y : MethodName} {bytes' : ByteArray} {maxL' : Nat} {rt' : Option FieldType} {rm : Room} {ws' : List Addr} {Q' : Option Value → Heap → Prop} {index W : Nat} {argsL rest : List Value} (B : Cx p s m meth c Z own nm bytes maxL rt n0 h0 ws) (E : Exa Z h a y.cls) (w1 : (Jvm.Cond.methodLink own index y).before a0 Z = true) (w2 : (Jvm.Cond.privateMethod y).before a0 Z = true) (w3 : (Jvm.Cond.selects K z z).before a0 Z = true) (hcl : z.cls = y.cls) (w4 : (Jvm.Cond.instanceMethod y).before a0 Z = true) (M : Mt l Z y bytes' maxL' rt' [] rm n0 (.ref a :: argsL).toArray h ws' Q') (hws : ∀ x ∈ ws', x ∈ ws ∨ h0.size ≤ x) (wc : (Jvm.Cond.code y bytes' maxL' rt').before a0 Z = true) (wz : (Jvm.Cond.initialized y.cls).before a0 Z = true) (hy : y.cls ≠ "java/lang/invoke/MethodHandle" ∧ y.cls ≠ "java/lang/invoke/VarHandle") (hsz : ls.size = maxL) (hst : st = argsL.reverse ++ .ref a :: rest) (hlen : ∀ sig, parseMethodDescriptor y.desc = some sig → argsL.length = sig.parameters.length) (hf : rm.frames + 1 ≤ R.frames) (hW : 2 * 0 + (rest.map fun v => v.category).sum ≤ W) (hl : W + (maxL' + 11) + rm.locals ≤ R.locals) (hc : cells + rm.cells ≤ R.cells) (hs : slots + rm.slots ≤ R.slots) (hd : decode bytes pc = .ok (.invokevirtual index, 3)) (hp : pc + 3 = pc')
    (kk : ∀ v h', Keep h h' ws' → Q' v h' → G p l e R s m args below meth c n0 h0 ws Q (cells + rm.cells) (slots + rm.slots) h' (mkF m pc' ls (v.toList ++ rest))) : G p l e R s m args below meth c n0 h0 ws Q cells slots h (mkF m pc ls st) := fun T locs k n X hk hn eT N K => by
  subst hp hst
  obtain ⟨cq, q1, q2⟩ := E.cell
  obtain ⟨v, _, ⟨T', L', k', n'⟩, -, X', ⟨Lc, hQ, l1, y1, z1⟩, stp⟩ := X.privateBack B.1.1 (y := y) B.1.2.2.2.1 (mvT B.1.2.2.2.2 w1) (mvT B.1.2.2.2.2 w4) (own_sel (mvT B.1.2.2.2.2 w3) hcl (mvT B.1.2.2.2.2 w4) (Cond.privateMethod_at (mvP B.1.2.2.2.2 w2 (args := #[]))) hy) (Cond.privateMethod_at (mvP B.1.2.2.2.2 w2 (args := #[]))) (mvT B.1.2.2.2.2 wc) hy (own_back (W := W) B M wc wz hf hl) (g := (mkF m pc ls (argsL.reverse ++ .ref a :: rest))) rfl (hsz.trans B.1.2.2.1.symm) (Steps.refl _) (a := a) (by rw [eT]; exact q1) q2 (argsL := argsL) (rest := rest) hlen rfl hW (hb B.1.2.1 hd) (fun _ _ => ⟨rfl, eT, Nat.le_trans (Nat.add_le_add_right hk _) hc, Nat.le_trans (Nat.add_le_add_right hn _) hs⟩)
  dsimp only [Pt.U, Pt.locs, Pt.cells, Pt.slots] at X' l1 y1 z1 stp hQ
  subst l1 y1 z1
  obtain ⟨U, v, L, hs', r⟩ := kk v T'.heap hQ.2.1 hQ.2.2 T' (locs ++ Lc) _ _ X' (Nat.add_le_add_right hk _) (Nat.add_le_add_right hn _) rfl (Fr.app N hQ.1) (K.trans hQ.2.1 hws)
  exact ⟨U, v, L, stp.trans hs', r⟩
end OwnKit
theorem d1_0 : decode prog_18_method_23_code 0 = .ok (.lload_n 0, 1) := by decide +kernel
theorem d1_1 : decode prog_18_method_23_code 1 = .ok (.lload 4, 2) := by decide +kernel
theorem d1_3 : decode prog_18_method_23_code 3 = .ok (.lcmp, 1) := by decide +kernel
theorem d1_4 : decode prog_18_method_23_code 4 = .ok (.ifCond .lt 17, 3) := by decide +kernel
theorem d1_7 : decode prog_18_method_23_code 7 = .ok (.lload_n 0, 1) := by decide +kernel
theorem d1_8 : decode prog_18_method_23_code 8 = .ok (.lload 4, 2) := by decide +kernel
theorem d1_10 : decode prog_18_method_23_code 10 = .ok (.lcmp, 1) := by decide +kernel
theorem d1_11 : decode prog_18_method_23_code 11 = .ok (.ifCond .ne 14, 3) := by decide +kernel
theorem d1_14 : decode prog_18_method_23_code 14 = .ok (.lload_n 2, 1) := by decide +kernel
theorem d1_15 : decode prog_18_method_23_code 15 = .ok (.lload 6, 2) := by decide +kernel
theorem d1_17 : decode prog_18_method_23_code 17 = .ok (.lcmp, 1) := by decide +kernel
theorem d1_18 : decode prog_18_method_23_code 18 = .ok (.ifCond .ge 7, 3) := by decide +kernel
theorem d1_21 : decode prog_18_method_23_code 21 = .ok (.iconst 1, 1) := by decide +kernel
theorem d1_22 : decode prog_18_method_23_code 22 = .ok (.goto 4, 3) := by decide +kernel
theorem d1_25 : decode prog_18_method_23_code 25 = .ok (.iconst 0, 1) := by decide +kernel
theorem d1_26 : decode prog_18_method_23_code 26 = .ok (.ireturn, 1) := by decide +kernel
theorem pn_1 : plainFor (⟨"com/example/tideloop/tideloop/MessageHeap", "earlier", "(JJJJ)Z"⟩ : MethodName) = true := plainFor_of_name (by first | (simp [plainName, overriddenIn]; done) | decide +kernel)
theorem ef_1 (m : MethodId) (q0 : Int64) (q1 : Int64) (q2 : Int64) (q3 : Int64) : entryFrame m #[(.long q0), (.long q1), (.long q2), (.long q3)] 8 = mkF m 0 #[.val (.long q0), .second, .val (.long q1), .second, .val (.long q2), .second, .val (.long q3), .second] [] := by first | (simp [entryFrame, mkF, argsToLocals, Value.category]; done) | rfl
def Qq1 (Z : State) (q0 : Int64) (q1 : Int64) (q2 : Int64) (q3 : Int64)  (h0 : Heap) : Int32 → Heap → Prop := fun z h' => h0 = h' ∧ (((q0.toInt < q2.toInt ∨ (q0.toInt = q2.toInt ∧ q1.toInt < q3.toInt)) ∧ z = 1) ∨ (¬ (q0.toInt < q2.toInt ∨ (q0.toInt = q2.toInt ∧ q1.toInt < q3.toInt)) ∧ z = 0))
abbrev Gg1 (p : Program) (l : Launch) (e : Env) (s : State) (m : MethodId) (below : List Frame) (meth : Method) (c : Code) (n0 : Nat) (h0 : Heap) (Z : State) (q0 : Int64) (q1 : Int64) (q2 : Int64) (q3 : Int64)  (cc ss : Nat) (hh : Heap) (gg : JFrame) : Prop := G p l e ({ frames := 0, cells := 0, slots := 0, locals := 0 } : Room) s m #[(.long q0), (.long q1), (.long q2), (.long q3)] below meth c n0 h0 [] (RI (Qq1 Z q0 q1 q2 q3  h0)) cc ss hh gg
set_option maxRecDepth 65536 in
set_option maxHeartbeats 40000000 in
theorem rm1 (l : Launch) (Z : State) (a0 : Array Value) (hw : ∀ d ∈ tables_1, d.before a0 Z = true) (q0 : Int64) (q1 : Int64) (q2 : Int64) (q3 : Int64)  (h0 : Heap) (n0 : Nat) (hn : n0 ≤ h0.size)  :
    Mt l Z (⟨"com/example/tideloop/tideloop/MessageHeap", "earlier", "(JJJJ)Z"⟩ : MethodName) prog_18_method_23_code 8 (some .boolean) [] ({ frames := 0, cells := 0, slots := 0, locals := 0 } : Room) n0 #[(.long q0), (.long q1), (.long q2), (.long q3)] h0 [] (RI (Qq1 Z q0 q1 q2 q3  h0)) := by
  refine Mt.intro pn_1 hn (fun x hx => nomatch hx) ?_
  have hz : h0.size ≤ h0.size := Nat.le_refl _
  intro p e s m below meth c B
  refine G.entry (ef_1 m q0 q1 q2 q3) ?_
  show Gg1 p l e s m below meth c n0 h0 Z q0 q1 q2 q3  0 0 h0 (mkF m 0 #[.val (.long q0), .second, .val (.long q1), .second, .val (.long q2), .second, .val (.long q3), .second] [])
  refine G.lloadN B d1_0 (v := q0) rfl (pc' := 1) rfl ?_
  refine G.lload B d1_1 (v := q2) rfl (pc' := 3) rfl ?_
  refine G.lcmp_lt B d1_3 rfl d1_4 (by decide) (pcT := 21) (by decide) (pc' := 7) rfl (fun (hc3 : q0.toInt < q2.toInt) => ?_) (fun (hc3 : q2.toInt ≤ q0.toInt) => ?_)
  · refine G.iconst B d1_21 (z := (1 : Int32)) rfl (pc' := 22) rfl ?_
    refine G.goto B d1_22 (by decide) (pc' := 26) (by decide) ?_
    exact G.retZ B d1_26 (by decide) (by decide) (Or.inr rfl) ⟨rfl, Or.inl ⟨Or.inl hc3, rfl⟩⟩
  · refine G.lloadN B d1_7 (v := q0) rfl (pc' := 8) rfl ?_
    refine G.lload B d1_8 (v := q2) rfl (pc' := 10) rfl ?_
    refine G.lcmp_ne B d1_10 rfl d1_11 (by decide) (pcT := 25) (by decide) (pc' := 14) rfl (fun (hc10 : q0 ≠ q2) => ?_) (fun (hc10 : q0 = q2) => ?_)
    · refine G.iconst B d1_25 (z := (0 : Int32)) rfl (pc' := 26) rfl ?_
      exact G.retZ B d1_26 (by decide) (by decide) (Or.inl rfl) ⟨rfl, Or.inr ⟨fun q => hc10 (Int64.toInt_inj.mp (by omega)), rfl⟩⟩
    · have hc10' := congrArg Int64.toInt hc10
      refine G.lloadN B d1_14 (v := q1) rfl (pc' := 15) rfl ?_
      refine G.lload B d1_15 (v := q3) rfl (pc' := 17) rfl ?_
      refine G.lcmp_ge B d1_17 rfl d1_18 (by decide) (pcT := 25) (by decide) (pc' := 21) rfl (fun (hc17 : q3.toInt ≤ q1.toInt) => ?_) (fun (hc17 : q1.toInt < q3.toInt) => ?_)
      · refine G.iconst B d1_25 (z := (0 : Int32)) rfl (pc' := 26) rfl ?_
        exact G.retZ B d1_26 (by decide) (by decide) (Or.inl rfl) ⟨rfl, Or.inr ⟨by omega, rfl⟩⟩
      · refine G.iconst B d1_21 (z := (1 : Int32)) rfl (pc' := 22) rfl ?_
        refine G.goto B d1_22 (by decide) (pc' := 26) (by decide) ?_
        exact G.retZ B d1_26 (by decide) (by decide) (Or.inr rfl) ⟨rfl, Or.inl ⟨Or.inr ⟨hc10', hc17⟩, rfl⟩⟩
theorem own_count (q0 q1 q2 q3 : Int64) (ab ba x y w j : Int32) (hab : (((q0.toInt < q2.toInt ∨ (q0.toInt = q2.toInt ∧ q1.toInt < q3.toInt)) ∧ ab = 1) ∨ (¬ (q0.toInt < q2.toInt ∨ (q0.toInt = q2.toInt ∧ q1.toInt < q3.toInt)) ∧ ab = 0))) (hba : (((q2.toInt < q0.toInt ∨ (q2.toInt = q0.toInt ∧ q3.toInt < q1.toInt)) ∧ ba = 1) ∨ (¬ (q2.toInt < q0.toInt ∨ (q2.toInt = q0.toInt ∧ q3.toInt < q1.toInt)) ∧ ba = 0)))
    (hs : (q0 ≠ q2 ∧ j = 0) ∨ (q0 = q2 ∧ q1 ≠ q3 ∧ j = 0) ∨ (q0 = q2 ∧ q1 = q3 ∧ j = 1)) (hx : (ab = 0 ∧ x = 0) ∨ (ab ≠ 0 ∧ x = 1)) (hy : (ba = 0 ∧ y = 0) ∨ (ba ≠ 0 ∧ y = 1)) (hw : (j = 0 ∧ w = 0) ∨ (j ≠ 0 ∧ w = 1)) : x + y + w = 1 := by
  have i1 : q0 = q2 ↔ q0.toInt = q2.toInt := Int64.toInt_inj.symm
  have i2 : q1 = q3 ↔ q1.toInt = q3.toInt := Int64.toInt_inj.symm
  have z1 : ¬ (1 : Int32) = 0 := by decide
  rcases hab with ⟨ha, rfl⟩ | ⟨ha, rfl⟩ <;> rcases hba with ⟨hb, rfl⟩ | ⟨hb, rfl⟩ <;> rcases hs with ⟨h1, rfl⟩ | ⟨h1, h2, rfl⟩ | ⟨h1, h2, rfl⟩ <;>
    rcases hx with ⟨p1, rfl⟩ | ⟨p1, rfl⟩ <;> rcases hy with ⟨p2, rfl⟩ | ⟨p2, rfl⟩ <;> rcases hw with ⟨p3, rfl⟩ | ⟨p3, rfl⟩ <;>
    first | rfl | exact absurd p1 z1 | exact absurd p2 z1 | exact absurd p3 z1 | exact absurd rfl p1 | exact absurd rfl p2 | exact absurd rfl p3 | (exfalso; simp only [ne_eq, i1] at h1; omega) | (exfalso; simp only [ne_eq, i1] at h1; simp only [ne_eq, i2] at h2; omega)
theorem pn_0 : plainFor x = true := plainFor_of_name (by first | (simp [plainName, overriddenIn]; done) | decide +kernel)
theorem ef_0 (m : MethodId) (q0 : Int64) (q1 : Int64) (q2 : Int64) (q3 : Int64) (q4 : Int64) (q5 : Int64) : entryFrame m #[(.long q0), (.long q1), (.long q2), (.long q3), (.long q4), (.long q5)] maxLocals = mkF m 0 #[.val (.long q0), .second, .val (.long q1), .second, .val (.long q2), .second, .val (.long q3), .second, .val (.long q4), .second, .val (.long q5), .second, .unset, .unset, .unset, .unset, .unset, .unset, .unset] [] := by first | (simp [entryFrame, mkF, argsToLocals, Value.category, maxLocals]; done) | rfl
theorem pd_0 : parseMethodDescriptor "(JJJJ)Z" = some ⟨[.long, .long, .long, .long], some .boolean⟩ := by decide +kernel
def Qq0 (Z : State) (q0 : Int64) (q1 : Int64) (q2 : Int64) (q3 : Int64) (q4 : Int64) (q5 : Int64)  (h0 : Heap) : Int32 → Heap → Prop := fun z _ => z = 1
abbrev Gg0 (p : Program) (l : Launch) (e : Env) (s : State) (m : MethodId) (below : List Frame) (meth : Method) (c : Code) (n0 : Nat) (h0 : Heap) (Z : State) (q0 : Int64) (q1 : Int64) (q2 : Int64) (q3 : Int64) (q4 : Int64) (q5 : Int64)  (cc ss : Nat) (hh : Heap) (gg : JFrame) : Prop := G p l e room_1 s m #[(.long q0), (.long q1), (.long q2), (.long q3), (.long q4), (.long q5)] below meth c n0 h0 [] (RI (Qq0 Z q0 q1 q2 q3 q4 q5  h0)) cc ss hh gg
set_option maxRecDepth 65536 in
set_option maxHeartbeats 40000000 in
theorem rm0 (l : Launch) (Z : State) (a0 : Array Value) (hw : ∀ d ∈ tables_1, d.before a0 Z = true) (q0 : Int64) (q1 : Int64) (q2 : Int64) (q3 : Int64) (q4 : Int64) (q5 : Int64)  (h0 : Heap) (n0 : Nat) (hn : n0 ≤ h0.size)  :
    Mt l Z x code maxLocals ret tables_1 room_1 n0 #[(.long q0), (.long q1), (.long q2), (.long q3), (.long q4), (.long q5)] h0 [] (RI (Qq0 Z q0 q1 q2 q3 q4 q5  h0)) := by
  refine Mt.intro pn_0 hn (fun x hx => nomatch hx) ?_
  have hz : h0.size ≤ h0.size := Nat.le_refl _
  intro p e s m below meth c B
  refine G.entry (ef_0 m q0 q1 q2 q3 q4 q5) ?_
  show Gg0 p l e s m below meth c n0 h0 Z q0 q1 q2 q3 q4 q5  0 0 h0 (mkF m 0 #[.val (.long q0), .second, .val (.long q1), .second, .val (.long q2), .second, .val (.long q3), .second, .val (.long q4), .second, .val (.long q5), .second, .unset, .unset, .unset, .unset, .unset, .unset, .unset] [])
  refine G.lloadN B at_0 (v := q0) rfl (pc' := 1) rfl ?_
  refine G.lloadN B at_1 (v := q1) rfl (pc' := 2) rfl ?_
  refine G.lload B at_2 (v := q2) rfl (pc' := 4) rfl ?_
  refine G.lload B at_4 (v := q3) rfl (pc' := 6) rfl ?_
  refine G.callS (y := (⟨"com/example/tideloop/tideloop/MessageHeap", "earlier", "(JJJJ)Z"⟩ : MethodName)) B (hw _ (List.mem_of_getElem? (i := 0) rfl)) (hw _ (List.mem_of_getElem? (i := 1) rfl)) (rm := ({ frames := 0, cells := 0, slots := 0, locals := 0 } : Room)) (ws' := []) (rm1 l Z a0 hw q0 q1 q2 q3 _ n0 hn) (fun x hx => nomatch hx) (hw _ (List.mem_of_getElem? (i := 3) rfl)) (hw _ (List.mem_of_getElem? (i := 2) rfl)) (by decide) rfl (argsL := [(.long q0), (.long q1), (.long q2), (.long q3)]) (rest := []) rfl (lenOf pd_0 rfl) (by decide) (W := 0) (Nat.le_of_eq rfl) (by decide) (by decide) (by decide) at_6 (pc' := 9) rfl ?_
  rintro _ _ K1 ⟨ab, rfl, rfl, hab⟩
  show Gg0 p l e s m below meth c n0 h0 Z q0 q1 q2 q3 q4 q5  0 0 h0 (mkF m 9 #[.val (.long q0), .second, .val (.long q1), .second, .val (.long q2), .second, .val (.long q3), .second, .val (.long q4), .second, .val (.long q5), .second, .unset, .unset, .unset, .unset, .unset, .unset, .unset] [(.int ab)])
  refine G.istore B at_9 (ls' := #[.val (.long q0), .second, .val (.long q1), .second, .val (.long q2), .second, .val (.long q3), .second, .val (.long q4), .second, .val (.long q5), .second, .val (.int ab), .unset, .unset, .unset, .unset, .unset, .unset]) rfl (pc' := 11) rfl ?_
  refine G.lload B at_11 (v := q2) rfl (pc' := 13) rfl ?_
  refine G.lload B at_13 (v := q3) rfl (pc' := 15) rfl ?_
  refine G.lloadN B at_15 (v := q0) rfl (pc' := 16) rfl ?_
  refine G.lloadN B at_16 (v := q1) rfl (pc' := 17) rfl ?_
  refine G.callS (y := (⟨"com/example/tideloop/tideloop/MessageHeap", "earlier", "(JJJJ)Z"⟩ : MethodName)) B (hw _ (List.mem_of_getElem? (i := 0) rfl)) (hw _ (List.mem_of_getElem? (i := 1) rfl)) (rm := ({ frames := 0, cells := 0, slots := 0, locals := 0 } : Room)) (ws' := []) (rm1 l Z a0 hw q2 q3 q0 q1 _ n0 hn) (fun x hx => nomatch hx) (hw _ (List.mem_of_getElem? (i := 3) rfl)) (hw _ (List.mem_of_getElem? (i := 2) rfl)) (by decide) rfl (argsL := [(.long q2), (.long q3), (.long q0), (.long q1)]) (rest := []) rfl (lenOf pd_0 rfl) (by decide) (W := 0) (Nat.le_of_eq rfl) (by decide) (by decide) (by decide) at_17 (pc' := 20) rfl ?_
  rintro _ _ K2 ⟨ba, rfl, rfl, hba⟩
  show Gg0 p l e s m below meth c n0 h0 Z q0 q1 q2 q3 q4 q5  0 0 h0 (mkF m 20 #[.val (.long q0), .second, .val (.long q1), .second, .val (.long q2), .second, .val (.long q3), .second, .val (.long q4), .second, .val (.long q5), .second, .val (.int ab), .unset, .unset, .unset, .unset, .unset, .unset] [(.int ba)])
  refine G.istore B at_20 (ls' := #[.val (.long q0), .second, .val (.long q1), .second, .val (.long q2), .second, .val (.long q3), .second, .val (.long q4), .second, .val (.long q5), .second, .val (.int ab), .val (.int ba), .unset, .unset, .unset, .unset, .unset]) rfl (pc' := 22) rfl ?_
  refine G.lloadN B at_22 (v := q0) rfl (pc' := 23) rfl ?_
  refine G.lloadN B at_23 (v := q1) rfl (pc' := 24) rfl ?_
  refine G.lloadN B at_24 (v := q0) rfl (pc' := 25) rfl ?_
  refine G.lloadN B at_25 (v := q1) rfl (pc' := 26) rfl ?_
  refine G.callS (y := (⟨"com/example/tideloop/tideloop/MessageHeap", "earlier", "(JJJJ)Z"⟩ : MethodName)) B (hw _ (List.mem_of_getElem? (i := 0) rfl)) (hw _ (List.mem_of_getElem? (i := 1) rfl)) (rm := ({ frames := 0, cells := 0, slots := 0, locals := 0 } : Room)) (ws' := []) (rm1 l Z a0 hw q0 q1 q0 q1 _ n0 hn) (fun x hx => nomatch hx) (hw _ (List.mem_of_getElem? (i := 3) rfl)) (hw _ (List.mem_of_getElem? (i := 2) rfl)) (by decide) rfl (argsL := [(.long q0), (.long q1), (.long q0), (.long q1)]) (rest := []) rfl (lenOf pd_0 rfl) (by decide) (W := 0) (Nat.le_of_eq rfl) (by decide) (by decide) (by decide) at_26 (pc' := 29) rfl ?_
  rintro _ _ K3 ⟨aa, rfl, rfl, haa⟩
  show Gg0 p l e s m below meth c n0 h0 Z q0 q1 q2 q3 q4 q5  0 0 h0 (mkF m 29 #[.val (.long q0), .second, .val (.long q1), .second, .val (.long q2), .second, .val (.long q3), .second, .val (.long q4), .second, .val (.long q5), .second, .val (.int ab), .val (.int ba), .unset, .unset, .unset, .unset, .unset] [(.int aa)])
  refine G.istore B at_29 (ls' := #[.val (.long q0), .second, .val (.long q1), .second, .val (.long q2), .second, .val (.long q3), .second, .val (.long q4), .second, .val (.long q5), .second, .val (.int ab), .val (.int ba), .val (.int aa), .unset, .unset, .unset, .unset]) rfl (pc' := 31) rfl ?_
  refine G.lload B at_31 (v := q2) rfl (pc' := 33) rfl ?_
  refine G.lload B at_33 (v := q3) rfl (pc' := 35) rfl ?_
  refine G.lload B at_35 (v := q4) rfl (pc' := 37) rfl ?_
  refine G.lload B at_37 (v := q5) rfl (pc' := 39) rfl ?_
  refine G.callS (y := (⟨"com/example/tideloop/tideloop/MessageHeap", "earlier", "(JJJJ)Z"⟩ : MethodName)) B (hw _ (List.mem_of_getElem? (i := 0) rfl)) (hw _ (List.mem_of_getElem? (i := 1) rfl)) (rm := ({ frames := 0, cells := 0, slots := 0, locals := 0 } : Room)) (ws' := []) (rm1 l Z a0 hw q2 q3 q4 q5 _ n0 hn) (fun x hx => nomatch hx) (hw _ (List.mem_of_getElem? (i := 3) rfl)) (hw _ (List.mem_of_getElem? (i := 2) rfl)) (by decide) rfl (argsL := [(.long q2), (.long q3), (.long q4), (.long q5)]) (rest := []) rfl (lenOf pd_0 rfl) (by decide) (W := 0) (Nat.le_of_eq rfl) (by decide) (by decide) (by decide) at_39 (pc' := 42) rfl ?_
  rintro _ _ K4 ⟨bc, rfl, rfl, hbc⟩
  show Gg0 p l e s m below meth c n0 h0 Z q0 q1 q2 q3 q4 q5  0 0 h0 (mkF m 42 #[.val (.long q0), .second, .val (.long q1), .second, .val (.long q2), .second, .val (.long q3), .second, .val (.long q4), .second, .val (.long q5), .second, .val (.int ab), .val (.int ba), .val (.int aa), .unset, .unset, .unset, .unset] [(.int bc)])
  refine G.istore B at_42 (ls' := #[.val (.long q0), .second, .val (.long q1), .second, .val (.long q2), .second, .val (.long q3), .second, .val (.long q4), .second, .val (.long q5), .second, .val (.int ab), .val (.int ba), .val (.int aa), .val (.int bc), .unset, .unset, .unset]) rfl (pc' := 44) rfl ?_
  refine G.lloadN B at_44 (v := q0) rfl (pc' := 45) rfl ?_
  refine G.lloadN B at_45 (v := q1) rfl (pc' := 46) rfl ?_
  refine G.lload B at_46 (v := q4) rfl (pc' := 48) rfl ?_
  refine G.lload B at_48 (v := q5) rfl (pc' := 50) rfl ?_
  refine G.callS (y := (⟨"com/example/tideloop/tideloop/MessageHeap", "earlier", "(JJJJ)Z"⟩ : MethodName)) B (hw _ (List.mem_of_getElem? (i := 0) rfl)) (hw _ (List.mem_of_getElem? (i := 1) rfl)) (rm := ({ frames := 0, cells := 0, slots := 0, locals := 0 } : Room)) (ws' := []) (rm1 l Z a0 hw q0 q1 q4 q5 _ n0 hn) (fun x hx => nomatch hx) (hw _ (List.mem_of_getElem? (i := 3) rfl)) (hw _ (List.mem_of_getElem? (i := 2) rfl)) (by decide) rfl (argsL := [(.long q0), (.long q1), (.long q4), (.long q5)]) (rest := []) rfl (lenOf pd_0 rfl) (by decide) (W := 0) (Nat.le_of_eq rfl) (by decide) (by decide) (by decide) at_50 (pc' := 53) rfl ?_
  rintro _ _ K5 ⟨ac, rfl, rfl, hac⟩
  show Gg0 p l e s m below meth c n0 h0 Z q0 q1 q2 q3 q4 q5  0 0 h0 (mkF m 53 #[.val (.long q0), .second, .val (.long q1), .second, .val (.long q2), .second, .val (.long q3), .second, .val (.long q4), .second, .val (.long q5), .second, .val (.int ab), .val (.int ba), .val (.int aa), .val (.int bc), .unset, .unset, .unset] [(.int ac)])
  refine G.istore B at_53 (ls' := #[.val (.long q0), .second, .val (.long q1), .second, .val (.long q2), .second, .val (.long q3), .second, .val (.long q4), .second, .val (.long q5), .second, .val (.int ab), .val (.int ba), .val (.int aa), .val (.int bc), .val (.int ac), .unset, .unset]) rfl (pc' := 55) rfl ?_
  refine G.iload B at_55 (v := aa) rfl (pc' := 57) rfl ?_
  have hc57 : aa = 0 := by
    rcases haa with ⟨h, _⟩ | ⟨_, h⟩
    · omega
    · exact h
  refine G.if_eq B at_57 (by decide) (pcT := 62) (by decide) (pc' := 60) rfl (fun _ => ?_) (fun q => absurd hc57 q)
  refine G.lloadN B at_62 (v := q0) rfl (pc' := 63) rfl ?_
  refine G.lload B at_63 (v := q2) rfl (pc' := 65) rfl ?_
  suffices K81 : ∀ (j6 : Int32), ((q0 ≠ q2 ∧ j6 = (0 : Int32)) ∨ (q0 = q2 ∧ q1 ≠ q3 ∧ j6 = (0 : Int32)) ∨ (q0 = q2 ∧ q1 = q3 ∧ j6 = (1 : Int32))) → Gg0 p l e s m below meth c n0 h0 Z q0 q1 q2 q3 q4 q5  0 0 h0 (mkF m 81 #[.val (.long q0), .second, .val (.long q1), .second, .val (.long q2), .second, .val (.long q3), .second, .val (.long q4), .second, .val (.long q5), .second, .val (.int ab), .val (.int ba), .val (.int aa), .val (.int bc), .val (.int ac), .unset, .unset] [(.int j6)]) by
    refine G.lcmp_ne B at_65 rfl at_66 (by decide) (pcT := 80) (by decide) (pc' := 69) rfl (fun (hc65 : q0 ≠ q2) => ?_) (fun (hc65 : q0 = q2) => ?_)
    · refine G.iconst B at_80 (z := (0 : Int32)) rfl (pc' := 81) rfl ?_
      exact K81 (0 : Int32) (Or.inl ⟨hc65, rfl⟩)
    · refine G.lloadN B at_69 (v := q1) rfl (pc' := 70) rfl ?_
      refine G.lload B at_70 (v := q3) rfl (pc' := 72) rfl ?_
      refine G.lcmp_ne B at_72 rfl at_73 (by decide) (pcT := 80) (by decide) (pc' := 76) rfl (fun (hc72 : q1 ≠ q3) => ?_) (fun (hc72 : q1 = q3) => ?_)
      · refine G.iconst B at_80 (z := (0 : Int32)) rfl (pc' := 81) rfl ?_
        exact K81 (0 : Int32) (Or.inr (Or.inl ⟨hc65, hc72, rfl⟩))
      · refine G.iconst B at_76 (z := (1 : Int32)) rfl (pc' := 77) rfl ?_
        refine G.goto B at_77 (by decide) (pc' := 81) (by decide) ?_
        exact K81 (1 : Int32) (Or.inr (Or.inr ⟨hc65, hc72, rfl⟩))
  intro j6 hj81
  refine G.istore B at_81 (ls' := #[.val (.long q0), .second, .val (.long q1), .second, .val (.long q2), .second, .val (.long q3), .second, .val (.long q4), .second, .val (.long q5), .second, .val (.int ab), .val (.int ba), .val (.int aa), .val (.int bc), .val (.int ac), .val (.int j6), .unset]) rfl (pc' := 83) rfl ?_
  refine G.iload B at_83 (v := ab) rfl (pc' := 85) rfl ?_
  suffices K93 : ∀ (j7 : Int32), ((ab = 0 ∧ j7 = (0 : Int32)) ∨ (ab ≠ 0 ∧ j7 = (1 : Int32))) → Gg0 p l e s m below meth c n0 h0 Z q0 q1 q2 q3 q4 q5  0 0 h0 (mkF m 93 #[.val (.long q0), .second, .val (.long q1), .second, .val (.long q2), .second, .val (.long q3), .second, .val (.long q4), .second, .val (.long q5), .second, .val (.int ab), .val (.int ba), .val (.int aa), .val (.int bc), .val (.int ac), .val (.int j6), .unset] [(.int j7)]) by
    refine G.if_eq B at_85 (by decide) (pcT := 92) (by decide) (pc' := 88) rfl (fun (hc85 : ab = 0) => ?_) (fun (hc85 : ab ≠ 0) => ?_)
    · refine G.iconst B at_92 (z := (0 : Int32)) rfl (pc' := 93) rfl ?_
      exact K93 (0 : Int32) (Or.inl ⟨hc85, rfl⟩)
    · refine G.iconst B at_88 (z := (1 : Int32)) rfl (pc' := 89) rfl ?_
      refine G.goto B at_89 (by decide) (pc' := 93) (by decide) ?_
      exact K93 (1 : Int32) (Or.inr ⟨hc85, rfl⟩)
  intro j7 hj93
  refine G.iload B at_93 (v := ba) rfl (pc' := 95) rfl ?_
  suffices K103 : ∀ (j8 : Int32), ((ba = 0 ∧ j8 = (0 : Int32)) ∨ (ba ≠ 0 ∧ j8 = (1 : Int32))) → Gg0 p l e s m below meth c n0 h0 Z q0 q1 q2 q3 q4 q5  0 0 h0 (mkF m 103 #[.val (.long q0), .second, .val (.long q1), .second, .val (.long q2), .second, .val (.long q3), .second, .val (.long q4), .second, .val (.long q5), .second, .val (.int ab), .val (.int ba), .val (.int aa), .val (.int bc), .val (.int ac), .val (.int j6), .unset] [(.int j8), (.int j7)]) by
    refine G.if_eq B at_95 (by decide) (pcT := 102) (by decide) (pc' := 98) rfl (fun (hc95 : ba = 0) => ?_) (fun (hc95 : ba ≠ 0) => ?_)
    · refine G.iconst B at_102 (z := (0 : Int32)) rfl (pc' := 103) rfl ?_
      exact K103 (0 : Int32) (Or.inl ⟨hc95, rfl⟩)
    · refine G.iconst B at_98 (z := (1 : Int32)) rfl (pc' := 99) rfl ?_
      refine G.goto B at_99 (by decide) (pc' := 103) (by decide) ?_
      exact K103 (1 : Int32) (Or.inr ⟨hc95, rfl⟩)
  intro j8 hj103
  refine G.iadd B at_103 (pc' := 104) rfl ?_
  refine G.iload B at_104 (v := j6) rfl (pc' := 106) rfl ?_
  suffices K114 : ∀ (j9 : Int32), ((j6 = 0 ∧ j9 = (0 : Int32)) ∨ (j6 ≠ 0 ∧ j9 = (1 : Int32))) → Gg0 p l e s m below meth c n0 h0 Z q0 q1 q2 q3 q4 q5  0 0 h0 (mkF m 114 #[.val (.long q0), .second, .val (.long q1), .second, .val (.long q2), .second, .val (.long q3), .second, .val (.long q4), .second, .val (.long q5), .second, .val (.int ab), .val (.int ba), .val (.int aa), .val (.int bc), .val (.int ac), .val (.int j6), .unset] [(.int j9), (.int (j7 + j8))]) by
    refine G.if_eq B at_106 (by decide) (pcT := 113) (by decide) (pc' := 109) rfl (fun (hc106 : j6 = 0) => ?_) (fun (hc106 : j6 ≠ 0) => ?_)
    · refine G.iconst B at_113 (z := (0 : Int32)) rfl (pc' := 114) rfl ?_
      exact K114 (0 : Int32) (Or.inl ⟨hc106, rfl⟩)
    · refine G.iconst B at_109 (z := (1 : Int32)) rfl (pc' := 110) rfl ?_
      refine G.goto B at_110 (by decide) (pc' := 114) (by decide) ?_
      exact K114 (1 : Int32) (Or.inr ⟨hc106, rfl⟩)
  intro j9 hj114
  refine G.iadd B at_114 (pc' := 115) rfl ?_
  refine G.istore B at_115 (ls' := #[.val (.long q0), .second, .val (.long q1), .second, .val (.long q2), .second, .val (.long q3), .second, .val (.long q4), .second, .val (.long q5), .second, .val (.int ab), .val (.int ba), .val (.int aa), .val (.int bc), .val (.int ac), .val (.int j6), .val (.int ((j7 + j8) + j9))]) rfl (pc' := 117) rfl ?_
  refine G.iload B at_117 (v := ((j7 + j8) + j9)) rfl (pc' := 119) rfl ?_
  refine G.iconst B at_119 (z := (1 : Int32)) rfl (pc' := 120) rfl ?_
  have hc120 : ((j7 + j8) + j9) = (1 : Int32) := own_count q0 q1 q2 q3 ab ba j7 j8 j9 j6 hab hba hj81 hj93 hj103 hj114
  refine G.icmp_eq B at_120 (by decide) (pcT := 125) (by decide) (pc' := 123) rfl (fun _ => ?_) (fun q => absurd hc120 q)
  suffices K139 : Gg0 p l e s m below meth c n0 h0 Z q0 q1 q2 q3 q4 q5  0 0 h0 (mkF m 139 #[.val (.long q0), .second, .val (.long q1), .second, .val (.long q2), .second, .val (.long q3), .second, .val (.long q4), .second, .val (.long q5), .second, .val (.int ab), .val (.int ba), .val (.int aa), .val (.int bc), .val (.int ac), .val (.int j6), .val (.int ((j7 + j8) + j9))] []) by
    refine G.lloadN B at_125 (v := q0) rfl (pc' := 126) rfl ?_
    refine G.lload B at_126 (v := q2) rfl (pc' := 128) rfl ?_
    refine G.lcmp_ge B at_128 rfl at_129 (by decide) (pcT := 139) (by decide) (pc' := 132) rfl (fun (hc128 : q2.toInt ≤ q0.toInt) => ?_) (fun (hc128 : q0.toInt < q2.toInt) => ?_)
    · exact K139
    · refine G.iload B at_132 (v := ab) rfl (pc' := 134) rfl ?_
      have hc134 : ab ≠ 0 := by
        rcases hab with ⟨_, rfl⟩ | ⟨h, _⟩
        · decide
        · omega
      refine G.if_ne B at_134 (by decide) (pcT := 139) (by decide) (pc' := 137) rfl (fun _ => ?_) (fun q => absurd q hc134)
      exact K139
  suffices K153 : Gg0 p l e s m below meth c n0 h0 Z q0 q1 q2 q3 q4 q5  0 0 h0 (mkF m 153 #[.val (.long q0), .second, .val (.long q1), .second, .val (.long q2), .second, .val (.long q3), .second, .val (.long q4), .second, .val (.long q5), .second, .val (.int ab), .val (.int ba), .val (.int aa), .val (.int bc), .val (.int ac), .val (.int j6), .val (.int ((j7 + j8) + j9))] []) by
    refine G.lload B at_139 (v := q2) rfl (pc' := 141) rfl ?_
    refine G.lloadN B at_141 (v := q0) rfl (pc' := 142) rfl ?_
    refine G.lcmp_ge B at_142 rfl at_143 (by decide) (pcT := 153) (by decide) (pc' := 146) rfl (fun (hc142 : q0.toInt ≤ q2.toInt) => ?_) (fun (hc142 : q2.toInt < q0.toInt) => ?_)
    · exact K153
    · refine G.iload B at_146 (v := ba) rfl (pc' := 148) rfl ?_
      have hc148 : ba ≠ 0 := by
        rcases hba with ⟨_, rfl⟩ | ⟨h, _⟩
        · decide
        · omega
      refine G.if_ne B at_148 (by decide) (pcT := 153) (by decide) (pc' := 151) rfl (fun _ => ?_) (fun q => absurd q hc148)
      exact K153
  suffices K179 : Gg0 p l e s m below meth c n0 h0 Z q0 q1 q2 q3 q4 q5  0 0 h0 (mkF m 179 #[.val (.long q0), .second, .val (.long q1), .second, .val (.long q2), .second, .val (.long q3), .second, .val (.long q4), .second, .val (.long q5), .second, .val (.int ab), .val (.int ba), .val (.int aa), .val (.int bc), .val (.int ac), .val (.int j6), .val (.int ((j7 + j8) + j9))] []) by
    refine G.lloadN B at_153 (v := q0) rfl (pc' := 154) rfl ?_
    refine G.lload B at_154 (v := q2) rfl (pc' := 156) rfl ?_
    refine G.lcmp_ne B at_156 rfl at_157 (by decide) (pcT := 179) (by decide) (pc' := 160) rfl (fun (hc156 : q0 ≠ q2) => ?_) (fun (hc156 : q0 = q2) => ?_)
    · exact K179
    · have hc156' := congrArg Int64.toInt hc156
      refine G.iload B at_160 (v := ab) rfl (pc' := 162) rfl ?_
      refine G.lloadN B at_162 (v := q1) rfl (pc' := 163) rfl ?_
      refine G.lload B at_163 (v := q3) rfl (pc' := 165) rfl ?_
      suffices K174 : ∀ (j10 : Int32), ((q3.toInt ≤ q1.toInt ∧ j10 = (0 : Int32)) ∨ (q1.toInt < q3.toInt ∧ j10 = (1 : Int32))) → Gg0 p l e s m below meth c n0 h0 Z q0 q1 q2 q3 q4 q5  0 0 h0 (mkF m 174 #[.val (.long q0), .second, .val (.long q1), .second, .val (.long q2), .second, .val (.long q3), .second, .val (.long q4), .second, .val (.long q5), .second, .val (.int ab), .val (.int ba), .val (.int aa), .val (.int bc), .val (.int ac), .val (.int j6), .val (.int ((j7 + j8) + j9))] [(.int j10), (.int ab)]) by
        refine G.lcmp_ge B at_165 rfl at_166 (by decide) (pcT := 173) (by decide) (pc' := 169) rfl (fun (hc165 : q3.toInt ≤ q1.toInt) => ?_) (fun (hc165 : q1.toInt < q3.toInt) => ?_)
        · refine G.iconst B at_173 (z := (0 : Int32)) rfl (pc' := 174) rfl ?_
          exact K174 (0 : Int32) (Or.inl ⟨hc165, rfl⟩)
        · refine G.iconst B at_169 (z := (1 : Int32)) rfl (pc' := 170) rfl ?_
          refine G.goto B at_170 (by decide) (pc' := 174) (by decide) ?_
          exact K174 (1 : Int32) (Or.inr ⟨hc165, rfl⟩)
      intro j10 hj174
      have hc174 : ab = j10 := by
        rcases hab with ⟨h, rfl⟩ | ⟨h, rfl⟩ <;> rcases hj174 with ⟨k, rfl⟩ | ⟨k, rfl⟩ <;> first | rfl | (exfalso; omega)
      refine G.icmp_eq B at_174 (by decide) (pcT := 179) (by decide) (pc' := 177) rfl (fun _ => ?_) (fun q => absurd hc174 q)
      exact K179
  suffices K196 : Gg0 p l e s m below meth c n0 h0 Z q0 q1 q2 q3 q4 q5  0 0 h0 (mkF m 196 #[.val (.long q0), .second, .val (.long q1), .second, .val (.long q2), .second, .val (.long q3), .second, .val (.long q4), .second, .val (.long q5), .second, .val (.int ab), .val (.int ba), .val (.int aa), .val (.int bc), .val (.int ac), .val (.int j6), .val (.int ((j7 + j8) + j9))] []) by
    refine G.iload B at_179 (v := ab) rfl (pc' := 181) rfl ?_
    refine G.if_eq B at_181 (by decide) (pcT := 196) (by decide) (pc' := 184) rfl (fun (hc181 : ab = 0) => ?_) (fun (hc181 : ab ≠ 0) => ?_)
    · exact K196
    · refine G.iload B at_184 (v := bc) rfl (pc' := 186) rfl ?_
      refine G.if_eq B at_186 (by decide) (pcT := 196) (by decide) (pc' := 189) rfl (fun (hc186 : bc = 0) => ?_) (fun (hc186 : bc ≠ 0) => ?_)
      · exact K196
      · refine G.iload B at_189 (v := ac) rfl (pc' := 191) rfl ?_
        have hc191 : ac ≠ 0 := by
          rcases hac with ⟨_, rfl⟩ | ⟨h, _⟩
          · decide
          · rcases hab with ⟨h1, _⟩ | ⟨_, h1⟩
            · rcases hbc with ⟨h2, _⟩ | ⟨_, h2⟩
              · omega
              · exact absurd h2 hc186
            · exact absurd h1 hc181
        refine G.if_ne B at_191 (by decide) (pcT := 196) (by decide) (pc' := 194) rfl (fun _ => ?_) (fun q => absurd q hc191)
        exact K196
  refine G.iconst B at_196 (z := (1 : Int32)) rfl (pc' := 197) rfl ?_
  exact G.retZ B at_197 (by decide) (by decide) (Or.inr rfl) rfl
set_option maxRecDepth 65536 in
set_option maxHeartbeats 40000000 in
theorem comes_1 {Post : Tables → Env → Array Value → State → Outcome → State → Prop} (hpost : ∀ tb e args s v u, (limb_1_1.after args s (.returned v) u = true ∧ limb_1_2.after args s (.returned v) u = true ∧ True) → FrameEnd s (.returned v) u (Jvm.fieldLocs frame_1_writes args s ++ Jvm.arrayLocs frame_1_arrays args s ++ Jvm.staticLocs frame_1_statics s) 0 0 → Post tb e args s (.returned v) u) :
    ArmFor flags0 classFile x code maxLocals ret World_1 tables_1 room_1 Calls_1 rest_1 Pre_1 Post := by
  intro l hfl _ _ p e ha hc hk s m args below hf hA hF happ hP
  obtain ⟨hcalls, hrest, hpre⟩ := hP
  obtain ⟨-, -, -, hnamed, -, -, -, hat⟩ := (Spec.applies_iff hf).mp happ
  obtain ⟨hg, hn⟩ := and_e (Cond.before_iff.mp (show (Jvm.Cond.and given_1 narrow_1).before args s = true from hpre))
  obtain ⟨hq0, hg0⟩ := and_e hg
  obtain ⟨hq1, hg1⟩ := and_e hg0
  obtain ⟨hq2, hg2⟩ := and_e hg1
  obtain ⟨hq3, hg3⟩ := and_e hg2
  obtain ⟨hq4, hg4⟩ := and_e hg3
  obtain ⟨hq5, hg5⟩ := and_e hg4
  obtain ⟨w0, w1, w2, w3, w4, w5, rfl⟩ : ∃ w0 w1 w2 w3 w4 w5 : Value, args = #[w0, w1, w2, w3, w4, w5] := by
    have hs : args.size = 6 := by simpa [Cond.value, given_1] using hq0
    obtain ⟨L⟩ := args
    match L, hs with
    | [w0, w1, w2, w3, w4, w5], _ => exact ⟨w0, w1, w2, w3, w4, w5, rfl⟩
  have hw := fun d (hd : d ∈ tables_1) => atoms_spec (ws := Jvm.Cond.code x code maxLocals ret :: tables_1) hat d (List.mem_cons_of_mem _ hd)
  obtain ⟨i0, e0⟩ := isL_v hq1
  obtain rfl : w0 = (.long i0) := Option.some.inj e0
  obtain ⟨i1, e1⟩ := isL_v hq2
  obtain rfl : w1 = (.long i1) := Option.some.inj e1
  obtain ⟨i2, e2⟩ := isL_v hq3
  obtain rfl : w2 = (.long i2) := Option.some.inj e2
  obtain ⟨i3, e3⟩ := isL_v hq4
  obtain rfl : w3 = (.long i3) := Option.some.inj e3
  obtain ⟨i4, e4⟩ := isL_v hq5
  obtain rfl : w4 = (.long i4) := Option.some.inj e4
  obtain ⟨i5, e5⟩ := isL_v hg5
  obtain rfl : w5 = (.long i5) := Option.some.inj e5
  obtain ⟨n, o, h1, h2, h3, _, L, rfl, ⟨N, -, _, rfl, rfl⟩, hq⟩ := rm0 l s _ hw i0 i1 i2 i3 i4 i5 s.heap s.heap.size (Nat.le_refl _) p e ha hc hk s m _ below hf ((Spec.applies_iff_loose hf).mp happ).1 ⟨rfl, State.Warmed39.refl s, rfl⟩ trivial
  refine ⟨n, _, h1, h2, h3, hpost _ _ _ _ _ _ ⟨Cond.after_iff.mpr rfl, Cond.after_iff.mpr (eq_i res_at (Term.int_eval (1)) rfl), trivial⟩ ⟨hq.1, hq.2.1, (hq.2.2.sift fun y hy => Or.inr (N y hy)).mono (by decide) (by decide)⟩⟩
theorem main_1_1 : Claimed_1_1 := comes_1 fun _ _ _ _ _ _ h hF => ⟨h.1, hF⟩
theorem main_1_2 : Claimed_1_2 := comes_1 fun _ _ _ _ _ _ h hF => ⟨h.2.1, hF⟩
end Jvm.Pilot.@@N@@
namespace Jvm.Pilot.@@N@@
open Jvm Jvm.ClassFile Sem Op Lib Jvm.Free Jvm.Stand Jvm.Pilot.@@N@@.Jvm.D
/-! MADE BY PROGRAM (witnessworld.py) out of the Statement's table words and the real class files: 10 classes; the members and pool entries that the words name. The judged class is class 1, her method 1. -/
namespace start1
open Jvm.ClassFile
def u (s : String) : CpInfo := .utf8 (stringToUtf16 s)
/-- a pool by its gaps: so many unusable entries, then the entry; so many at the end -/
def gap : Nat → List CpInfo → List CpInfo
  | 0, r => r
  | n + 1, r => .unusable :: gap n r
def poolList (es : List (Nat × CpInfo)) (last : Nat) : List CpInfo := es.foldr (fun e r => gap e.1 (e.2 :: r)) (gap last [])
def pool (es : List (Nat × CpInfo)) (last : Nat) : Array CpInfo := ⟨poolList es last⟩
def fileOf (pool : Array CpInfo) (this : Nat) (attrs : Array Attribute := #[]) (ms : Array MethodInfo := #[]) (fl : Nat := 33) (sup : Nat := 0) (ifs : Array Nat := #[]) (fds : Array FieldInfo := #[]) : ClassFile where
  minorVersion := 0
  majorVersion := 65
  constantPool := pool
  accessFlags := fl
  thisClass := this
  superClass := sup
  interfaces := ifs
  fields := fds
  methods := ms
  attributes := attrs
def plain (name : String) (sup : Option ClassId) : Class where
  name := name
  kind := .ordinary
  loader := none
  accessFlags := 33
  super := sup
  interfaces := #[]
  cf := none
  fields := #[]
  methods := #[]
  instanceTypes := #[]
  staticTypes := #[]
  resolved := #[]
  callSites := []
  init := .initialized
  statics := none
  mirror := none

def pool0 : Array CpInfo := pool [(5, u "<init>"), (0, u "()V"), (1, .class_ 10), (1, u "java/lang/Object")] 113

def k0m0 : Method := { name := "<init>", desc := "()V", sig := { parameters := [], returnType := none }, accessFlags := 1, code := none }
/-- java/lang/Object -/
def k0 : Class := { plain "java/lang/Object" none with
  accessFlags := 33
  interfaces := #[]
  cf := some (fileOf pool0 8 #[] #[{ accessFlags := 1, nameIndex := 5, descriptorIndex := 6, attributes := #[] }] 33 0 #[] #[])
  fields := #[]
  methods := #[k0m0]
  instanceTypes := #[]
  staticTypes := #[]
  resolved := Array.replicate 124 none
  statics := none }

def pool1 : Array CpInfo := pool [(2, .class_ 4), (1, u "java/lang/Object"), (0, u "<init>"), (0, u "()V"), (0, .methodref 8 9), (0, .class_ 10), (0, .nameAndType 11 12), (0, u "com/example/tideloop/tideloop/MessageHeap"), (0, u "earlier"), (0, u "(JJJJ)Z"), (0, .class_ 14), (0, u "com/example/tideloop/tideloop/MessageHeapEarlierPinLaw"), (2, u "law"), (0, u "(JJJJJJ)Z")] 3

def k1m0 : Method := { name := "<init>", desc := "()V", sig := { parameters := [], returnType := none }, accessFlags := 2, code := none }
def k1c1 : Code := { maxStack := 8, maxLocals := 19, code := code, exceptionTable := #[], attributes := #[] }
def k1m1 : Method := { name := "law", desc := "(JJJJJJ)Z", sig := { parameters := [.long, .long, .long, .long, .long, .long], returnType := some .boolean }, accessFlags := 9, code := some k1c1 }
/-- com/example/tideloop/tideloop/MessageHeapEarlierPinLaw -/
def k1 : Class := { plain "com/example/tideloop/tideloop/MessageHeapEarlierPinLaw" (some 0) with
  accessFlags := 49
  interfaces := #[]
  cf := some (fileOf pool1 13 #[] #[{ accessFlags := 2, nameIndex := 5, descriptorIndex := 6, attributes := #[] }, { accessFlags := 9, nameIndex := 17, descriptorIndex := 18, attributes := #[] }] 49 2 #[] #[])
  fields := #[]
  methods := #[k1m0, k1m1]
  instanceTypes := #[]
  staticTypes := #[]
  resolved := Array.replicate 22 none
  statics := none }

def pool2 : Array CpInfo := pool [(1, .class_ 2), (0, u "com/example/tideloop/tideloop/QueuedMessages"), (0, .class_ 4), (0, u "java/lang/Object")] 12

/-- com/example/tideloop/tideloop/QueuedMessages -/
def k2 : Class := { plain "com/example/tideloop/tideloop/QueuedMessages" (some 0) with
  accessFlags := 1536
  interfaces := #[]
  cf := some (fileOf pool2 1 #[] #[] 1536 3 #[] #[])
  fields := #[]
  methods := #[]
  instanceTypes := #[]
  staticTypes := #[]
  resolved := Array.replicate 17 none
  statics := none }

def pool3 : Array CpInfo := pool [(2, .class_ 4), (1, u "java/lang/Object"), (0, u "<init>"), (0, u "()V"), (0, .class_ 8), (0, u "com/example/tideloop/tideloop/MessageHeap"), (4, u "firsts"), (0, u "[Lcom/example/tideloop/tideloop/Message;"), (2, u "openLasts"), (2, u "size"), (0, u "I"), (2, u "runs"), (25, u "openRuns"), (2, u "earlier"), (81, u "(JJJJ)Z"), (0, .class_ 137), (0, u "com/example/tideloop/tideloop/QueuedMessages"), (0, u "INITIAL_CAPACITY"), (2, u "OPEN_RUNS")] 35

def k3m0 : Method := { name := "<init>", desc := "()V", sig := { parameters := [], returnType := none }, accessFlags := 0, code := none }
def k3c1 : Code := { maxStack := 4, maxLocals := 8, code := prog_18_method_23_code, exceptionTable := #[], attributes := #[] }
def k3m1 : Method := { name := "earlier", desc := "(JJJJ)Z", sig := { parameters := [.long, .long, .long, .long], returnType := some .boolean }, accessFlags := 8, code := some k3c1 }
/-- com/example/tideloop/tideloop/MessageHeap -/
def k3 : Class := { plain "com/example/tideloop/tideloop/MessageHeap" (some 0) with
  accessFlags := 48
  interfaces := #[2]
  cf := some (fileOf pool3 7 #[] #[{ accessFlags := 0, nameIndex := 5, descriptorIndex := 6, attributes := #[] }, { accessFlags := 8, nameIndex := 53, descriptorIndex := 135, attributes := #[] }] 48 2 #[136] #[{ accessFlags := 26, nameIndex := 138, descriptorIndex := 21, attributes := #[] }, { accessFlags := 26, nameIndex := 141, descriptorIndex := 21, attributes := #[] }, { accessFlags := 2, nameIndex := 13, descriptorIndex := 14, attributes := #[] }, { accessFlags := 2, nameIndex := 24, descriptorIndex := 21, attributes := #[] }, { accessFlags := 2, nameIndex := 20, descriptorIndex := 21, attributes := #[] }, { accessFlags := 18, nameIndex := 17, descriptorIndex := 14, attributes := #[] }, { accessFlags := 2, nameIndex := 50, descriptorIndex := 21, attributes := #[] }])
  fields := #[{ name := "INITIAL_CAPACITY", type := .int, accessFlags := 26, slot := 0, constantValue := 0 }, { name := "OPEN_RUNS", type := .int, accessFlags := 26, slot := 1, constantValue := 0 }, { name := "firsts", type := (.array (.object "com/example/tideloop/tideloop/Message")), accessFlags := 2, slot := 0, constantValue := 0 }, { name := "runs", type := .int, accessFlags := 2, slot := 1, constantValue := 0 }, { name := "size", type := .int, accessFlags := 2, slot := 2, constantValue := 0 }, { name := "openLasts", type := (.array (.object "com/example/tideloop/tideloop/Message")), accessFlags := 18, slot := 3, constantValue := 0 }, { name := "openRuns", type := .int, accessFlags := 2, slot := 4, constantValue := 0 }]
  methods := #[k3m0, k3m1]
  instanceTypes := #[(.array (.object "com/example/tideloop/tideloop/Message")), .int, .int, (.array (.object "com/example/tideloop/tideloop/Message")), .int]
  staticTypes := #[.int, .int]
  resolved := Array.replicate 177 none
  statics := none }

def pool4 : Array CpInfo := pool [(1, u "java/lang/Cloneable"), (0, .class_ 1), (0, u "java/lang/Object"), (0, .class_ 3)] 3

/-- java/lang/Cloneable -/
def k4 : Class := { plain "java/lang/Cloneable" (some 0) with
  accessFlags := 1537
  interfaces := #[]
  cf := some (fileOf pool4 2 #[] #[] 1537 4 #[] #[])
  fields := #[]
  methods := #[]
  instanceTypes := #[]
  staticTypes := #[]
  resolved := Array.replicate 8 none
  statics := none }

def pool5 : Array CpInfo := pool [(1, u "java/io/Serializable"), (0, .class_ 1), (0, u "java/lang/Object"), (0, .class_ 3)] 3

/-- java/io/Serializable -/
def k5 : Class := { plain "java/io/Serializable" (some 0) with
  accessFlags := 1537
  interfaces := #[]
  cf := some (fileOf pool5 2 #[] #[] 1537 4 #[] #[])
  fields := #[]
  methods := #[]
  instanceTypes := #[]
  staticTypes := #[]
  resolved := Array.replicate 8 none
  statics := none }

/-- the primitive byte -/
def k6 : Class := { plain "byte" none with kind := .primitive 'B', accessFlags := 0x411 }
/-- [B -/
def k7 : Class := { plain "[B" (some 0) with kind := .array 6 .byte, interfaces := #[4, 5], accessFlags := 1041 }

/-- the primitive int -/
def k8 : Class := { plain "int" none with kind := .primitive 'I', accessFlags := 0x411 }
/-- [I -/
def k9 : Class := { plain "[I" (some 0) with kind := .array 8 .int, interfaces := #[4, 5], accessFlags := 1041 }

def heap : Heap := #[]
def classes : Array Class := #[k0, k1, k2, k3, k4, k5, k6, k7, k8, k9]
def interned : List (Array UInt16 × Addr) := []
def slotsUsed : Nat := 0
def theMethod : MethodId := ⟨1, 1⟩
def args0 : Array Value := #[.long 5, .long 7, .long 3, .long 1, .long 2, .long 9]
def aboutOver (below : List Frame) : State where
  vm := { classes := classes, interned := interned.toArray }
  heap := heap
  slotsUsed := slotsUsed
  threads := #[{ frames := .invoking theMethod args0 :: below }]
def below0 : List Frame := [.native { method := ⟨0, 0⟩, args := #[] }]
def about1 : State := aboutOver below0
def p0 : Program := .bare "" "" ""
def e0 : Env := launch0.env 0 0 0
theorem w_frames : about1.frames = Frame.invoking theMethod args0 :: below0 := rfl
set_option maxRecDepth 65536 in
theorem w_args : argsFit about1.vm theMethod args0 = true := by decide +kernel
set_option maxRecDepth 65536 in
theorem w_heap : heapFits about1 = true := by decide +kernel
set_option maxRecDepth 65536 in
theorem w_runnable : about1.curStatus? = some .runnable := by decide +kernel
set_option maxRecDepth 65536 in
theorem w_alone : about1.alone = true := by decide +kernel
set_option maxRecDepth 65536 in
theorem w_named : about1.methodNamed? x = some theMethod := by decide +kernel
set_option maxRecDepth 65536 in
theorem w_hears : about1.hears theMethod below0 = true := by decide +kernel
set_option maxRecDepth 65536 in
theorem w_ripe : about1.ripe theMethod args0 below0 = true := by decide +kernel
theorem w_running : about1.status = .running := rfl
set_option maxRecDepth 65536 in
theorem w_room : about1.hasRoom e0.platform room_1 = true :=
  launch0.hasRoom_least _ room_1 (by decide +kernel) (by decide +kernel) (by decide +kernel) (by decide +kernel) (by decide +kernel) (by decide +kernel)
theorem allAtoms_all (ts : List Jvm.Cond) (a : Array Jvm.Value) (st : Jvm.State) : (allAtoms ts).before a st = ts.all (fun c => c.before a st) := by
  induction ts with
  | nil => rfl
  | cons c t ih =>
    show (Jvm.Cond.and c (allAtoms t)).before a st = _
    rw [Jvm.Cond.before_and, ih, List.all_cons]
def words1 : List Jvm.Cond := Jvm.Cond.code x code maxLocals ret :: tables_1
/-- a 'code' word, met by the world's own term for the bytes: nothing is compared byte by byte -/
theorem code_word {y : MethodName} {bytes : ByteArray} {mx : Nat} {rt : Option FieldType} {a : Array Value} {s : State} {m : MethodId} {meth : Method} {c : Code} (h1 : s.methodNamed? y = some m) (h2 : s.vm.method? m = some meth) (h3 : meth.code = some c) (h4 : c.code = bytes)
    (h5 : (c.maxLocals == mx && c.exceptionTable.isEmpty && decide (c.maxStack ≤ mostOperands) && decide (meth.sig.returnType = rt) && !meth.locks && decide (parseMethodDescriptor y.desc = some meth.sig)) = true) : (Jvm.Cond.code y bytes mx rt).before a s = true := by
  simp only [Bool.and_eq_true, beq_iff_eq, Bool.not_eq_true', decide_eq_true_eq] at h5
  obtain ⟨⟨⟨⟨⟨g1, g2⟩, g3⟩, g4⟩, g5⟩, g6⟩ := h5
  simp [Cond.before, Cond.holds, Cond.value, h1, h2, h3, h4, g1, g2, g3, g4, g5, g6]
def isCode : Jvm.Cond → Bool
  | .code _ _ _ _ => true
  | _ => false
theorem all_split {L : List Jvm.Cond} {P : Jvm.Cond → Bool} (h1 : L.all (fun c => isCode c || P c) = true) (h2 : ∀ c ∈ L.filter isCode, P c = true) : L.all P = true := by
  refine List.all_eq_true.mpr fun c hc => ?_
  have h := List.all_eq_true.mp h1 c hc
  rcases Bool.eq_false_or_eq_true (isCode c) with hi | hi
  · exact h2 c (List.mem_filter.mpr ⟨hc, hi⟩)
  · simpa [hi] using h
set_option maxRecDepth 65536 in
theorem w_c0 : (Jvm.Cond.code x code maxLocals ret).before args0 about1 = true := code_word (m := ⟨1, 1⟩) (meth := k1m1) (c := k1c1) (by decide +kernel) rfl rfl rfl (by decide +kernel)
set_option maxRecDepth 65536 in
theorem w_c1 : (Jvm.Cond.code ({ cls := "com/example/tideloop/tideloop/MessageHeap", name := "earlier", desc := "(JJJJ)Z" } : Jvm.MethodName) prog_18_method_23_code (8 : Nat) (Option.some Jvm.ClassFile.FieldType.boolean)).before args0 about1 = true := code_word (m := ⟨3, 1⟩) (meth := k3m1) (c := k3c1) (by decide +kernel) rfl rfl rfl (by decide +kernel)
def codes1 : List Jvm.Cond := [Jvm.Cond.code x code maxLocals ret, Jvm.Cond.code ({ cls := "com/example/tideloop/tideloop/MessageHeap", name := "earlier", desc := "(JJJJ)Z" } : Jvm.MethodName) prog_18_method_23_code (8 : Nat) (Option.some Jvm.ClassFile.FieldType.boolean)]
set_option maxRecDepth 65536 in
theorem codes_eq : words1.filter isCode = codes1 := rfl
theorem w_codes : ∀ c ∈ words1.filter isCode, c.before args0 about1 = true := by
  rw [codes_eq]
  intro c hc
  simp only [codes1, List.mem_cons, List.not_mem_nil, or_false] at hc
  rcases hc with rfl | rfl
  · exact w_c0
  · exact w_c1
set_option maxRecDepth 65536 in
theorem w_t1 : words1.all (fun c => isCode c || c.before args0 about1) = true := by decide +kernel
theorem w_tables : (allAtoms (Jvm.Cond.code x code maxLocals ret :: tables_1)).before args0 about1 = true := by
  rw [allAtoms_all]
  show words1.all (fun c => c.before args0 about1) = true
  refine all_split ?_ w_codes
  rw [w_t1]
set_option maxRecDepth 65536 in
theorem w_case : (Jvm.Cond.and given_1 narrow_1).before args0 about1 = true := by decide +kernel
theorem w_applies : (headSpec (Jvm.Cond.code x code maxLocals ret :: tables_1) room_1).applies x e0.platform about1 = true :=
  (Spec.applies_iff w_frames).mpr ⟨w_running, w_runnable, w_alone, w_named, w_hears, w_ripe, w_room, w_tables⟩
theorem atStart : AtStart classFile x code maxLocals ret World_1 tables_1 room_1 Calls_1 rest_1 Pre_1 launch0 p0 e0 about1 theMethod args0 below0 :=
  ⟨lists_1, trivial, launch0.admits_env _ _ _, launch0.least_env, fairChoices_fair.cas, fairChoices_fair.clock, w_frames, w_args, w_heap, w_applies, trivial, trivial, w_case⟩
end start1
theorem witness_1 : WitnessClaimed_1 := ⟨start1.p0, start1.e0, start1.about1, start1.theMethod, start1.args0, start1.below0, start1.atStart⟩
end Jvm.Pilot.@@N@@
