import JvmDerived
import JvmDerived.Pilot.@@N@@Statement
import JvmDerived.Pilot.@@N@@Code
set_option linter.unusedVariables false
set_option linter.unusedSimpArgs false
@@BLOCK:NumsL.lean.txt@@
@@BLOCK:Masks.lean.txt@@
namespace Jvm.RoadKit
open Sem ClassFile Op Lib Jvm.Stand Jvm.Free Jvm.LawKit
section New
variable {p : Program} {l : Launch} {e : Env} {R : Room} {s : State} {m : MethodId} {args : Array Value} {below : List Frame} {meth : Method} {c : Code} {T : State} {locs : List Loc} {cells slots : Nat}
theorem retI (X : Stand p l e R s m args below meth c T locs cells slots) (hx : p.tables.exec = Jvm.exec) {pc : Nat} {Ls : Array Slot} {z : Int32} {rest : List Value} (hret : meth.sig.returnType = some .int) (hd : decode c.code pc = .ok (.ireturn, 1)) {fs : List Frame}
    (hl : ∀ (f : JFrame) (acts : List Action), f.method = m → f.locked = none → f.entered = [] → (doReturn e (T.setTop f) acts (some (.int z))).1 = T.setFrames fs) : Steps p.tables e below (T.setTop (mkF m pc Ls (.int z :: rest))) (T.setFrames fs) := by
  have hm' : T.vm.method? m = some meth := X.method'
  have hn : narrow .int (.int z) = .int z := rfl
  show Steps p.tables e below (T.setTop { method := m, pc := pc, locals := Ls, stack := _ :: rest, locked := none }) _
  jvm_step X.here [X.here.top, hx, hd, hm', hret, hn]
  first | (intro acts; rw [hl _ acts rfl rfl rfl]) | rw [hl _ _ rfl rfl rfl]
  exact Steps.refl _
end New
end Jvm.RoadKit
namespace Jvm.Pilot.@@N@@
open Jvm Jvm.ClassFile Sem Op Lib Jvm.Free Jvm.Stand Jvm.LawKit Jvm.RoadKit Bundle Jvm.Pilot.@@N@@.Jvm.D
-- a layer of my own over the library's laws: a point of a walk (own_W), its end (own_G), a body's contract (own_M)
abbrev OwnK : Type := Program × Launch × Env × State × MethodId × Array Value × List Frame × Method × Code × State
abbrev OwnB : Type := MethodName × ByteArray × Nat × Option FieldType × Room
abbrev OwnB.y (B : OwnB) : MethodName := B.1
abbrev OwnB.bytes (B : OwnB) : ByteArray := B.2.1
abbrev OwnB.ml (B : OwnB) : Nat := B.2.2.1
abbrev OwnB.ret (B : OwnB) : Option FieldType := B.2.2.2.1
abbrev OwnB.rm (B : OwnB) : Room := B.2.2.2.2
def own_W (K : OwnK) (B : OwnB) (Z : State) (n0 : Nat) (h : Heap) (ck cs pc : Nat) (L : Array Slot) (S : List Value) : Prop :=
  match K with
  | (p, l, e, s, m, args, below, meth, c, start) =>
    p.tables.exec = Jvm.exec ∧ Z.Warmed39 s.vm ∧ s.vm.findClass B.y.cls = some m.cls ∧ meth.name = B.y.name ∧ c.code = B.bytes ∧ c.maxLocals = B.ml ∧ meth.sig.returnType = B.ret ∧ meth.locks = false ∧ n0 ≤ h.size ∧
      ∃ (T : State) (locs : List Loc), Stand p l e B.rm s m args below meth c T locs ck cs ∧ T.heap = h ∧ Fr n0 locs ∧
        ∀ tg, Steps p.tables e below (T.setTop (mkF m pc L S)) tg → Steps p.tables e below start tg
def own_G (K : OwnK) (n0 ck cs : Nat) (Q : Option Value → Heap → Prop) : Prop :=
  match K with
  | (p, _, e, s, _, _, below, _, _, start) =>
    ∃ s₂ o, Steps p.tables e below start s₂ ∧ s₂.status = .running ∧ Ended s₂ below o ∧
      ∃ v L, o = .returned v ∧ (Q v s₂.heap ∧ Fr n0 L ∧ n0 ≤ s₂.heap.size) ∧ FrameEnd s o s₂ L ck cs
def own_M (l : Launch) (Z : State) (n0 : Nat) (B : OwnB) (as : Array Value) (h : Heap) (Q : Option Value → Heap → Prop) : Prop :=
  ∀ ws : List Jvm.Cond, MetFree l B.y (head1 (Jvm.Cond.code B.y B.bytes B.ml B.ret :: ws) B.rm) (fun a U => a = as ∧ Z.Warmed39 U.vm ∧ U.heap = h) (fun _ _ _ _ _ => True)
    (fun _ U o U' => ∃ v L, o = .returned v ∧ (Q v U'.heap ∧ Fr n0 L ∧ n0 ≤ U'.heap.size) ∧ FrameEnd U o U' L B.rm.cells B.rm.slots)
theorem own_enter {l : Launch} {Z : State} {n0 : Nat} {B : OwnB} {as : Array Value} {h : Heap} {Q : Option Value → Heap → Prop} (hn0 : n0 ≤ h.size) (pn : plainName B.y.cls = true) {L0 : Array Slot} (ef : ∀ m, entryFrame m as B.ml = mkF m 0 L0 [])
    (body : ∀ K, own_W K B Z n0 h 0 0 0 L0 [] → own_G K n0 B.rm.cells B.rm.slots Q) : own_M l Z n0 B as h Q := by
  intro ws
  refine MetFree.of_bodySF (plainFor_of_name pn) hisR ?_
  intro p e s m args below meth c s₁ Bd hml0 hP hK
  obtain ⟨rfl, hZ, hh⟩ := hP
  exact body (p, l, e, s, m, args, below, meth, c, s₁.setTop (entryFrame m args B.ml)) ⟨Bd.exec, hZ, findClass_of_methodNamed Bd.named, (name_of_methodNamed Bd.named Bd.method).1, Bd.bytes, hml0, Bd.returns, Bd.notSynchronized, hn0, s₁, [], Stand.of_body Bd, by rw [← hh, Bd.state]; rfl, Fr.nil n0, fun t k => castTop (ef m) k⟩
section Own
variable {K : OwnK} {B : OwnB} {Z : State} {n0 : Nat} {h : Heap} {ck cs pc : Nat} {L : Array Slot} {S : List Value} {a0 : Array Value}
theorem own_step {pc' : Nat} {L' : Array Slot} {S' : List Value} (w : own_W K B Z n0 h ck cs pc L S)
    (st : ∀ {p : Program} {l : Launch} {e : Env} {s : State} {m : MethodId} {args : Array Value} {below : List Frame} {meth : Method} {c : Code} {T : State} {locs : List Loc}, Stand p l e B.rm s m args below meth c T locs ck cs → p.tables.exec = Jvm.exec → Z.Warmed39 s.vm → s.vm.findClass B.y.cls = some m.cls → c.code = B.bytes → T.heap = h →
      ∀ tg, Steps p.tables e below (T.setTop (mkF m pc' L' S')) tg → Steps p.tables e below (T.setTop (mkF m pc L S)) tg) : own_W K B Z n0 h ck cs pc' L' S' := by
  obtain ⟨p, l, e, s, m, args, below, meth, c, start⟩ := K
  obtain ⟨hx, hZ, hown, hnm, hby, hml, hret, hlk, hn, T, locs, X, eT, N, pre⟩ := w
  exact ⟨hx, hZ, hown, hnm, hby, hml, hret, hlk, hn, T, locs, X, eT, N, fun tg k => pre tg (st X hx hZ hown hby eT tg k)⟩
theorem own_cast {pc' : Nat} {L' : Array Slot} {S' : List Value} {h' : Heap} {ck' cs' : Nat} (w : own_W K B Z n0 h ck cs pc L S) (e1 : h = h') (e2 : ck = ck') (e3 : cs = cs') (e4 : pc = pc') (e5 : L = L') (e6 : S = S') : own_W K B Z n0 h' ck' cs' pc' L' S' := by
  subst e1 e2 e3 e4 e5 e6; exact w
theorem own_size (w : own_W K B Z n0 h ck cs pc L S) : n0 ≤ h.size := by
  obtain ⟨p, l, e, s, m, args, below, meth, c, start⟩ := K
  exact w.2.2.2.2.2.2.2.2.1
theorem own_iloadN (w : own_W K B Z n0 h ck cs pc L S) {k : Fin 4} {v : Int32} (hd : decode B.bytes pc = .ok (.iload_n k, 1)) (hl : L[k.val]? = some (.val (.int v))) : own_W K B Z n0 h ck cs (pc + 1) L (.int v :: S) :=
  own_step w fun X hx _ _ hby _ tg kt => XS.iloadN X.here hx rfl (hb hby hd) hl kt
theorem own_iload (w : own_W K B Z n0 h ck cs pc L S) {k : Nat} {v : Int32} (hd : decode B.bytes pc = .ok (.iload k, 2)) (hl : L[k]? = some (.val (.int v))) : own_W K B Z n0 h ck cs (pc + 2) L (.int v :: S) :=
  own_step w fun X hx _ _ hby _ tg kt => XS.iload X.here hx rfl (hb hby hd) hl kt
theorem own_lloadN (w : own_W K B Z n0 h ck cs pc L S) {k : Fin 4} {v : Int64} (hd : decode B.bytes pc = .ok (.lload_n k, 1)) (hl : L[k.val]? = some (.val (.long v))) : own_W K B Z n0 h ck cs (pc + 1) L (.long v :: S) :=
  own_step w fun X hx _ _ hby _ tg kt => XS.lloadN X.here hx rfl (hb hby hd) hl kt
theorem own_lload (w : own_W K B Z n0 h ck cs pc L S) {k : Nat} {v : Int64} (hd : decode B.bytes pc = .ok (.lload k, 2)) (hl : L[k]? = some (.val (.long v))) : own_W K B Z n0 h ck cs (pc + 2) L (.long v :: S) :=
  own_step w fun X hx _ _ hby _ tg kt => XS.lload X.here hx rfl (hb hby hd) hl kt
theorem own_aloadN (w : own_W K B Z n0 h ck cs pc L S) {k : Fin 4} {a : Addr} (hd : decode B.bytes pc = .ok (.aload_n k, 1)) (hl : L[k.val]? = some (.val (.ref a))) : own_W K B Z n0 h ck cs (pc + 1) L (.ref a :: S) :=
  own_step w fun X hx _ _ hby _ tg kt => XS.aloadN X.here hx rfl (hb hby hd) hl rfl kt
theorem own_aload (w : own_W K B Z n0 h ck cs pc L S) {k : Nat} {a : Addr} (hd : decode B.bytes pc = .ok (.aload k, 2)) (hl : L[k]? = some (.val (.ref a))) : own_W K B Z n0 h ck cs (pc + 2) L (.ref a :: S) :=
  own_step w fun X hx _ _ hby _ tg kt => XS.aload X.here hx rfl (hb hby hd) hl rfl kt
theorem own_iconst (w : own_W K B Z n0 h ck cs pc L S) {i : Int} {v : Int32} (hd : decode B.bytes pc = .ok (.iconst i, 1)) (hv : Int32.ofInt i = v) : own_W K B Z n0 h ck cs (pc + 1) L (.int v :: S) := by
  subst hv; exact own_step w fun X hx _ _ hby _ tg kt => XS.iconst X.here hx rfl (hb hby hd) kt
theorem own_bipush (w : own_W K B Z n0 h ck cs pc L S) {i : Int} {v : Int32} (hd : decode B.bytes pc = .ok (.bipush i, 2)) (hv : (Int8.ofInt i).toInt32 = v) : own_W K B Z n0 h ck cs (pc + 2) L (.int v :: S) := by
  subst hv; exact own_step w fun X hx _ _ hby _ tg kt => XS.bipush X.here hx rfl (hb hby hd) kt
theorem own_sipush (w : own_W K B Z n0 h ck cs pc L S) {i : Int} {v : Int32} (hd : decode B.bytes pc = .ok (.sipush i, 3)) (hv : (Int16.ofInt i).toInt32 = v) : own_W K B Z n0 h ck cs (pc + 3) L (.int v :: S) := by
  subst hv; exact own_step w fun X hx _ _ hby _ tg kt => XS.sipush X.here hx rfl (hb hby hd) kt
theorem own_lconst (w : own_W K B Z n0 h ck cs pc L S) {k : Fin 2} {v : Int64} (hd : decode B.bytes pc = .ok (.lconst k, 1)) (hv : Int64.ofNat k = v) : own_W K B Z n0 h ck cs (pc + 1) L (.long v :: S) := by
  subst hv; exact own_step w fun X hx _ _ hby _ tg kt => XS.lconst X.here hx rfl (hb hby hd) kt
theorem own_ldc (w : own_W K B Z n0 h ck cs pc L S) {i : Nat} {v : Int32} (hd : decode B.bytes pc = .ok (.ldc i, 2)) (wc : (Jvm.Cond.constant B.y.cls i v).before a0 Z = true) : own_W K B Z n0 h ck cs (pc + 2) L (.int v :: S) :=
  own_step w fun X hx hZ hown hby _ tg kt => X.ldcInt (g := mkF _ pc L S) hx hown (mv hZ wc) rfl (hb hby hd) tg kt
theorem own_ldc2 (w : own_W K B Z n0 h ck cs pc L S) {i : Nat} {v : Int64} (hd : decode B.bytes pc = .ok (.ldc2_w i, 3)) (wc : (Jvm.Cond.constantLong B.y.cls i v).before a0 Z = true) : own_W K B Z n0 h ck cs (pc + 3) L (.long v :: S) :=
  own_step w fun X hx hZ hown hby _ tg kt => X.ldc2Long (g := mkF _ pc L S) hx hown (mv hZ wc) rfl (hb hby hd) tg kt
theorem own_dup {x : Value} (w : own_W K B Z n0 h ck cs pc L (x :: S)) (hd : decode B.bytes pc = .ok (.dup, 1)) (hc : x.category = 1) : own_W K B Z n0 h ck cs (pc + 1) L (x :: x :: S) :=
  own_step w fun X hx _ _ hby _ tg kt => XS.dup X.here hx rfl (hb hby hd) rfl hc kt
theorem own_istoreN {x : Int32} {L' : Array Slot} (w : own_W K B Z n0 h ck cs pc L (.int x :: S)) {k : Fin 4} (hd : decode B.bytes pc = .ok (.istore_n k, 1)) (hl : storeLocals L k.val (.int x) = some L') : own_W K B Z n0 h ck cs (pc + 1) L' S :=
  own_step w fun X hx _ _ hby _ tg kt => XS.istoreN X.here hx rfl (hb hby hd) rfl hl kt
theorem own_istore {x : Int32} {L' : Array Slot} (w : own_W K B Z n0 h ck cs pc L (.int x :: S)) {k : Nat} (hd : decode B.bytes pc = .ok (.istore k, 2)) (hl : storeLocals L k (.int x) = some L') : own_W K B Z n0 h ck cs (pc + 2) L' S :=
  own_step w fun X hx _ _ hby _ tg kt => XS.istore X.here hx rfl (hb hby hd) rfl hl kt
theorem own_lstoreN {x : Int64} {L' : Array Slot} (w : own_W K B Z n0 h ck cs pc L (.long x :: S)) {k : Fin 4} (hd : decode B.bytes pc = .ok (.lstore_n k, 1)) (hl : storeLocals L k.val (.long x) = some L') : own_W K B Z n0 h ck cs (pc + 1) L' S :=
  own_step w fun X hx _ _ hby _ tg kt => XS.lstoreN X.here hx rfl (hb hby hd) rfl hl kt
theorem own_lstore {x : Int64} {L' : Array Slot} (w : own_W K B Z n0 h ck cs pc L (.long x :: S)) {k : Nat} (hd : decode B.bytes pc = .ok (.lstore k, 2)) (hl : storeLocals L k (.long x) = some L') : own_W K B Z n0 h ck cs (pc + 2) L' S :=
  own_step w fun X hx _ _ hby _ tg kt => XS.lstore X.here hx rfl (hb hby hd) rfl hl kt
theorem own_astoreN {a : Addr} {L' : Array Slot} (w : own_W K B Z n0 h ck cs pc L (.ref a :: S)) {k : Fin 4} (hd : decode B.bytes pc = .ok (.astore_n k, 1)) (hl : storeLocals L k.val (.ref a) = some L') : own_W K B Z n0 h ck cs (pc + 1) L' S :=
  own_step w fun X hx _ _ hby _ tg kt => XS.astoreN X.here hx rfl (hb hby hd) rfl rfl hl kt
theorem own_astore {a : Addr} {L' : Array Slot} (w : own_W K B Z n0 h ck cs pc L (.ref a :: S)) {k : Nat} (hd : decode B.bytes pc = .ok (.astore k, 2)) (hl : storeLocals L k (.ref a) = some L') : own_W K B Z n0 h ck cs (pc + 2) L' S :=
  own_step w fun X hx _ _ hby _ tg kt => XS.astore X.here hx rfl (hb hby hd) rfl rfl hl kt
theorem own_iinc {x v : Int32} {L' : Array Slot} (w : own_W K B Z n0 h ck cs pc L S) {k : Nat} {c : Int} (hd : decode B.bytes pc = .ok (.iinc k c, 3)) (hl : L[k]? = some (.val (.int x))) (hv : Int32.ofInt c = v) (hl' : storeLocals L k (.int (x + v)) = some L') : own_W K B Z n0 h ck cs (pc + 3) L' S := by
  subst hv; exact own_step w fun X hx _ _ hby _ tg kt => XS.iinc X.here hx rfl (hb hby hd) hl hl' kt
theorem own_goto (w : own_W K B Z n0 h ck cs pc L S) {o : Int} {pc' : Nat} (hd : decode B.bytes pc = .ok (.goto o, 3)) (ho : 0 ≤ (pc : Int) + o) (hp : ((pc : Int) + o).toNat = pc') : own_W K B Z n0 h ck cs pc' L S :=
  own_step w fun X hx _ _ hby _ tg kt => XS.goto X.here hx rfl (pc0 := pc) rfl (hb hby hd) ho hp kt
theorem own_iadd {x : Int32} {y : Int32} (w : own_W K B Z n0 h ck cs pc L (.int y :: .int x :: S)) (hd : decode B.bytes pc = .ok (.iadd, 1)) : own_W K B Z n0 h ck cs (pc + 1) L (.int (x + y) :: S) :=
  own_step w fun X hx _ _ hby _ tg kt => XS.iadd X.here hx rfl (hb hby hd) rfl kt
theorem own_isub {x : Int32} {y : Int32} (w : own_W K B Z n0 h ck cs pc L (.int y :: .int x :: S)) (hd : decode B.bytes pc = .ok (.isub, 1)) : own_W K B Z n0 h ck cs (pc + 1) L (.int (x - y) :: S) :=
  own_step w fun X hx _ _ hby _ tg kt => XS.isub X.here hx rfl (hb hby hd) rfl kt
theorem own_imul {x : Int32} {y : Int32} (w : own_W K B Z n0 h ck cs pc L (.int y :: .int x :: S)) (hd : decode B.bytes pc = .ok (.imul, 1)) : own_W K B Z n0 h ck cs (pc + 1) L (.int (x * y) :: S) :=
  own_step w fun X hx _ _ hby _ tg kt => XS.imul X.here hx rfl (hb hby hd) rfl kt
theorem own_iand {x : Int32} {y : Int32} (w : own_W K B Z n0 h ck cs pc L (.int y :: .int x :: S)) (hd : decode B.bytes pc = .ok (.iand, 1)) : own_W K B Z n0 h ck cs (pc + 1) L (.int (x &&& y) :: S) :=
  own_step w fun X hx _ _ hby _ tg kt => XS.iand X.here hx rfl (hb hby hd) rfl kt
theorem own_ior {x : Int32} {y : Int32} (w : own_W K B Z n0 h ck cs pc L (.int y :: .int x :: S)) (hd : decode B.bytes pc = .ok (.ior, 1)) : own_W K B Z n0 h ck cs (pc + 1) L (.int (x ||| y) :: S) :=
  own_step w fun X hx _ _ hby _ tg kt => XS.ior X.here hx rfl (hb hby hd) rfl kt
theorem own_ixor {x : Int32} {y : Int32} (w : own_W K B Z n0 h ck cs pc L (.int y :: .int x :: S)) (hd : decode B.bytes pc = .ok (.ixor, 1)) : own_W K B Z n0 h ck cs (pc + 1) L (.int (x ^^^ y) :: S) :=
  own_step w fun X hx _ _ hby _ tg kt => XS.ixor X.here hx rfl (hb hby hd) rfl kt
theorem own_ishl {x : Int32} {y : Int32} (w : own_W K B Z n0 h ck cs pc L (.int y :: .int x :: S)) (hd : decode B.bytes pc = .ok (.ishl, 1)) : own_W K B Z n0 h ck cs (pc + 1) L (.int (x <<< (y &&& 31)) :: S) :=
  own_step w fun X hx _ _ hby _ tg kt => XS.ishl X.here hx rfl (hb hby hd) rfl kt
theorem own_iushr {x : Int32} {y : Int32} (w : own_W K B Z n0 h ck cs pc L (.int y :: .int x :: S)) (hd : decode B.bytes pc = .ok (.iushr, 1)) : own_W K B Z n0 h ck cs (pc + 1) L (.int (XT.ushr x y) :: S) :=
  own_step w fun X hx _ _ hby _ tg kt => XS.iushr X.here hx rfl (hb hby hd) rfl kt
theorem own_irem {x : Int32} {y : Int32} (w : own_W K B Z n0 h ck cs pc L (.int y :: .int x :: S)) (hd : decode B.bytes pc = .ok (.irem, 1)) (hy : y ≠ 0) : own_W K B Z n0 h ck cs (pc + 1) L (.int (x % y) :: S) :=
  own_step w fun X hx _ _ hby _ tg kt => iremM X hx rfl (hb hby hd) rfl hy kt
theorem own_ladd {x : Int64} {y : Int64} (w : own_W K B Z n0 h ck cs pc L (.long y :: .long x :: S)) (hd : decode B.bytes pc = .ok (.ladd, 1)) : own_W K B Z n0 h ck cs (pc + 1) L (.long (x + y) :: S) :=
  own_step w fun X hx _ _ hby _ tg kt => XS.ladd X.here hx rfl (hb hby hd) rfl kt
theorem own_lsub {x : Int64} {y : Int64} (w : own_W K B Z n0 h ck cs pc L (.long y :: .long x :: S)) (hd : decode B.bytes pc = .ok (.lsub, 1)) : own_W K B Z n0 h ck cs (pc + 1) L (.long (x - y) :: S) :=
  own_step w fun X hx _ _ hby _ tg kt => XS.lsub X.here hx rfl (hb hby hd) rfl kt
theorem own_land {x : Int64} {y : Int64} (w : own_W K B Z n0 h ck cs pc L (.long y :: .long x :: S)) (hd : decode B.bytes pc = .ok (.land, 1)) : own_W K B Z n0 h ck cs (pc + 1) L (.long (x &&& y) :: S) :=
  own_step w fun X hx _ _ hby _ tg kt => XS.land X.here hx rfl (hb hby hd) rfl kt
theorem own_lrem {x : Int64} {y : Int64} (w : own_W K B Z n0 h ck cs pc L (.long y :: .long x :: S)) (hd : decode B.bytes pc = .ok (.lrem, 1)) (hy : y ≠ 0) : own_W K B Z n0 h ck cs (pc + 1) L (.long (x - (x / y) * y) :: S) :=
  own_step w fun X hx _ _ hby _ tg kt => XS.lrem X.here hx rfl (hb hby hd) rfl hy kt
theorem own_lushr {x : Int64} {y : Int32} (w : own_W K B Z n0 h ck cs pc L (.int y :: .long x :: S)) (hd : decode B.bytes pc = .ok (.lushr, 1)) : own_W K B Z n0 h ck cs (pc + 1) L (.long (XT.ushrL x y) :: S) :=
  own_step w fun X hx _ _ hby _ tg kt => XT.lushr X.here hx rfl (hb hby hd) rfl kt
theorem own_i2l {x : Int32} (w : own_W K B Z n0 h ck cs pc L (.int x :: S)) (hd : decode B.bytes pc = .ok (.i2l, 1)) : own_W K B Z n0 h ck cs (pc + 1) L (.long (x.toInt64) :: S) :=
  own_step w fun X hx _ _ hby _ tg kt => XS.i2l X.here hx rfl (hb hby hd) rfl kt
theorem own_l2i {x : Int64} (w : own_W K B Z n0 h ck cs pc L (.long x :: S)) (hd : decode B.bytes pc = .ok (.l2i, 1)) : own_W K B Z n0 h ck cs (pc + 1) L (.int (x.toInt32) :: S) :=
  own_step w fun X hx _ _ hby _ tg kt => XS.l2i X.here hx rfl (hb hby hd) rfl kt
theorem own_i2b {x : Int32} (w : own_W K B Z n0 h ck cs pc L (.int x :: S)) (hd : decode B.bytes pc = .ok (.i2b, 1)) : own_W K B Z n0 h ck cs (pc + 1) L (.int (x.toInt8.toInt32) :: S) :=
  own_step w fun X hx _ _ hby _ tg kt => XS.i2b X.here hx rfl (hb hby hd) rfl kt
theorem own_i2c {x : Int32} (w : own_W K B Z n0 h ck cs pc L (.int x :: S)) (hd : decode B.bytes pc = .ok (.i2c, 1)) : own_W K B Z n0 h ck cs (pc + 1) L (.int (x.toUInt32.toUInt16.toUInt32.toInt32) :: S) :=
  own_step w fun X hx _ _ hby _ tg kt => XS.i2c X.here hx rfl (hb hby hd) rfl kt
/-- what a comparison asks of two Ints, and its contrary -/
def own_cd : ClassFile.Cond → Int → Int → Prop
  | .eq, a, b => a = b
  | .ne, a, b => ¬ a = b
  | .lt, a, b => a < b
  | .ge, a, b => ¬ a < b
  | .gt, a, b => b < a
  | .le, a, b => ¬ b < a
def own_cn : ClassFile.Cond → Int → Int → Prop
  | .eq, a, b => ¬ a = b
  | .ne, a, b => a = b
  | .lt, a, b => ¬ a < b
  | .ge, a, b => a < b
  | .gt, a, b => ¬ b < a
  | .le, a, b => b < a
theorem own_yes {x y : Int32} {a b : Int} {cd : ClassFile.Cond} (hx : x.toInt = a) (hy : y.toInt = b) (hc : own_cd cd a b) : if_icmp.holds cd x y = true := by
  subst hx hy
  cases cd with
  | eq => exact (teq (Int32.toInt_inj.mp hc)).1
  | ne => exact (feq (fun q => hc (congrArg _ q))).2
  | lt => exact (tlt (Int32.lt_iff_toInt_lt.mpr hc)).1
  | ge => exact (flt (fun q => hc (Int32.lt_iff_toInt_lt.mp q))).2.1
  | gt => exact (tlt (Int32.lt_iff_toInt_lt.mpr hc)).2.2.1
  | le => exact (flt (fun q => hc (Int32.lt_iff_toInt_lt.mp q))).2.2.2
theorem own_no {x y : Int32} {a b : Int} {cd : ClassFile.Cond} (hx : x.toInt = a) (hy : y.toInt = b) (hc : own_cn cd a b) : if_icmp.holds cd x y = false := by
  subst hx hy
  cases cd with
  | eq => exact (feq (fun q => hc (congrArg _ q))).1
  | ne => exact (teq (Int32.toInt_inj.mp hc)).2
  | lt => exact (flt (fun q => hc (Int32.lt_iff_toInt_lt.mp q))).1
  | ge => exact (tlt (Int32.lt_iff_toInt_lt.mpr hc)).2.1
  | gt => exact (flt (fun q => hc (Int32.lt_iff_toInt_lt.mp q))).2.2.1
  | le => exact (tlt (Int32.lt_iff_toInt_lt.mpr hc)).2.2.2
theorem own_icmpY {x y : Int32} (w : own_W K B Z n0 h ck cs pc L (.int y :: .int x :: S)) {cd : ClassFile.Cond} {o : Int} {pc' : Nat} (hd : decode B.bytes pc = .ok (.if_icmp cd o, 3)) {a b : Int} (hx : x.toInt = a) (hy : y.toInt = b) (hc : own_cd cd a b) (ho : 0 ≤ (pc : Int) + o) (hp : ((pc : Int) + o).toNat = pc') : own_W K B Z n0 h ck cs pc' L S :=
  own_step w fun X hx' _ _ hby _ tg kt => XS.icmpYes X.here hx' rfl (pc0 := pc) rfl (hb hby hd) rfl (own_yes hx hy hc) ho hp kt
theorem own_icmpN {x y : Int32} (w : own_W K B Z n0 h ck cs pc L (.int y :: .int x :: S)) {cd : ClassFile.Cond} {o : Int} (hd : decode B.bytes pc = .ok (.if_icmp cd o, 3)) {a b : Int} (hx : x.toInt = a) (hy : y.toInt = b) (hc : own_cn cd a b) : own_W K B Z n0 h ck cs (pc + 3) L S :=
  own_step w fun X hx' _ _ hby _ tg kt => XS.icmpNo X.here hx' rfl (hb hby hd) rfl (own_no hx hy hc) kt
theorem own_ifY {x : Int32} (w : own_W K B Z n0 h ck cs pc L (.int x :: S)) {cd : ClassFile.Cond} {o : Int} {pc' : Nat} (hd : decode B.bytes pc = .ok (.ifCond cd o, 3)) {a : Int} (hx : x.toInt = a) (hc : own_cd cd a 0) (ho : 0 ≤ (pc : Int) + o) (hp : ((pc : Int) + o).toNat = pc') : own_W K B Z n0 h ck cs pc' L S :=
  own_step w fun X hx' _ _ hby _ tg kt => XS.ifYes X.here hx' rfl (pc0 := pc) rfl (hb hby hd) rfl ((if0 _ _).trans (own_yes (y := 0) hx rfl hc)) ho hp kt
theorem own_ifN {x : Int32} (w : own_W K B Z n0 h ck cs pc L (.int x :: S)) {cd : ClassFile.Cond} {o : Int} (hd : decode B.bytes pc = .ok (.ifCond cd o, 3)) {a : Int} (hx : x.toInt = a) (hc : own_cn cd a 0) : own_W K B Z n0 h ck cs (pc + 3) L S :=
  own_step w fun X hx' _ _ hby _ tg kt => XS.ifNo X.here hx' rfl (hb hby hd) rfl ((if0 _ _).trans (own_no (y := 0) hx rfl hc)) kt
theorem own_end {v : Option Value} {Q : Option Value → Heap → Prop} {gk gs : Nat} (w : own_W K B Z n0 h ck cs pc L S) (hv : B.ret = none → v = none) (hQ : Q v h) (hk : ck ≤ gk) (hs : cs ≤ gs)
    (st : ∀ {p : Program} {l : Launch} {e : Env} {s : State} {m : MethodId} {args : Array Value} {below : List Frame} {meth : Method} {c : Code} {T : State} {locs : List Loc} {fs : List Frame}, Stand p l e B.rm s m args below meth c T locs ck cs → p.tables.exec = Jvm.exec → meth.sig.returnType = B.ret → c.code = B.bytes →
      (∀ (f : JFrame) (acts : List Action), f.method = m → f.locked = none → f.entered = [] → (doReturn e (T.setTop f) acts v).1 = T.setFrames fs) → Steps p.tables e below (T.setTop (mkF m pc L S)) (T.setFrames fs)) : own_G K n0 gk gs Q := by
  obtain ⟨p, l, e, s, m, args, below, meth, c, start⟩ := K
  obtain ⟨hx, hZ, hown, hnm, hby, hml, hret, hlk, hn, T, locs, X, eT, N, pre⟩ := w
  obtain ⟨fs, hr, hrun, hended, hW, hsame⟩ := X.leave (v := v) (fun q => hv (hret.symm.trans q)) hlk
  refine ⟨_, _, pre _ (st X hx hret hby hr), hrun, hended, v, locs, rfl, ⟨?_, N, ?_⟩, ⟨_, rfl⟩, hW, hsame.mono hk hs⟩
  · show Q v T.heap
    rw [eT]; exact hQ
  · show n0 ≤ T.heap.size
    rw [eT]; exact hn
theorem own_retZ {z : Int32} {t : FieldType} {Q : Option Value → Heap → Prop} {gk gs : Nat} (w : own_W K B Z n0 h ck cs pc L (.int z :: S)) (hd : decode B.bytes pc = .ok (.ireturn, 1)) (hret : B.ret = some t) (ht : t = .boolean ∨ t = .byte ∨ t = .char ∨ t = .short) (hQ : Q (some (.int (nar t z))) h) (hk : ck ≤ gk) (hs : cs ≤ gs) : own_G K n0 gk gs Q :=
  own_end w (fun q => by rw [hret] at q; cases q) hQ hk hs fun X hx hr hby hl => retN X hx (hr.trans hret) ht (hb hby hd) hl
theorem own_retI {z : Int32} {Q : Option Value → Heap → Prop} {gk gs : Nat} (w : own_W K B Z n0 h ck cs pc L (.int z :: S)) (hd : decode B.bytes pc = .ok (.ireturn, 1)) (hret : B.ret = some .int) (hQ : Q (some (.int z)) h) (hk : ck ≤ gk) (hs : cs ≤ gs) : own_G K n0 gk gs Q :=
  own_end w (fun q => by rw [hret] at q; cases q) hQ hk hs fun X hx hr hby hl => retI X hx (hr.trans hret) (hb hby hd) hl
theorem own_retV {Q : Option Value → Heap → Prop} {gk gs : Nat} (w : own_W K B Z n0 h ck cs pc L []) (hd : decode B.bytes pc = .ok (.return_, 1)) (hret : B.ret = none) (hQ : Q none h) (hk : ck ≤ gk) (hs : cs ≤ gs) : own_G K n0 gk gs Q :=
  own_end w (fun _ => rfl) hQ hk hs fun X hx hr hby hl => X.returnOut hx (hr.trans hret) (hb hby hd) hl
theorem own_wk {Q Q' : Option Value → Heap → Prop} {gk gs : Nat} (g : own_G K n0 gk gs Q) (q : ∀ v h', Q v h' → Q' v h') : own_G K n0 gk gs Q' := by
  obtain ⟨p, l, e, s, m, args, below, meth, c, start⟩ := K
  obtain ⟨s₂, o, h1, h2, h3, v, L, h4, ⟨h5, h6⟩, h7⟩ := g
  exact ⟨s₂, o, h1, h2, h3, v, L, h4, ⟨q _ _ h5, h6⟩, h7⟩
/-- a static call, by the callee's contract -/
theorem own_callS {By : OwnB} {idx : Nat} {stk rest : List Value} {ps : List FieldType} {r : Option FieldType} {Q : Option Value → Heap → Prop} (as : List Value) (w : own_W K B Z n0 h ck cs pc L stk) (hS : stk = as.reverse ++ rest) (hd : decode B.bytes pc = .ok (.invokestatic idx, 3))
    (w1 : (Jvm.Cond.methodLink B.y.cls idx By.y).before a0 Z = true) (w2 : (Jvm.Cond.static By.y).before a0 Z = true) (w3 : (Jvm.Cond.initialized By.y.cls).before a0 Z = true) (w4 : (Jvm.Cond.code By.y By.bytes By.ml By.ret).before a0 Z = true)
    (hM : ∀ l, own_M l Z n0 By as.toArray h Q) (hy : By.y.cls ≠ "java/lang/invoke/MethodHandle" ∧ By.y.cls ≠ "java/lang/invoke/VarHandle") (hp : parseMethodDescriptor By.y.desc = some ⟨ps, r⟩) (hl : as.length = ps.length) (hsz : L.size = B.ml)
    (hf : By.rm.frames + 1 ≤ B.rm.frames) (hlo : (rest.map fun v => v.category).sum + (By.ml + 11) + By.rm.locals ≤ B.rm.locals) (hc : ck + By.rm.cells ≤ B.rm.cells) (hs : cs + By.rm.slots ≤ B.rm.slots) :
    ∃ v h', Q v h' ∧ own_W K B Z n0 h' (ck + By.rm.cells) (cs + By.rm.slots) (pc + 3) L (v.toList ++ rest) := by
  obtain ⟨p, l, e, s, m, args, below, meth, c, start⟩ := K
  obtain ⟨hx, hZ, hown, hnm, hby, hml, hret, hlk, hn, T, locs, X, eT, N, pre⟩ := w
  obtain ⟨v, _, ⟨T', L', k', n'⟩, -, X', ⟨Lc, hQ, l', y', z'⟩, st⟩ := Jvm.LawKit.callS X hx (y := By.y) hown (mvT hZ w1) (mvT hZ w2) (mvT hZ w3) (mvT hZ w4) hy (backOf (W := (rest.map fun v => v.category).sum) (Q := fun v h' L => Q v h' ∧ Fr n0 L ∧ n0 ≤ h'.size) (hM l []) hZ w4 w3 hf hlo) (g := mkF m pc L stk) rfl (by rw [hml]; exact hsz) (argsL := as) (rest := rest) (lenOf hp hl) hS (by show 2 * 0 + _ ≤ _; exact Nat.le_of_eq (by simp)) (hb hby hd) (fun _ _ => ⟨rfl, eT, hc, hs⟩)
  dsimp only [Pt.U, Pt.locs, Pt.cells, Pt.slots] at X' l' y' z' st hQ
  subst l' y' z'
  exact ⟨v, T'.heap, hQ.1, hx, hZ, hown, hnm, hby, hml, hret, hlk, hQ.2.2, T', _, X', rfl, N.app hQ.2.1, fun tg k => pre tg (st tg k)⟩
/-- a constructor, by its contract -/
theorem own_callI {By : OwnB} {idx : Nat} {stk rest : List Value} {ps : List FieldType} {r : Option FieldType} {Q : Option Value → Heap → Prop} (a : Addr) (as : List Value) (w : own_W K B Z n0 h ck cs pc L stk) (hS : stk = as.reverse ++ .ref a :: rest) (hd : decode B.bytes pc = .ok (.invokespecial idx, 3)) (hni : By.y.name = "<init>") (hnr : By.ret = none)
    (w1 : (Jvm.Cond.methodLink B.y.cls idx By.y).before a0 Z = true) (w2 : (Jvm.Cond.instanceMethod By.y).before a0 Z = true) (w3 : (Jvm.Cond.initialized By.y.cls).before a0 Z = true) (w4 : (Jvm.Cond.code By.y By.bytes By.ml By.ret).before a0 Z = true)
    (hM : ∀ l, own_M l Z n0 By (.ref a :: as).toArray h Q) (hy : By.y.cls ≠ "java/lang/invoke/MethodHandle" ∧ By.y.cls ≠ "java/lang/invoke/VarHandle") (hp : parseMethodDescriptor By.y.desc = some ⟨ps, r⟩) (hl : as.length = ps.length) (hsz : L.size = B.ml)
    (hf : By.rm.frames + 1 ≤ B.rm.frames) (hlo : (rest.map fun v => v.category).sum + (By.ml + 11) + By.rm.locals ≤ B.rm.locals) (hc : ck + By.rm.cells ≤ B.rm.cells) (hs : cs + By.rm.slots ≤ B.rm.slots) :
    ∃ v h', Q v h' ∧ own_W K B Z n0 h' (ck + By.rm.cells) (cs + By.rm.slots) (pc + 3) L (v.toList ++ rest) := by
  obtain ⟨p, l, e, s, m, args, below, meth, c, start⟩ := K
  obtain ⟨hx, hZ, hown, hnm, hby, hml, hret, hlk, hn, T, locs, X, eT, N, pre⟩ := w
  obtain ⟨v, _, ⟨T', L', k', n'⟩, -, X', ⟨Lc, hQ, l', y', z'⟩, st⟩ := X.specialBack hx (y := By.y) hni hown (mvT hZ w1) (mvT hZ w2) (mvT hZ (hnr ▸ w4)) hy (backOf (W := (rest.map fun v => v.category).sum) (Q := fun v h' L => Q v h' ∧ Fr n0 L ∧ n0 ≤ h'.size) (hM l []) hZ w4 w3 hf hlo) (g := mkF m pc L stk) rfl (by rw [hml]; exact hsz) (Steps.refl _) (a := a) (argsL := as) (rest := rest) (lenOf hp hl) hS (by show 2 * 0 + _ ≤ _; exact Nat.le_of_eq (by simp)) (hb hby hd) (fun _ _ => ⟨rfl, eT, hc, hs⟩)
  dsimp only [Pt.U, Pt.locs, Pt.cells, Pt.slots] at X' l' y' z' st hQ
  subst l' y' z'
  exact ⟨v, T'.heap, hQ.1, hx, hZ, hown, hnm, hby, hml, hret, hlk, hQ.2.2, T', _, X', rfl, N.app hQ.2.1, fun tg k => pre tg (st.trans k)⟩
/-- a nest mate's constructor, by its contract -/
theorem own_callN {By : OwnB} {host : String} {idx : Nat} {stk rest : List Value} {ps : List FieldType} {r : Option FieldType} {Q : Option Value → Heap → Prop} (a : Addr) (as : List Value) (w : own_W K B Z n0 h ck cs pc L stk) (hS : stk = as.reverse ++ .ref a :: rest) (hd : decode B.bytes pc = .ok (.invokespecial idx, 3)) (hni : By.y.name = "<init>") (hnr : By.ret = none)
    (w1 : (Jvm.Cond.methodLinkNest B.y.cls idx By.y host).before a0 Z = true) (w2 : (Jvm.Cond.instanceMethod By.y).before a0 Z = true) (w3 : (Jvm.Cond.initialized By.y.cls).before a0 Z = true) (w4 : (Jvm.Cond.code By.y By.bytes By.ml By.ret).before a0 Z = true)
    (hM : ∀ l, own_M l Z n0 By (.ref a :: as).toArray h Q) (hy : By.y.cls ≠ "java/lang/invoke/MethodHandle" ∧ By.y.cls ≠ "java/lang/invoke/VarHandle") (hp : parseMethodDescriptor By.y.desc = some ⟨ps, r⟩) (hl : as.length = ps.length) (hsz : L.size = B.ml)
    (hf : By.rm.frames + 1 ≤ B.rm.frames) (hlo : (rest.map fun v => v.category).sum + (By.ml + 11) + By.rm.locals ≤ B.rm.locals) (hc : ck + By.rm.cells ≤ B.rm.cells) (hs : cs + By.rm.slots ≤ B.rm.slots) :
    ∃ v h', Q v h' ∧ own_W K B Z n0 h' (ck + By.rm.cells) (cs + By.rm.slots) (pc + 3) L (v.toList ++ rest) := by
  obtain ⟨p, l, e, s, m, args, below, meth, c, start⟩ := K
  obtain ⟨hx, hZ, hown, hnm, hby, hml, hret, hlk, hn, T, locs, X, eT, N, pre⟩ := w
  obtain ⟨v, _, ⟨T', L', k', n'⟩, -, X', ⟨Lc, hQ, l', y', z'⟩, st⟩ := X.specialBackNest hx (y := By.y) (host := host) hni hown (Cond.methodLinkNest_wide hZ w1 :) (mvT hZ w2) (mvT hZ (hnr ▸ w4)) hy (backOf (W := (rest.map fun v => v.category).sum) (Q := fun v h' L => Q v h' ∧ Fr n0 L ∧ n0 ≤ h'.size) (hM l []) hZ w4 w3 hf hlo) (g := mkF m pc L stk) rfl (by rw [hml]; exact hsz) (Steps.refl _) (a := a) (argsL := as) (rest := rest) (lenOf hp hl) hS (by show 2 * 0 + _ ≤ _; exact Nat.le_of_eq (by simp)) (hb hby hd) (fun _ _ => ⟨rfl, eT, hc, hs⟩)
  dsimp only [Pt.U, Pt.locs, Pt.cells, Pt.slots] at X' l' y' z' st hQ
  subst l' y' z'
  exact ⟨v, T'.heap, hQ.1, hx, hZ, hown, hnm, hby, hml, hret, hlk, hQ.2.2, T', _, X', rfl, N.app hQ.2.1, fun tg k => pre tg (st.trans k)⟩
/-- an instance method of the object's own class, by its contract -/
theorem own_callV {By : OwnB} {idx : Nat} {stk rest : List Value} {ps : List FieldType} {r : Option FieldType} {Q : Option Value → Heap → Prop} (a : Addr) (as : List Value) (w : own_W K B Z n0 h ck cs pc L stk) (hS : stk = as.reverse ++ .ref a :: rest) (hd : decode B.bytes pc = .ok (.invokevirtual idx, 3)) (E : Exa Z h a By.y.cls)
    (w1 : (Jvm.Cond.methodLink B.y.cls idx By.y).before a0 Z = true) (wd : (Jvm.Cond.declares By.y).before a0 Z = true) (w2 : (Jvm.Cond.instanceMethod By.y).before a0 Z = true) (wsel : (Jvm.Cond.selects By.y.cls By.y By.y).before a0 Z = true) (w3 : (Jvm.Cond.initialized By.y.cls).before a0 Z = true) (w4 : (Jvm.Cond.code By.y By.bytes By.ml By.ret).before a0 Z = true)
    (hM : ∀ l, own_M l Z n0 By (.ref a :: as).toArray h Q) (hy : By.y.cls ≠ "java/lang/invoke/MethodHandle" ∧ By.y.cls ≠ "java/lang/invoke/VarHandle") (hp : parseMethodDescriptor By.y.desc = some ⟨ps, r⟩) (hl : as.length = ps.length) (hsz : L.size = B.ml)
    (hf : By.rm.frames + 1 ≤ B.rm.frames) (hlo : (rest.map fun v => v.category).sum + (By.ml + 11) + By.rm.locals ≤ B.rm.locals) (hc : ck + By.rm.cells ≤ B.rm.cells) (hs : cs + By.rm.slots ≤ B.rm.slots) :
    ∃ v h', Q v h' ∧ own_W K B Z n0 h' (ck + By.rm.cells) (cs + By.rm.slots) (pc + 3) L (v.toList ++ rest) := by
  obtain ⟨p, l, e, s, m, args, below, meth, c, start⟩ := K
  obtain ⟨hx, hZ, hown, hnm, hby, hml, hret, hlk, hn, T, locs, X, eT, N, pre⟩ := w
  obtain ⟨cq, kq, q1, q2, q3⟩ := isOf hZ eT E
  obtain ⟨v, _, ⟨T', L', k', n'⟩, -, X', ⟨Lc, hQ, l', y', z'⟩, st⟩ := X.virtualBack hx (y := By.y) (z := By.y) hown (mvT hZ w1) (mvT hZ wd) (notFace_of_selects (args := #[]) (mvT hZ wsel)) (mvT hZ wsel) (mvT hZ w2) hy (backOf (W := (rest.map fun v => v.category).sum) (Q := fun v h' L => Q v h' ∧ Fr n0 L ∧ n0 ≤ h'.size) (hM l []) hZ w4 w3 hf hlo) q1 q3 (g := mkF m pc L stk) rfl (by rw [hml]; exact hsz) (Steps.refl _) (argsL := as) (rest := rest) (lenOf hp hl) hS (by show 2 * 0 + _ ≤ _; exact Nat.le_of_eq (by simp)) (hb hby hd) (fun _ _ => ⟨rfl, eT, hc, hs⟩)
  dsimp only [Pt.U, Pt.locs, Pt.cells, Pt.slots] at X' l' y' z' st hQ
  subst l' y' z'
  exact ⟨v, T'.heap, hQ.1, hx, hZ, hown, hnm, hby, hml, hret, hlk, hQ.2.2, T', _, X', rfl, N.app hQ.2.1, fun tg k => pre tg (st.trans k)⟩
/-- Object.<init> -/
theorem own_initO {a : Addr} {idx : Nat} (w : own_W K B Z n0 h ck cs pc L (.ref a :: S)) (hd : decode B.bytes pc = .ok (.invokespecial idx, 3)) (w1 : (Jvm.Cond.methodLink B.y.cls idx Lib.objectInit).before a0 Z = true) (w2 : (Jvm.Cond.instanceMethod Lib.objectInit).before a0 Z = true)
    (w3 : (Jvm.Cond.code Lib.objectInit ⟨#[0xb1]⟩ 1 none).before a0 Z = true) (hsz : L.size = B.ml) (hf : 1 ≤ B.rm.frames) (hlo : (S.map fun v => v.category).sum + 12 ≤ B.rm.locals) : own_W K B Z n0 h ck cs (pc + 3) L S := by
  obtain ⟨p, l, e, s, m, args, below, meth, c, start⟩ := K
  obtain ⟨hx, hZ, hown, hnm, hby, hml, hret, hlk, hn, T, locs, X, eT, N, pre⟩ := w
  obtain ⟨T', X', e', st⟩ := initO X hx hZ hown w1 w2 w3 eT (g := mkF m pc L (.ref a :: S)) rfl (by rw [hml]; exact hsz) rfl (hb hby hd) hf (W := (S.map fun v => v.category).sum) (by show 2 * 0 + _ ≤ _; exact Nat.le_of_eq (by simp)) hlo
  exact ⟨hx, hZ, hown, hnm, hby, hml, hret, hlk, hn, T', locs, X', e', N, fun tg k => pre tg (st tg k)⟩
theorem own_getF {a : Addr} {idx : Nat} {O n d : String} {v : Value} (w : own_W K B Z n0 h ck cs pc L (.ref a :: S)) (hd : decode B.bytes pc = .ok (.getfield idx, 3)) (wl : (Jvm.Cond.fieldLink B.y.cls idx O n d).before a0 Z = true) (F : Fld Z h a O n d v) : own_W K B Z n0 h ck cs (pc + 3) L (v :: S) := by
  obtain ⟨p, l, e, s, m, args, below, meth, c, start⟩ := K
  obtain ⟨hx, hZ, hown, hnm, hby, hml, hret, hlk, hn, T, locs, X, eT, N, pre⟩ := w
  obtain ⟨T', X', e', st⟩ := getF X hx hZ hown (host := "") (Or.inl wl) Via.refl eT F (g := mkF m pc L (.ref a :: S)) rfl rfl (hb hby hd)
  exact ⟨hx, hZ, hown, hnm, hby, hml, hret, hlk, hn, T', locs, X', e', N, fun tg k => pre tg (st tg k)⟩
/-- putfield of a final field in a constructor of its class -/
theorem own_putF {a : Addr} {idx kk : Nat} {n d : String} {v old : Value} {ty : FieldType} (w : own_W K B Z n0 h ck cs pc L (v :: .ref a :: S)) (hd : decode B.bytes pc = .ok (.putfield idx, 3)) (wl : (Jvm.Cond.fieldLink B.y.cls idx B.y.cls n d).before a0 Z = true) (F : Fld Z h a B.y.cls n d old) (E : Exa Z h a B.y.cls)
    (wf : (Jvm.Cond.laysFinal B.y.cls B.y.cls n d).before a0 Z = true) (wi : (Jvm.Cond.instantiable B.y.cls kk).before a0 Z = true) (hni : B.y.name = "<init>") (hty : parseFieldDescriptor d = some ty) (hnr : narrow ty v = v) (hft : fits ty v = true) (ga : n0 ≤ a) :
    ∃ h', own_W K B Z n0 h' ck cs (pc + 3) L S ∧ Fld Z h' a B.y.cls n d v ∧ Keep h h' [a] := by
  obtain ⟨p, l, e, s, m, args, below, meth, c, start⟩ := K
  obtain ⟨hx, hZ, hown, hnm, hby, hml, hret, hlk, hn, T, locs, X, eT, N, pre⟩ := w
  obtain ⟨T', h', X', e', W', st⟩ := putF X hx hZ hown (host := "") (Or.inl wl) Via.refl eT F E (Or.inr ⟨wf, rfl, hnm.trans hni⟩) wi hty hnr hft (g := mkF m pc L (v :: .ref a :: S)) rfl rfl (hb hby hd)
  exact ⟨h', ⟨hx, hZ, hown, hnm, hby, hml, hret, hlk, by rw [W'.size]; exact hn, T', _, X', e', Fr.snoc X' N ga, fun tg k => pre tg (st tg k)⟩, F.same W', Keep.of_wr W'⟩
theorem own_newO {idx k : Nat} {C : String} (w : own_W K B Z n0 h ck cs pc L S) (hd : decode B.bytes pc = .ok (.new idx, 3)) (wl : (Jvm.Cond.classLink B.y.cls idx C).before a0 Z = true) (wi : (Jvm.Cond.instantiable C k).before a0 Z = true) (wz : (Jvm.Cond.initialized C).before a0 Z = true) (hc : ck + 1 ≤ B.rm.cells) (hs : cs + k ≤ B.rm.slots) :
    ∃ h' a, own_W K B Z n0 h' (ck + 1) (cs + k) (pc + 3) L (.ref a :: S) ∧ a = h.size ∧ n0 ≤ a ∧ Ext h h' ∧ Exa Z h' a C ∧ (∀ {O nm d : String} {ty : FieldType}, Laid Z a0 C O nm d → parseFieldDescriptor d = some ty → Fld Z h' a O nm d (defaultValue ty)) := by
  obtain ⟨p, l, e, s, m, args, below, meth, c, start⟩ := K
  obtain ⟨hx, hZ, hown, hnm, hby, hml, hret, hlk, hn, T, locs, X, eT, N, pre⟩ := w
  obtain ⟨T', h', X', e', E, A, D, -, st⟩ := newO X hx hZ hown wl wi wz eT (g := mkF m pc L S) rfl (hb hby hd) hc hs
  exact ⟨h', h.size, ⟨hx, hZ, hown, hnm, hby, hml, hret, hlk, Nat.le_trans hn E.1, T', _, X', e', N, fun tg k => pre tg (st tg k)⟩, rfl, hn, E, A, D⟩
/-- an array of ints, bytes or chars, and what it holds -/
def own_A (ty : FieldType) (Z : State) (h : Heap) (a : Addr) (l : List Int32) : Prop := ∃ c : Cell, Arr Z h a c ty ∧ c.slots.size = l.length ∧ l.length < 2 ^ 31 ∧ ∀ i, i < l.length → c.slots[i]? = some (.int (l.getD i 0))
def own_J (Z : State) (h : Heap) (a : Addr) (l : List Int64) : Prop := ∃ c : Cell, Arr Z h a c .long ∧ c.slots.size = l.length ∧ l.length < 2 ^ 31 ∧ ∀ i, i < l.length → c.slots[i]? = some (.long (l.getD i 0))
variable {ty : FieldType} {a b : Addr} {l : List Int32} {lj : List Int64} {h' : Heap}
theorem own_Alt (A : own_A ty Z h a l) : a < h.size := by obtain ⟨c, A, -⟩ := A; exact A.lt
theorem own_Jlt (A : own_J Z h a lj) : a < h.size := by obtain ⟨c, A, -⟩ := A; exact A.lt
theorem own_Aext (A : own_A ty Z h a l) (E : Ext h h') : own_A ty Z h' a l := by obtain ⟨c, A, r⟩ := A; exact ⟨c, A.ext E, r⟩
theorem own_Jext (A : own_J Z h a lj) (E : Ext h h') : own_J Z h' a lj := by obtain ⟨c, A, r⟩ := A; exact ⟨c, A.ext E, r⟩
theorem own_Akeep {ws : List Addr} (A : own_A ty Z h a l) (K : Keep h h' ws) (q : a ∉ ws) : own_A ty Z h' a l := by obtain ⟨c, A, r⟩ := A; exact ⟨c, ⟨K.2.1 a c A.1 q, A.2⟩, r⟩
theorem own_Jkeep {ws : List Addr} (A : own_J Z h a lj) (K : Keep h h' ws) (q : a ∉ ws) : own_J Z h' a lj := by obtain ⟨c, A, r⟩ := A; exact ⟨c, ⟨K.2.1 a c A.1 q, A.2⟩, r⟩
theorem own_nin {x y : Addr} (q : x ≠ y) : x ∉ [y] := ninS q nin0
theorem own_clamp {j : Int32} {i : Nat} (e : j.toInt = i) : j.toNatClampNeg = i := by rw [Int32.toNatClampNeg, e]; rfl
theorem own_inb {j : Int32} {i n : Nat} (e : j.toInt = i) (q : i < n) : ¬ (j < 0 ∨ n ≤ j.toNatClampNeg) := by
  rw [own_clamp e, Int32.lt_iff_toInt_lt, e]
  have : (0 : Int32).toInt = 0 := rfl
  omega
theorem own_setD {l : List Int32} {i : Nat} {x : Int32} (k : Nat) (hk : k < l.length) : (l.set i x).getD k 0 = if i = k then x else l.getD k 0 := by
  simp only [List.getD_eq_getElem?_getD, List.getElem?_set]
  split
  · subst_vars; simp [hk]
  · rfl
theorem own_setJ {l : List Int64} {i : Nat} {x : Int64} (k : Nat) (hk : k < l.length) : (l.set i x).getD k 0 = if i = k then x else l.getD k 0 := by
  simp only [List.getD_eq_getElem?_getD, List.getElem?_set]
  split
  · subst_vars; simp [hk]
  · rfl
theorem own_Aset {c : Cell} {i : Nat} {j x : Int32} (A : Arr Z h a c ty) (hs : c.slots.size = l.length) (hb : l.length < 2 ^ 31) (H : ∀ i, i < l.length → c.slots[i]? = some (.int (l.getD i 0))) (W : Wr h h' a j.toNatClampNeg (.int x)) (e : j.toInt = i) (hi : i < l.length) : own_A ty Z h' a (l.set i x) := by
  refine ⟨_, A.same W, by rw [sz_set, List.length_set]; exact hs, by rw [List.length_set]; exact hb, fun k hk => ?_⟩
  rw [List.length_set] at hk
  rw [own_setD k hk, own_clamp e]
  by_cases u : i = k
  · subst u; simp [Cell.setSlot, hs, hk]
  · rw [if_neg u, ← H k hk]
    exact Array.getElem?_setIfInBounds_ne u
theorem own_Jset {c : Cell} {i : Nat} {j : Int32} {x : Int64} (A : Arr Z h a c .long) (hs : c.slots.size = lj.length) (hb : lj.length < 2 ^ 31) (H : ∀ i, i < lj.length → c.slots[i]? = some (.long (lj.getD i 0))) (W : Wr h h' a j.toNatClampNeg (.long x)) (e : j.toInt = i) (hi : i < lj.length) : own_J Z h' a (lj.set i x) := by
  refine ⟨_, A.same W, by rw [sz_set, List.length_set]; exact hs, by rw [List.length_set]; exact hb, fun k hk => ?_⟩
  rw [List.length_set] at hk
  rw [own_setJ k hk, own_clamp e]
  by_cases u : i = k
  · subst u; simp [Cell.setSlot, hs, hk]
  · rw [if_neg u, ← H k hk]
    exact Array.getElem?_setIfInBounds_ne u
theorem own_iastore {j x : Int32} (w : own_W K B Z n0 h ck cs pc L (.int x :: .int j :: .ref a :: S)) (hd : decode B.bytes pc = .ok (.iastore, 1)) (A : own_A .int Z h a l) (i : Nat) (e : j.toInt = i) (hi : i < l.length) (ga : n0 ≤ a) {l' : List Int32} (el : l.set i x = l') :
    ∃ h', own_W K B Z n0 h' ck cs (pc + 1) L S ∧ own_A .int Z h' a l' ∧ Keep h h' [a] := by
  subst el
  obtain ⟨p, l, e', s, m, args, below, meth, c, start⟩ := K
  obtain ⟨hx, hZ, hown, hnm, hby, hml, hret, hlk, hn, T, locs, X, eT, N, pre⟩ := w
  obtain ⟨cl, Ar, hs, hb1, H⟩ := A
  obtain ⟨T', h', X', e1, W', st⟩ := stI X hx hZ eT Ar (j := j) (own_inb e (by rw [hs]; exact hi)) (g := mkF m pc L (.int x :: .int j :: .ref a :: S)) rfl rfl (hb hby hd)
  exact ⟨h', ⟨hx, hZ, hown, hnm, hby, hml, hret, hlk, by rw [W'.size]; exact hn, T', _, X', e1, Fr.snoc X' N ga, fun tg k => pre tg (st tg k)⟩, own_Aset Ar hs hb1 H W' e hi, Keep.of_wr W'⟩
theorem own_bastore {j x : Int32} (w : own_W K B Z n0 h ck cs pc L (.int x :: .int j :: .ref a :: S)) (hd : decode B.bytes pc = .ok (.bastore, 1)) (A : own_A .byte Z h a l) (i : Nat) (e : j.toInt = i) (hi : i < l.length) (ga : n0 ≤ a) {l' : List Int32} (el : l.set i (nar .byte x) = l') :
    ∃ h', own_W K B Z n0 h' ck cs (pc + 1) L S ∧ own_A .byte Z h' a l' ∧ Keep h h' [a] := by
  subst el
  obtain ⟨p, l, e', s, m, args, below, meth, c, start⟩ := K
  obtain ⟨hx, hZ, hown, hnm, hby, hml, hret, hlk, hn, T, locs, X, eT, N, pre⟩ := w
  obtain ⟨cl, Ar, hs, hb1, H⟩ := A
  obtain ⟨T', h', X', e1, W', st⟩ := stB X hx hZ eT Ar (j := j) (own_inb e (by rw [hs]; exact hi)) (g := mkF m pc L (.int x :: .int j :: .ref a :: S)) rfl rfl (hb hby hd)
  exact ⟨h', ⟨hx, hZ, hown, hnm, hby, hml, hret, hlk, by rw [W'.size]; exact hn, T', _, X', e1, Fr.snoc X' N ga, fun tg k => pre tg (st tg k)⟩, own_Aset Ar hs hb1 H W' e hi, Keep.of_wr W'⟩
theorem own_castore {j x : Int32} (w : own_W K B Z n0 h ck cs pc L (.int x :: .int j :: .ref a :: S)) (hd : decode B.bytes pc = .ok (.castore, 1)) (A : own_A .char Z h a l) (i : Nat) (e : j.toInt = i) (hi : i < l.length) (ga : n0 ≤ a) {l' : List Int32} (el : l.set i (nar .char x) = l') :
    ∃ h', own_W K B Z n0 h' ck cs (pc + 1) L S ∧ own_A .char Z h' a l' ∧ Keep h h' [a] := by
  subst el
  obtain ⟨p, l, e', s, m, args, below, meth, c, start⟩ := K
  obtain ⟨hx, hZ, hown, hnm, hby, hml, hret, hlk, hn, T, locs, X, eT, N, pre⟩ := w
  obtain ⟨cl, Ar, hs, hb1, H⟩ := A
  obtain ⟨T', h', X', e1, W', st⟩ := stC X hx hZ eT Ar (j := j) (own_inb e (by rw [hs]; exact hi)) (g := mkF m pc L (.int x :: .int j :: .ref a :: S)) rfl rfl (hb hby hd)
  exact ⟨h', ⟨hx, hZ, hown, hnm, hby, hml, hret, hlk, by rw [W'.size]; exact hn, T', _, X', e1, Fr.snoc X' N ga, fun tg k => pre tg (st tg k)⟩, own_Aset Ar hs hb1 H W' e hi, Keep.of_wr W'⟩
theorem own_lastore {j : Int32} {x : Int64} (w : own_W K B Z n0 h ck cs pc L (.long x :: .int j :: .ref a :: S)) (hd : decode B.bytes pc = .ok (.lastore, 1)) (A : own_J Z h a lj) (i : Nat) (e : j.toInt = i) (hi : i < lj.length) (ga : n0 ≤ a) {l' : List Int64} (el : lj.set i x = l') :
    ∃ h', own_W K B Z n0 h' ck cs (pc + 1) L S ∧ own_J Z h' a l' ∧ Keep h h' [a] := by
  subst el
  obtain ⟨p, l, e', s, m, args, below, meth, c, start⟩ := K
  obtain ⟨hx, hZ, hown, hnm, hby, hml, hret, hlk, hn, T, locs, X, eT, N, pre⟩ := w
  obtain ⟨cl, Ar, hs, hb1, H⟩ := A
  obtain ⟨T', h', X', e1, W', st⟩ := stJ X hx hZ eT Ar (j := j) (own_inb e (by rw [hs]; exact hi)) (g := mkF m pc L (.long x :: .int j :: .ref a :: S)) rfl rfl (hb hby hd)
  exact ⟨h', ⟨hx, hZ, hown, hnm, hby, hml, hret, hlk, by rw [W'.size]; exact hn, T', _, X', e1, Fr.snoc X' N ga, fun tg k => pre tg (st tg k)⟩, own_Jset Ar hs hb1 H W' e hi, Keep.of_wr W'⟩
theorem own_iaload {j : Int32} (w : own_W K B Z n0 h ck cs pc L (.int j :: .ref a :: S)) (hd : decode B.bytes pc = .ok (.iaload, 1)) (A : own_A .int Z h a l) (i : Nat) (e : j.toInt = i) (hi : i < l.length) {v : Int32} (ev : l.getD i 0 = v) : own_W K B Z n0 h ck cs (pc + 1) L (.int v :: S) := by
  obtain ⟨cl, Ar, hs, hb1, H⟩ := A
  exact own_step w fun X hx hZ _ hby eT tg kt => X.iaload hx (cell := cl) (j := j) (v := .int v) (by rw [eT]; exact Ar.1) (State.isArrayOf_alike hZ.alike Ar.2.1) Ar.2.2 (own_inb e (by rw [hs]; exact hi)) (by rw [own_clamp e, H i hi, ev]) (g := mkF _ pc L (.int j :: .ref a :: S)) rfl rfl (hb hby hd) tg kt
theorem own_baload {j : Int32} (w : own_W K B Z n0 h ck cs pc L (.int j :: .ref a :: S)) (hd : decode B.bytes pc = .ok (.baload, 1)) (A : own_A .byte Z h a l) (i : Nat) (e : j.toInt = i) (hi : i < l.length) {v : Int32} (ev : l.getD i 0 = v) : own_W K B Z n0 h ck cs (pc + 1) L (.int v :: S) := by
  obtain ⟨cl, Ar, hs, hb1, H⟩ := A
  exact own_step w fun X hx hZ _ hby eT tg kt => X.baloadBytes hx (cell := cl) (j := j) (v := .int v) (by rw [eT]; exact Ar.1) (State.isArrayOf_alike hZ.alike Ar.2.1) Ar.2.2 (own_inb e (by rw [hs]; exact hi)) (by rw [own_clamp e, H i hi, ev]) (g := mkF _ pc L (.int j :: .ref a :: S)) rfl rfl (hb hby hd) tg kt
theorem own_caload {j : Int32} (w : own_W K B Z n0 h ck cs pc L (.int j :: .ref a :: S)) (hd : decode B.bytes pc = .ok (.caload, 1)) (A : own_A .char Z h a l) (i : Nat) (e : j.toInt = i) (hi : i < l.length) {v : Int32} (ev : l.getD i 0 = v) : own_W K B Z n0 h ck cs (pc + 1) L (.int v :: S) := by
  obtain ⟨cl, Ar, hs, hb1, H⟩ := A
  exact own_step w fun X hx hZ _ hby eT tg kt => X.caload hx (cell := cl) (j := j) (v := .int v) (by rw [eT]; exact Ar.1) (State.isArrayOf_alike hZ.alike Ar.2.1) Ar.2.2 (own_inb e (by rw [hs]; exact hi)) (by rw [own_clamp e, H i hi, ev]) (g := mkF _ pc L (.int j :: .ref a :: S)) rfl rfl (hb hby hd) tg kt
theorem own_laload {j : Int32} (w : own_W K B Z n0 h ck cs pc L (.int j :: .ref a :: S)) (hd : decode B.bytes pc = .ok (.laload, 1)) (A : own_J Z h a lj) (i : Nat) (e : j.toInt = i) (hi : i < lj.length) {v : Int64} (ev : lj.getD i 0 = v) : own_W K B Z n0 h ck cs (pc + 1) L (.long v :: S) := by
  obtain ⟨cl, Ar, hs, hb1, H⟩ := A
  exact own_step w fun X hx hZ _ hby eT tg kt => X.laload hx (cell := cl) (j := j) (v := .long v) (by rw [eT]; exact Ar.1) (State.isArrayOf_alike hZ.alike Ar.2.1) Ar.2.2 (own_inb e (by rw [hs]; exact hi)) (by rw [own_clamp e, H i hi, ev]) (g := mkF _ pc L (.int j :: .ref a :: S)) rfl rfl (hb hby hd) tg kt
theorem own_alen (w : own_W K B Z n0 h ck cs pc L (.ref a :: S)) (hd : decode B.bytes pc = .ok (.arraylength, 1)) (A : own_A ty Z h a l) : own_W K B Z n0 h ck cs (pc + 1) L (.int l.length.toInt32 :: S) := by
  obtain ⟨cl, Ar, hs, hb1, H⟩ := A
  exact own_step w fun X hx hZ _ hby eT tg kt => X.arraylength hx (cell := cl) (by rw [eT]; exact Ar.1) (State.isArrayOf_alike hZ.alike Ar.2.1) (g := mkF _ pc L (.ref a :: S)) rfl rfl (hb hby hd) tg (by rw [hs]; exact kt)
theorem own_alenJ (w : own_W K B Z n0 h ck cs pc L (.ref a :: S)) (hd : decode B.bytes pc = .ok (.arraylength, 1)) (A : own_J Z h a lj) : own_W K B Z n0 h ck cs (pc + 1) L (.int lj.length.toInt32 :: S) := by
  obtain ⟨cl, Ar, hs, hb1, H⟩ := A
  exact own_step w fun X hx hZ _ hby eT tg kt => X.arraylength hx (cell := cl) (by rw [eT]; exact Ar.1) (State.isArrayOf_alike hZ.alike Ar.2.1) (g := mkF _ pc L (.ref a :: S)) rfl rfl (hb hby hd) tg (by rw [hs]; exact kt)
theorem own_newP {aty : ArrayType} {n : Int32} (w : own_W K B Z n0 h ck cs pc L (.int n :: S)) (hd : decode B.bytes pc = .ok (.newarray aty, 2)) (wa : (Jvm.Cond.arrayClass (newarray.typeOf aty)).before a0 Z = true) (k cap : Nat) (e : n.toInt = k) (hk : k ≤ cap) (hcap : cap < 1000) (hc : ck + 1 ≤ B.rm.cells) (hs : cs + cap ≤ B.rm.slots) :
    ∃ h' a cA, own_W K B Z n0 h' (ck + 1) (cs + cap) (pc + 2) L (.ref a :: S) ∧ a = h.size ∧ n0 ≤ a ∧ Ext h h' ∧ Arr Z h' a (newA cA (newarray.typeOf aty) n) (newarray.typeOf aty) := by
  obtain ⟨p, l, e', s, m, args, below, meth, c, start⟩ := K
  obtain ⟨hx, hZ, hown, hnm, hby, hml, hret, hlk, hn, T, locs, X, eT, N, pre⟩ := w
  have q1 : n.toNatClampNeg = k := own_clamp e
  have q2 : ¬ n < 0 := by
    rw [Int32.lt_iff_toInt_lt, e]
    have : (0 : Int32).toInt = 0 := rfl
    omega
  obtain ⟨T', h', cA, X', e1, E, A, st⟩ := newP X hx hZ wa eT (g := mkF m pc L (.int n :: S)) rfl (hb hby hd) rfl q2 (cap := cap) (by rw [q1]; exact hk) (by omega) hc hs
  exact ⟨h', h.size, cA, ⟨hx, hZ, hown, hnm, hby, hml, hret, hlk, Nat.le_trans hn E.1, T', _, X', e1, N, fun tg k => pre tg (st tg k)⟩, rfl, hn, E, A⟩
theorem own_newI {aty : ArrayType} {n : Int32} (w : own_W K B Z n0 h ck cs pc L (.int n :: S)) (hd : decode B.bytes pc = .ok (.newarray aty, 2)) (wa : (Jvm.Cond.arrayClass (newarray.typeOf aty)).before a0 Z = true) (hdf : defaultValue (newarray.typeOf aty) = .int 0) (k cap : Nat) (e : n.toInt = k) (hk : k ≤ cap) (hcap : cap < 1000) (hc : ck + 1 ≤ B.rm.cells) (hs : cs + cap ≤ B.rm.slots) {l' : List Int32} (el : List.replicate k 0 = l') :
    ∃ h' a, own_W K B Z n0 h' (ck + 1) (cs + cap) (pc + 2) L (.ref a :: S) ∧ a = h.size ∧ n0 ≤ a ∧ Ext h h' ∧ own_A (newarray.typeOf aty) Z h' a l' := by
  subst el
  obtain ⟨h', a, cA, w', e1, g, E, A⟩ := own_newP w hd wa k cap e hk hcap hc hs
  have q1 : n.toNatClampNeg = k := own_clamp e
  refine ⟨h', a, w', e1, g, E, _, A, by rw [sz_new, q1, List.length_replicate], by rw [List.length_replicate]; omega, fun i hi => ?_⟩
  rw [List.length_replicate] at hi
  simp [newA, q1, hi, hdf, List.getD_eq_getElem?_getD]
theorem own_newJ {n : Int32} (w : own_W K B Z n0 h ck cs pc L (.int n :: S)) (hd : decode B.bytes pc = .ok (.newarray .long, 2)) (wa : (Jvm.Cond.arrayClass .long).before a0 Z = true) (k cap : Nat) (e : n.toInt = k) (hk : k ≤ cap) (hcap : cap < 1000) (hc : ck + 1 ≤ B.rm.cells) (hs : cs + cap ≤ B.rm.slots) {l' : List Int64} (el : List.replicate k 0 = l') :
    ∃ h' a, own_W K B Z n0 h' (ck + 1) (cs + cap) (pc + 2) L (.ref a :: S) ∧ a = h.size ∧ n0 ≤ a ∧ Ext h h' ∧ own_J Z h' a l' := by
  subst el
  obtain ⟨h', a, cA, w', e1, g, E, A⟩ := own_newP w hd wa k cap e hk hcap hc hs
  have q1 : n.toNatClampNeg = k := own_clamp e
  refine ⟨h', a, w', e1, g, E, _, A, by rw [sz_new, q1, List.length_replicate], by rw [List.length_replicate]; omega, fun i hi => ?_⟩
  rw [List.length_replicate] at hi
  have hdf : defaultValue (newarray.typeOf .long) = .long 0 := rfl
  simp [newA, q1, hi, hdf, List.getD_eq_getElem?_getD]
end Own
theorem own_n1 : nar .boolean 1 = 1 := by decide
theorem own_n0 : nar .boolean 0 = 0 := by decide
theorem d1_0 : decode prog_163_method_15_code 0 = .ok (.iload_n 0, 1) := by decide +kernel
theorem d1_1 : decode prog_163_method_15_code 1 = .ok (.bipush 32, 2) := by decide +kernel
theorem d1_3 : decode prog_163_method_15_code 3 = .ok (.if_icmp .eq 33, 3) := by decide +kernel
theorem d1_6 : decode prog_163_method_15_code 6 = .ok (.iload_n 0, 1) := by decide +kernel
theorem d1_7 : decode prog_163_method_15_code 7 = .ok (.bipush 9, 2) := by decide +kernel
theorem d1_9 : decode prog_163_method_15_code 9 = .ok (.if_icmp .eq 27, 3) := by decide +kernel
theorem d1_12 : decode prog_163_method_15_code 12 = .ok (.iload_n 0, 1) := by decide +kernel
theorem d1_13 : decode prog_163_method_15_code 13 = .ok (.bipush 10, 2) := by decide +kernel
theorem d1_15 : decode prog_163_method_15_code 15 = .ok (.if_icmp .eq 21, 3) := by decide +kernel
theorem d1_18 : decode prog_163_method_15_code 18 = .ok (.iload_n 0, 1) := by decide +kernel
theorem d1_19 : decode prog_163_method_15_code 19 = .ok (.bipush 13, 2) := by decide +kernel
theorem d1_21 : decode prog_163_method_15_code 21 = .ok (.if_icmp .eq 15, 3) := by decide +kernel
theorem d1_24 : decode prog_163_method_15_code 24 = .ok (.iload_n 0, 1) := by decide +kernel
theorem d1_25 : decode prog_163_method_15_code 25 = .ok (.bipush 12, 2) := by decide +kernel
theorem d1_27 : decode prog_163_method_15_code 27 = .ok (.if_icmp .eq 9, 3) := by decide +kernel
theorem d1_30 : decode prog_163_method_15_code 30 = .ok (.iload_n 0, 1) := by decide +kernel
theorem d1_31 : decode prog_163_method_15_code 31 = .ok (.bipush 11, 2) := by decide +kernel
theorem d1_33 : decode prog_163_method_15_code 33 = .ok (.if_icmp .ne 7, 3) := by decide +kernel
theorem d1_36 : decode prog_163_method_15_code 36 = .ok (.iconst 1, 1) := by decide +kernel
theorem d1_37 : decode prog_163_method_15_code 37 = .ok (.goto 4, 3) := by decide +kernel
theorem d1_40 : decode prog_163_method_15_code 40 = .ok (.iconst 0, 1) := by decide +kernel
theorem d1_41 : decode prog_163_method_15_code 41 = .ok (.ireturn, 1) := by decide +kernel
abbrev b1 : OwnB := (⟨"com/example/ascanius/ascanius/sql/Lexer", "isBlank", "(C)Z"⟩, prog_163_method_15_code, 1, (some .boolean), ({ frames := 0, cells := 0, slots := 0, locals := 0 } : Room))
theorem pn_1 : plainName "com/example/ascanius/ascanius/sql/Lexer" = true := by first | (simp [plainName, overriddenIn]; done) | decide +kernel
theorem pd_1 : parseMethodDescriptor "(C)Z" = some ⟨[.char], (some .boolean)⟩ := by decide +kernel
theorem ef_1 (p0 : Int32) (m : MethodId) : entryFrame m #[(.int p0)] 1 = mkF m 0 #[.val (.int p0)] [] := by first | (simp [entryFrame, mkF, argsToLocals, Value.category, maxLocals]; done) | rfl
def g1_36 (i0 : Int) : Int32 := 1
theorem n1_36 {K : OwnK} {Z : State} {n0 : Nat} {h : Heap} {a0 : Array Value} (hw : ∀ d ∈ tables_1, d.before a0 Z = true) (p0 : Int32) (w : own_W K b1 Z n0 h 0 0 36 #[.val (.int p0)] []) : own_G K n0 0 0 (fun v h' => v = some (.int (g1_36 p0.toInt)) ∧ h = h') := by
  replace w : own_W K b1 Z n0 h 0 0 37 #[.val (.int p0)] [(.int (1 : Int32))] := own_iconst w d1_36 rfl
  replace w : own_W K b1 Z n0 h 0 0 41 #[.val (.int p0)] [(.int (1 : Int32))] := own_goto w d1_37 (by decide) (by decide)
  exact own_retZ w d1_41 rfl (Or.inl rfl) ⟨congrArg (fun z => some (Value.int z)) own_n1, rfl⟩ (Nat.le_refl _) (Nat.le_refl _)
def g1_40 (i0 : Int) : Int32 := 0
theorem n1_40 {K : OwnK} {Z : State} {n0 : Nat} {h : Heap} {a0 : Array Value} (hw : ∀ d ∈ tables_1, d.before a0 Z = true) (p0 : Int32) (w : own_W K b1 Z n0 h 0 0 40 #[.val (.int p0)] []) : own_G K n0 0 0 (fun v h' => v = some (.int (g1_40 p0.toInt)) ∧ h = h') := by
  replace w : own_W K b1 Z n0 h 0 0 41 #[.val (.int p0)] [(.int (0 : Int32))] := own_iconst w d1_40 rfl
  exact own_retZ w d1_41 rfl (Or.inl rfl) ⟨congrArg (fun z => some (Value.int z)) own_n0, rfl⟩ (Nat.le_refl _) (Nat.le_refl _)
def g1_30 (i0 : Int) : Int32 := if i0 = 11 then g1_36 i0 else g1_40 i0
theorem n1_30 {K : OwnK} {Z : State} {n0 : Nat} {h : Heap} {a0 : Array Value} (hw : ∀ d ∈ tables_1, d.before a0 Z = true) (p0 : Int32) (w : own_W K b1 Z n0 h 0 0 30 #[.val (.int p0)] []) : own_G K n0 0 0 (fun v h' => v = some (.int (g1_30 p0.toInt)) ∧ h = h') := by
  replace w : own_W K b1 Z n0 h 0 0 31 #[.val (.int p0)] [(.int p0)] := own_iloadN w d1_30 rfl
  replace w : own_W K b1 Z n0 h 0 0 33 #[.val (.int p0)] [(.int (11 : Int32)), (.int p0)] := own_bipush w d1_31 rfl
  by_cases hc : p0.toInt = 11
  · rw [show g1_30 p0.toInt = g1_36 p0.toInt from if_pos hc]
    exact n1_36 hw p0 (own_icmpN w d1_33 rfl (by decide) hc)
  · rw [show g1_30 p0.toInt = g1_40 p0.toInt from if_neg hc]
    exact n1_40 hw p0 (own_icmpY w d1_33 rfl (by decide) hc (by decide) (by decide))
def g1_24 (i0 : Int) : Int32 := if i0 = 12 then g1_36 i0 else g1_30 i0
theorem n1_24 {K : OwnK} {Z : State} {n0 : Nat} {h : Heap} {a0 : Array Value} (hw : ∀ d ∈ tables_1, d.before a0 Z = true) (p0 : Int32) (w : own_W K b1 Z n0 h 0 0 24 #[.val (.int p0)] []) : own_G K n0 0 0 (fun v h' => v = some (.int (g1_24 p0.toInt)) ∧ h = h') := by
  replace w : own_W K b1 Z n0 h 0 0 25 #[.val (.int p0)] [(.int p0)] := own_iloadN w d1_24 rfl
  replace w : own_W K b1 Z n0 h 0 0 27 #[.val (.int p0)] [(.int (12 : Int32)), (.int p0)] := own_bipush w d1_25 rfl
  by_cases hc : p0.toInt = 12
  · rw [show g1_24 p0.toInt = g1_36 p0.toInt from if_pos hc]
    exact n1_36 hw p0 (own_icmpY w d1_27 rfl (by decide) hc (by decide) (by decide))
  · rw [show g1_24 p0.toInt = g1_30 p0.toInt from if_neg hc]
    exact n1_30 hw p0 (own_icmpN w d1_27 rfl (by decide) hc)
def g1_18 (i0 : Int) : Int32 := if i0 = 13 then g1_36 i0 else g1_24 i0
theorem n1_18 {K : OwnK} {Z : State} {n0 : Nat} {h : Heap} {a0 : Array Value} (hw : ∀ d ∈ tables_1, d.before a0 Z = true) (p0 : Int32) (w : own_W K b1 Z n0 h 0 0 18 #[.val (.int p0)] []) : own_G K n0 0 0 (fun v h' => v = some (.int (g1_18 p0.toInt)) ∧ h = h') := by
  replace w : own_W K b1 Z n0 h 0 0 19 #[.val (.int p0)] [(.int p0)] := own_iloadN w d1_18 rfl
  replace w : own_W K b1 Z n0 h 0 0 21 #[.val (.int p0)] [(.int (13 : Int32)), (.int p0)] := own_bipush w d1_19 rfl
  by_cases hc : p0.toInt = 13
  · rw [show g1_18 p0.toInt = g1_36 p0.toInt from if_pos hc]
    exact n1_36 hw p0 (own_icmpY w d1_21 rfl (by decide) hc (by decide) (by decide))
  · rw [show g1_18 p0.toInt = g1_24 p0.toInt from if_neg hc]
    exact n1_24 hw p0 (own_icmpN w d1_21 rfl (by decide) hc)
def g1_12 (i0 : Int) : Int32 := if i0 = 10 then g1_36 i0 else g1_18 i0
theorem n1_12 {K : OwnK} {Z : State} {n0 : Nat} {h : Heap} {a0 : Array Value} (hw : ∀ d ∈ tables_1, d.before a0 Z = true) (p0 : Int32) (w : own_W K b1 Z n0 h 0 0 12 #[.val (.int p0)] []) : own_G K n0 0 0 (fun v h' => v = some (.int (g1_12 p0.toInt)) ∧ h = h') := by
  replace w : own_W K b1 Z n0 h 0 0 13 #[.val (.int p0)] [(.int p0)] := own_iloadN w d1_12 rfl
  replace w : own_W K b1 Z n0 h 0 0 15 #[.val (.int p0)] [(.int (10 : Int32)), (.int p0)] := own_bipush w d1_13 rfl
  by_cases hc : p0.toInt = 10
  · rw [show g1_12 p0.toInt = g1_36 p0.toInt from if_pos hc]
    exact n1_36 hw p0 (own_icmpY w d1_15 rfl (by decide) hc (by decide) (by decide))
  · rw [show g1_12 p0.toInt = g1_18 p0.toInt from if_neg hc]
    exact n1_18 hw p0 (own_icmpN w d1_15 rfl (by decide) hc)
def g1_6 (i0 : Int) : Int32 := if i0 = 9 then g1_36 i0 else g1_12 i0
theorem n1_6 {K : OwnK} {Z : State} {n0 : Nat} {h : Heap} {a0 : Array Value} (hw : ∀ d ∈ tables_1, d.before a0 Z = true) (p0 : Int32) (w : own_W K b1 Z n0 h 0 0 6 #[.val (.int p0)] []) : own_G K n0 0 0 (fun v h' => v = some (.int (g1_6 p0.toInt)) ∧ h = h') := by
  replace w : own_W K b1 Z n0 h 0 0 7 #[.val (.int p0)] [(.int p0)] := own_iloadN w d1_6 rfl
  replace w : own_W K b1 Z n0 h 0 0 9 #[.val (.int p0)] [(.int (9 : Int32)), (.int p0)] := own_bipush w d1_7 rfl
  by_cases hc : p0.toInt = 9
  · rw [show g1_6 p0.toInt = g1_36 p0.toInt from if_pos hc]
    exact n1_36 hw p0 (own_icmpY w d1_9 rfl (by decide) hc (by decide) (by decide))
  · rw [show g1_6 p0.toInt = g1_12 p0.toInt from if_neg hc]
    exact n1_12 hw p0 (own_icmpN w d1_9 rfl (by decide) hc)
def g1_0 (i0 : Int) : Int32 := if i0 = 32 then g1_36 i0 else g1_6 i0
theorem n1_0 {K : OwnK} {Z : State} {n0 : Nat} {h : Heap} {a0 : Array Value} (hw : ∀ d ∈ tables_1, d.before a0 Z = true) (p0 : Int32) (w : own_W K b1 Z n0 h 0 0 0 #[.val (.int p0)] []) : own_G K n0 0 0 (fun v h' => v = some (.int (g1_0 p0.toInt)) ∧ h = h') := by
  replace w : own_W K b1 Z n0 h 0 0 1 #[.val (.int p0)] [(.int p0)] := own_iloadN w d1_0 rfl
  replace w : own_W K b1 Z n0 h 0 0 3 #[.val (.int p0)] [(.int (32 : Int32)), (.int p0)] := own_bipush w d1_1 rfl
  by_cases hc : p0.toInt = 32
  · rw [show g1_0 p0.toInt = g1_36 p0.toInt from if_pos hc]
    exact n1_36 hw p0 (own_icmpY w d1_3 rfl (by decide) hc (by decide) (by decide))
  · rw [show g1_0 p0.toInt = g1_6 p0.toInt from if_neg hc]
    exact n1_6 hw p0 (own_icmpN w d1_3 rfl (by decide) hc)
theorem rm1 {Z : State} {n0 : Nat} {h : Heap} {a0 : Array Value} (hw : ∀ d ∈ tables_1, d.before a0 Z = true) (p0 : Int32) (hn : n0 ≤ h.size) : ∀ l, own_M l Z n0 b1 #[(.int p0)] h (fun v h' => v = some (.int (g1_0 p0.toInt)) ∧ h = h') :=
  fun l => own_enter hn pn_1 (ef_1 p0) (fun K w => n1_0 hw p0 w)
theorem d2_0 : decode method_2_code 0 = .ok (.iload_n 0, 1) := by decide +kernel
theorem d2_1 : decode method_2_code 1 = .ok (.bipush 32, 2) := by decide +kernel
theorem d2_3 : decode method_2_code 3 = .ok (.if_icmp .ne 5, 3) := by decide +kernel
theorem d2_6 : decode method_2_code 6 = .ok (.iconst 1, 1) := by decide +kernel
theorem d2_7 : decode method_2_code 7 = .ok (.ireturn, 1) := by decide +kernel
theorem d2_8 : decode method_2_code 8 = .ok (.iload_n 0, 1) := by decide +kernel
theorem d2_9 : decode method_2_code 9 = .ok (.bipush 9, 2) := by decide +kernel
theorem d2_11 : decode method_2_code 11 = .ok (.if_icmp .lt 13, 3) := by decide +kernel
theorem d2_14 : decode method_2_code 14 = .ok (.iload_n 0, 1) := by decide +kernel
theorem d2_15 : decode method_2_code 15 = .ok (.bipush 13, 2) := by decide +kernel
theorem d2_17 : decode method_2_code 17 = .ok (.if_icmp .gt 7, 3) := by decide +kernel
theorem d2_20 : decode method_2_code 20 = .ok (.iconst 1, 1) := by decide +kernel
theorem d2_21 : decode method_2_code 21 = .ok (.goto 4, 3) := by decide +kernel
theorem d2_24 : decode method_2_code 24 = .ok (.iconst 0, 1) := by decide +kernel
theorem d2_25 : decode method_2_code 25 = .ok (.ireturn, 1) := by decide +kernel
abbrev b2 : OwnB := (⟨"com/example/ascanius/ascanius/sql/LexerIsBlankPinLaw", "expected", "(C)Z"⟩, method_2_code, 1, (some .boolean), ({ frames := 0, cells := 0, slots := 0, locals := 0 } : Room))
theorem pn_2 : plainName "com/example/ascanius/ascanius/sql/LexerIsBlankPinLaw" = true := by first | (simp [plainName, overriddenIn]; done) | decide +kernel
theorem pd_2 : parseMethodDescriptor "(C)Z" = some ⟨[.char], (some .boolean)⟩ := by decide +kernel
theorem ef_2 (p0 : Int32) (m : MethodId) : entryFrame m #[(.int p0)] 1 = mkF m 0 #[.val (.int p0)] [] := by first | (simp [entryFrame, mkF, argsToLocals, Value.category, maxLocals]; done) | rfl
def g2_24 (i0 : Int) : Int32 := 0
theorem n2_24 {K : OwnK} {Z : State} {n0 : Nat} {h : Heap} {a0 : Array Value} (hw : ∀ d ∈ tables_1, d.before a0 Z = true) (p0 : Int32) (w : own_W K b2 Z n0 h 0 0 24 #[.val (.int p0)] []) : own_G K n0 0 0 (fun v h' => v = some (.int (g2_24 p0.toInt)) ∧ h = h') := by
  replace w : own_W K b2 Z n0 h 0 0 25 #[.val (.int p0)] [(.int (0 : Int32))] := own_iconst w d2_24 rfl
  exact own_retZ w d2_25 rfl (Or.inl rfl) ⟨congrArg (fun z => some (Value.int z)) own_n0, rfl⟩ (Nat.le_refl _) (Nat.le_refl _)
def g2_20 (i0 : Int) : Int32 := 1
theorem n2_20 {K : OwnK} {Z : State} {n0 : Nat} {h : Heap} {a0 : Array Value} (hw : ∀ d ∈ tables_1, d.before a0 Z = true) (p0 : Int32) (w : own_W K b2 Z n0 h 0 0 20 #[.val (.int p0)] []) : own_G K n0 0 0 (fun v h' => v = some (.int (g2_20 p0.toInt)) ∧ h = h') := by
  replace w : own_W K b2 Z n0 h 0 0 21 #[.val (.int p0)] [(.int (1 : Int32))] := own_iconst w d2_20 rfl
  replace w : own_W K b2 Z n0 h 0 0 25 #[.val (.int p0)] [(.int (1 : Int32))] := own_goto w d2_21 (by decide) (by decide)
  exact own_retZ w d2_25 rfl (Or.inl rfl) ⟨congrArg (fun z => some (Value.int z)) own_n1, rfl⟩ (Nat.le_refl _) (Nat.le_refl _)
def g2_14 (i0 : Int) : Int32 := if 13 < i0 then g2_24 i0 else g2_20 i0
theorem n2_14 {K : OwnK} {Z : State} {n0 : Nat} {h : Heap} {a0 : Array Value} (hw : ∀ d ∈ tables_1, d.before a0 Z = true) (p0 : Int32) (w : own_W K b2 Z n0 h 0 0 14 #[.val (.int p0)] []) : own_G K n0 0 0 (fun v h' => v = some (.int (g2_14 p0.toInt)) ∧ h = h') := by
  replace w : own_W K b2 Z n0 h 0 0 15 #[.val (.int p0)] [(.int p0)] := own_iloadN w d2_14 rfl
  replace w : own_W K b2 Z n0 h 0 0 17 #[.val (.int p0)] [(.int (13 : Int32)), (.int p0)] := own_bipush w d2_15 rfl
  by_cases hc : 13 < p0.toInt
  · rw [show g2_14 p0.toInt = g2_24 p0.toInt from if_pos hc]
    exact n2_24 hw p0 (own_icmpY w d2_17 rfl (by decide) hc (by decide) (by decide))
  · rw [show g2_14 p0.toInt = g2_20 p0.toInt from if_neg hc]
    exact n2_20 hw p0 (own_icmpN w d2_17 rfl (by decide) hc)
def g2_8 (i0 : Int) : Int32 := if i0 < 9 then g2_24 i0 else g2_14 i0
theorem n2_8 {K : OwnK} {Z : State} {n0 : Nat} {h : Heap} {a0 : Array Value} (hw : ∀ d ∈ tables_1, d.before a0 Z = true) (p0 : Int32) (w : own_W K b2 Z n0 h 0 0 8 #[.val (.int p0)] []) : own_G K n0 0 0 (fun v h' => v = some (.int (g2_8 p0.toInt)) ∧ h = h') := by
  replace w : own_W K b2 Z n0 h 0 0 9 #[.val (.int p0)] [(.int p0)] := own_iloadN w d2_8 rfl
  replace w : own_W K b2 Z n0 h 0 0 11 #[.val (.int p0)] [(.int (9 : Int32)), (.int p0)] := own_bipush w d2_9 rfl
  by_cases hc : p0.toInt < 9
  · rw [show g2_8 p0.toInt = g2_24 p0.toInt from if_pos hc]
    exact n2_24 hw p0 (own_icmpY w d2_11 rfl (by decide) hc (by decide) (by decide))
  · rw [show g2_8 p0.toInt = g2_14 p0.toInt from if_neg hc]
    exact n2_14 hw p0 (own_icmpN w d2_11 rfl (by decide) hc)
def g2_6 (i0 : Int) : Int32 := 1
theorem n2_6 {K : OwnK} {Z : State} {n0 : Nat} {h : Heap} {a0 : Array Value} (hw : ∀ d ∈ tables_1, d.before a0 Z = true) (p0 : Int32) (w : own_W K b2 Z n0 h 0 0 6 #[.val (.int p0)] []) : own_G K n0 0 0 (fun v h' => v = some (.int (g2_6 p0.toInt)) ∧ h = h') := by
  replace w : own_W K b2 Z n0 h 0 0 7 #[.val (.int p0)] [(.int (1 : Int32))] := own_iconst w d2_6 rfl
  exact own_retZ w d2_7 rfl (Or.inl rfl) ⟨congrArg (fun z => some (Value.int z)) own_n1, rfl⟩ (Nat.le_refl _) (Nat.le_refl _)
def g2_0 (i0 : Int) : Int32 := if i0 = 32 then g2_6 i0 else g2_8 i0
theorem n2_0 {K : OwnK} {Z : State} {n0 : Nat} {h : Heap} {a0 : Array Value} (hw : ∀ d ∈ tables_1, d.before a0 Z = true) (p0 : Int32) (w : own_W K b2 Z n0 h 0 0 0 #[.val (.int p0)] []) : own_G K n0 0 0 (fun v h' => v = some (.int (g2_0 p0.toInt)) ∧ h = h') := by
  replace w : own_W K b2 Z n0 h 0 0 1 #[.val (.int p0)] [(.int p0)] := own_iloadN w d2_0 rfl
  replace w : own_W K b2 Z n0 h 0 0 3 #[.val (.int p0)] [(.int (32 : Int32)), (.int p0)] := own_bipush w d2_1 rfl
  by_cases hc : p0.toInt = 32
  · rw [show g2_0 p0.toInt = g2_6 p0.toInt from if_pos hc]
    exact n2_6 hw p0 (own_icmpN w d2_3 rfl (by decide) hc)
  · rw [show g2_0 p0.toInt = g2_8 p0.toInt from if_neg hc]
    exact n2_8 hw p0 (own_icmpY w d2_3 rfl (by decide) hc (by decide) (by decide))
theorem rm2 {Z : State} {n0 : Nat} {h : Heap} {a0 : Array Value} (hw : ∀ d ∈ tables_1, d.before a0 Z = true) (p0 : Int32) (hn : n0 ≤ h.size) : ∀ l, own_M l Z n0 b2 #[(.int p0)] h (fun v h' => v = some (.int (g2_0 p0.toInt)) ∧ h = h') :=
  fun l => own_enter hn pn_2 (ef_2 p0) (fun K w => n2_0 hw p0 w)
theorem own_law (i : Int) : g1_0 i = g2_0 i := by
  simp only [g1_36, g1_40, g1_30, g1_24, g1_18, g1_12, g1_6, g1_0, g2_24, g2_20, g2_14, g2_8, g2_6, g2_0]
  repeat' split
  all_goals first | rfl | omega
abbrev b0 : OwnB := (x, code, maxLocals, ret, room_1)
theorem pn_0 : plainName "com/example/ascanius/ascanius/sql/LexerIsBlankPinLaw" = true := by first | (simp [plainName, overriddenIn]; done) | decide +kernel
theorem pd_0 : parseMethodDescriptor "(II)Z" = some ⟨[.int, .int], (some .boolean)⟩ := by decide +kernel
theorem ef_0 (p0 : Int32) (p1 : Int32) (m : MethodId) : entryFrame m #[(.int p0), (.int p1)] maxLocals = mkF m 0 #[.val (.int p0), .val (.int p1), .unset, .unset, .unset, .unset] [] := by first | (simp [entryFrame, mkF, argsToLocals, Value.category, maxLocals]; done) | rfl
set_option maxRecDepth 65536 in
set_option maxHeartbeats 40000000 in
theorem own_law0 {K : OwnK} {Z : State} {n0 : Nat} {h : Heap} {a0 : Array Value} (hw : ∀ d ∈ tables_1, d.before a0 Z = true) (p0 : Int32) (p1 : Int32) (w : own_W K b0 Z n0 h 0 0 0 #[.val (.int p0), .val (.int p1), .unset, .unset, .unset, .unset] []) : own_G K n0 b0.rm.cells b0.rm.slots (fun v _ => v = some (.int 1)) := by
  have hn := own_size w
  replace w : own_W K b0 Z n0 h 0 0 1 #[.val (.int p0), .val (.int p1), .unset, .unset, .unset, .unset] [(.int p0)] := own_iloadN w at_0 rfl
  replace w : own_W K b0 Z n0 h 0 0 2 #[.val (.int p0), .val (.int p1), .unset, .unset, .unset, .unset] [(.int (p0).toUInt32.toUInt16.toUInt32.toInt32)] := own_i2c w at_1
  replace w : own_W K b0 Z n0 h 0 0 3 #[.val (.int p0), .val (.int p1), .val (.int (p0).toUInt32.toUInt16.toUInt32.toInt32), .unset, .unset, .unset] [] := own_istoreN w at_2 rfl
  replace w : own_W K b0 Z n0 h 0 0 4 #[.val (.int p0), .val (.int p1), .val (.int (p0).toUInt32.toUInt16.toUInt32.toInt32), .unset, .unset, .unset] [(.int p1)] := own_iloadN w at_3 rfl
  replace w : own_W K b0 Z n0 h 0 0 6 #[.val (.int p0), .val (.int p1), .val (.int (p0).toUInt32.toUInt16.toUInt32.toInt32), .unset, .unset, .unset] [(.int (63 : Int32)), (.int p1)] := own_bipush w at_4 rfl
  replace w : own_W K b0 Z n0 h 0 0 7 #[.val (.int p0), .val (.int p1), .val (.int (p0).toUInt32.toUInt16.toUInt32.toInt32), .unset, .unset, .unset] [(.int (p1 &&& (63 : Int32)))] := own_iand w at_6
  replace w : own_W K b0 Z n0 h 0 0 8 #[.val (.int p0), .val (.int p1), .val (.int (p0).toUInt32.toUInt16.toUInt32.toInt32), .unset, .unset, .unset] [(.int ((p1 &&& (63 : Int32))).toUInt32.toUInt16.toUInt32.toInt32)] := own_i2c w at_7
  replace w : own_W K b0 Z n0 h 0 0 9 #[.val (.int p0), .val (.int p1), .val (.int (p0).toUInt32.toUInt16.toUInt32.toInt32), .val (.int ((p1 &&& (63 : Int32))).toUInt32.toUInt16.toUInt32.toInt32), .unset, .unset] [] := own_istoreN w at_8 rfl
  replace w : own_W K b0 Z n0 h 0 0 10 #[.val (.int p0), .val (.int p1), .val (.int (p0).toUInt32.toUInt16.toUInt32.toInt32), .val (.int ((p1 &&& (63 : Int32))).toUInt32.toUInt16.toUInt32.toInt32), .unset, .unset] [(.int (p0).toUInt32.toUInt16.toUInt32.toInt32)] := own_iloadN w at_9 rfl
  obtain ⟨_, _, ⟨rfl, rfl⟩, w⟩ := own_callS (By := b1) [(.int (p0).toUInt32.toUInt16.toUInt32.toInt32)] w rfl at_10 (hw _ (List.mem_of_getElem? (i := 0) rfl)) (hw _ (List.mem_of_getElem? (i := 1) rfl)) (hw _ (List.mem_of_getElem? (i := 2) rfl)) (hw _ (List.mem_of_getElem? (i := 3) rfl)) (rm1 hw ((p0).toUInt32.toUInt16.toUInt32.toInt32) hn) (by decide) pd_1 rfl rfl (by decide) (Nat.le_of_ble_eq_true rfl) (by decide) (by decide)
  replace w : own_W K b0 Z n0 h 0 0 13 #[.val (.int p0), .val (.int p1), .val (.int (p0).toUInt32.toUInt16.toUInt32.toInt32), .val (.int ((p1 &&& (63 : Int32))).toUInt32.toUInt16.toUInt32.toInt32), .unset, .unset] [(.int (g1_0 ((p0).toUInt32.toUInt16.toUInt32.toInt32).toInt))] := w
  replace w : own_W K b0 Z n0 h 0 0 14 #[.val (.int p0), .val (.int p1), .val (.int (p0).toUInt32.toUInt16.toUInt32.toInt32), .val (.int ((p1 &&& (63 : Int32))).toUInt32.toUInt16.toUInt32.toInt32), .unset, .unset] [(.int (p0).toUInt32.toUInt16.toUInt32.toInt32), (.int (g1_0 ((p0).toUInt32.toUInt16.toUInt32.toInt32).toInt))] := own_iloadN w at_13 rfl
  obtain ⟨_, _, ⟨rfl, rfl⟩, w⟩ := own_callS (By := b2) [(.int (p0).toUInt32.toUInt16.toUInt32.toInt32)] w rfl at_14 (hw _ (List.mem_of_getElem? (i := 4) rfl)) (hw _ (List.mem_of_getElem? (i := 5) rfl)) (hw _ (List.mem_of_getElem? (i := 6) rfl)) (hw _ (List.mem_of_getElem? (i := 7) rfl)) (rm2 hw ((p0).toUInt32.toUInt16.toUInt32.toInt32) hn) (by decide) pd_2 rfl rfl (by decide) (Nat.le_of_ble_eq_true rfl) (by decide) (by decide)
  replace w : own_W K b0 Z n0 h 0 0 17 #[.val (.int p0), .val (.int p1), .val (.int (p0).toUInt32.toUInt16.toUInt32.toInt32), .val (.int ((p1 &&& (63 : Int32))).toUInt32.toUInt16.toUInt32.toInt32), .unset, .unset] [(.int (g2_0 ((p0).toUInt32.toUInt16.toUInt32.toInt32).toInt)), (.int (g1_0 ((p0).toUInt32.toUInt16.toUInt32.toInt32).toInt))] := w
  replace w : own_W K b0 Z n0 h 0 0 20 #[.val (.int p0), .val (.int p1), .val (.int (p0).toUInt32.toUInt16.toUInt32.toInt32), .val (.int ((p1 &&& (63 : Int32))).toUInt32.toUInt16.toUInt32.toInt32), .unset, .unset] [] := own_icmpN (a := (g1_0 ((p0).toUInt32.toUInt16.toUInt32.toInt32).toInt).toInt) (b := (g2_0 ((p0).toUInt32.toUInt16.toUInt32.toInt32).toInt).toInt) w at_17 rfl rfl (congrArg Int32.toInt (own_law _))
  replace w : own_W K b0 Z n0 h 0 0 21 #[.val (.int p0), .val (.int p1), .val (.int (p0).toUInt32.toUInt16.toUInt32.toInt32), .val (.int ((p1 &&& (63 : Int32))).toUInt32.toUInt16.toUInt32.toInt32), .unset, .unset] [(.int (1 : Int32))] := own_iconst w at_20 rfl
  replace w : own_W K b0 Z n0 h 0 0 25 #[.val (.int p0), .val (.int p1), .val (.int (p0).toUInt32.toUInt16.toUInt32.toInt32), .val (.int ((p1 &&& (63 : Int32))).toUInt32.toUInt16.toUInt32.toInt32), .unset, .unset] [(.int (1 : Int32))] := own_goto w at_21 (by decide) (by decide)
  replace w : own_W K b0 Z n0 h 0 0 27 #[.val (.int p0), .val (.int p1), .val (.int (p0).toUInt32.toUInt16.toUInt32.toInt32), .val (.int ((p1 &&& (63 : Int32))).toUInt32.toUInt16.toUInt32.toInt32), .val (.int (1 : Int32)), .unset] [] := own_istore w at_25 rfl
  replace w : own_W K b0 Z n0 h 0 0 28 #[.val (.int p0), .val (.int p1), .val (.int (p0).toUInt32.toUInt16.toUInt32.toInt32), .val (.int ((p1 &&& (63 : Int32))).toUInt32.toUInt16.toUInt32.toInt32), .val (.int (1 : Int32)), .unset] [(.int ((p1 &&& (63 : Int32))).toUInt32.toUInt16.toUInt32.toInt32)] := own_iloadN w at_27 rfl
  obtain ⟨_, _, ⟨rfl, rfl⟩, w⟩ := own_callS (By := b1) [(.int ((p1 &&& (63 : Int32))).toUInt32.toUInt16.toUInt32.toInt32)] w rfl at_28 (hw _ (List.mem_of_getElem? (i := 0) rfl)) (hw _ (List.mem_of_getElem? (i := 1) rfl)) (hw _ (List.mem_of_getElem? (i := 2) rfl)) (hw _ (List.mem_of_getElem? (i := 3) rfl)) (rm1 hw (((p1 &&& (63 : Int32))).toUInt32.toUInt16.toUInt32.toInt32) hn) (by decide) pd_1 rfl rfl (by decide) (Nat.le_of_ble_eq_true rfl) (by decide) (by decide)
  replace w : own_W K b0 Z n0 h 0 0 31 #[.val (.int p0), .val (.int p1), .val (.int (p0).toUInt32.toUInt16.toUInt32.toInt32), .val (.int ((p1 &&& (63 : Int32))).toUInt32.toUInt16.toUInt32.toInt32), .val (.int (1 : Int32)), .unset] [(.int (g1_0 (((p1 &&& (63 : Int32))).toUInt32.toUInt16.toUInt32.toInt32).toInt))] := w
  replace w : own_W K b0 Z n0 h 0 0 32 #[.val (.int p0), .val (.int p1), .val (.int (p0).toUInt32.toUInt16.toUInt32.toInt32), .val (.int ((p1 &&& (63 : Int32))).toUInt32.toUInt16.toUInt32.toInt32), .val (.int (1 : Int32)), .unset] [(.int ((p1 &&& (63 : Int32))).toUInt32.toUInt16.toUInt32.toInt32), (.int (g1_0 (((p1 &&& (63 : Int32))).toUInt32.toUInt16.toUInt32.toInt32).toInt))] := own_iloadN w at_31 rfl
  obtain ⟨_, _, ⟨rfl, rfl⟩, w⟩ := own_callS (By := b2) [(.int ((p1 &&& (63 : Int32))).toUInt32.toUInt16.toUInt32.toInt32)] w rfl at_32 (hw _ (List.mem_of_getElem? (i := 4) rfl)) (hw _ (List.mem_of_getElem? (i := 5) rfl)) (hw _ (List.mem_of_getElem? (i := 6) rfl)) (hw _ (List.mem_of_getElem? (i := 7) rfl)) (rm2 hw (((p1 &&& (63 : Int32))).toUInt32.toUInt16.toUInt32.toInt32) hn) (by decide) pd_2 rfl rfl (by decide) (Nat.le_of_ble_eq_true rfl) (by decide) (by decide)
  replace w : own_W K b0 Z n0 h 0 0 35 #[.val (.int p0), .val (.int p1), .val (.int (p0).toUInt32.toUInt16.toUInt32.toInt32), .val (.int ((p1 &&& (63 : Int32))).toUInt32.toUInt16.toUInt32.toInt32), .val (.int (1 : Int32)), .unset] [(.int (g2_0 (((p1 &&& (63 : Int32))).toUInt32.toUInt16.toUInt32.toInt32).toInt)), (.int (g1_0 (((p1 &&& (63 : Int32))).toUInt32.toUInt16.toUInt32.toInt32).toInt))] := w
  replace w : own_W K b0 Z n0 h 0 0 38 #[.val (.int p0), .val (.int p1), .val (.int (p0).toUInt32.toUInt16.toUInt32.toInt32), .val (.int ((p1 &&& (63 : Int32))).toUInt32.toUInt16.toUInt32.toInt32), .val (.int (1 : Int32)), .unset] [] := own_icmpN (a := (g1_0 (((p1 &&& (63 : Int32))).toUInt32.toUInt16.toUInt32.toInt32).toInt).toInt) (b := (g2_0 (((p1 &&& (63 : Int32))).toUInt32.toUInt16.toUInt32.toInt32).toInt).toInt) w at_35 rfl rfl (congrArg Int32.toInt (own_law _))
  replace w : own_W K b0 Z n0 h 0 0 39 #[.val (.int p0), .val (.int p1), .val (.int (p0).toUInt32.toUInt16.toUInt32.toInt32), .val (.int ((p1 &&& (63 : Int32))).toUInt32.toUInt16.toUInt32.toInt32), .val (.int (1 : Int32)), .unset] [(.int (1 : Int32))] := own_iconst w at_38 rfl
  replace w : own_W K b0 Z n0 h 0 0 43 #[.val (.int p0), .val (.int p1), .val (.int (p0).toUInt32.toUInt16.toUInt32.toInt32), .val (.int ((p1 &&& (63 : Int32))).toUInt32.toUInt16.toUInt32.toInt32), .val (.int (1 : Int32)), .unset] [(.int (1 : Int32))] := own_goto w at_39 (by decide) (by decide)
  replace w : own_W K b0 Z n0 h 0 0 45 #[.val (.int p0), .val (.int p1), .val (.int (p0).toUInt32.toUInt16.toUInt32.toInt32), .val (.int ((p1 &&& (63 : Int32))).toUInt32.toUInt16.toUInt32.toInt32), .val (.int (1 : Int32)), .val (.int (1 : Int32))] [] := own_istore w at_43 rfl
  replace w : own_W K b0 Z n0 h 0 0 47 #[.val (.int p0), .val (.int p1), .val (.int (p0).toUInt32.toUInt16.toUInt32.toInt32), .val (.int ((p1 &&& (63 : Int32))).toUInt32.toUInt16.toUInt32.toInt32), .val (.int (1 : Int32)), .val (.int (1 : Int32))] [(.int (1 : Int32))] := own_iload w at_45 rfl
  replace w : own_W K b0 Z n0 h 0 0 50 #[.val (.int p0), .val (.int p1), .val (.int (p0).toUInt32.toUInt16.toUInt32.toInt32), .val (.int ((p1 &&& (63 : Int32))).toUInt32.toUInt16.toUInt32.toInt32), .val (.int (1 : Int32)), .val (.int (1 : Int32))] [] := own_ifN (a := 1) w at_47 (by decide) (by unfold own_cn; decide)
  replace w : own_W K b0 Z n0 h 0 0 52 #[.val (.int p0), .val (.int p1), .val (.int (p0).toUInt32.toUInt16.toUInt32.toInt32), .val (.int ((p1 &&& (63 : Int32))).toUInt32.toUInt16.toUInt32.toInt32), .val (.int (1 : Int32)), .val (.int (1 : Int32))] [(.int (1 : Int32))] := own_iload w at_50 rfl
  replace w : own_W K b0 Z n0 h 0 0 55 #[.val (.int p0), .val (.int p1), .val (.int (p0).toUInt32.toUInt16.toUInt32.toInt32), .val (.int ((p1 &&& (63 : Int32))).toUInt32.toUInt16.toUInt32.toInt32), .val (.int (1 : Int32)), .val (.int (1 : Int32))] [] := own_ifN (a := 1) w at_52 (by decide) (by unfold own_cn; decide)
  replace w : own_W K b0 Z n0 h 0 0 56 #[.val (.int p0), .val (.int p1), .val (.int (p0).toUInt32.toUInt16.toUInt32.toInt32), .val (.int ((p1 &&& (63 : Int32))).toUInt32.toUInt16.toUInt32.toInt32), .val (.int (1 : Int32)), .val (.int (1 : Int32))] [(.int (1 : Int32))] := own_iconst w at_55 rfl
  replace w : own_W K b0 Z n0 h 0 0 60 #[.val (.int p0), .val (.int p1), .val (.int (p0).toUInt32.toUInt16.toUInt32.toInt32), .val (.int ((p1 &&& (63 : Int32))).toUInt32.toUInt16.toUInt32.toInt32), .val (.int (1 : Int32)), .val (.int (1 : Int32))] [(.int (1 : Int32))] := own_goto w at_56 (by decide) (by decide)
  exact own_retZ w at_60 rfl (Or.inl rfl) rfl (by decide) (by decide)
theorem rm0 {Z : State} {n0 : Nat} {h : Heap} {a0 : Array Value} (hw : ∀ d ∈ tables_1, d.before a0 Z = true) (p0 : Int32) (p1 : Int32) (hn : n0 ≤ h.size) : ∀ l, own_M l Z n0 b0 #[(.int p0), (.int p1)] h (fun v _ => v = some (.int 1)) :=
  fun l => own_enter hn pn_0 (ef_0 p0 p1) (fun K w => own_law0 hw p0 p1 w)
set_option maxRecDepth 65536 in
set_option maxHeartbeats 40000000 in
theorem comes_1 {Post : Tables → Env → Array Value → State → Outcome → State → Prop} (hpost : ∀ tb e args s v u, (limb_1_1.after args s (.returned v) u = true ∧ limb_1_2.after args s (.returned v) u = true ∧ True) → FrameEnd s (.returned v) u (Jvm.fieldLocs frame_1_writes args s ++ Jvm.arrayLocs frame_1_arrays args s ++ Jvm.staticLocs frame_1_statics s) 0 0 → Post tb e args s (.returned v) u) :
    ArmFor flags0 classFile x code maxLocals ret World_1 tables_1 room_1 Calls_1 rest_1 Pre_1 Post := by
  intro l hfl _ _ p e ha hc hk s m args below hf hA hF happ hP
  obtain ⟨hcalls, hrest, hpre⟩ := hP
  obtain ⟨-, -, -, hnamed, -, -, -, hat⟩ := (Spec.applies_iff hf).mp happ
  obtain ⟨hg, hn⟩ := and_e (Cond.before_iff.mp (show (Jvm.Cond.and given_1 narrow_1).before args s = true from hpre))
  obtain ⟨gc, t0⟩ := and_e hg
  obtain ⟨k0, t1⟩ := and_e t0
  have k1 := t1
  obtain ⟨w0, w1, rfl⟩ : ∃ w0 w1 : Value, args = #[w0, w1] := by
    have hs : args.size = 2 := by simpa [Cond.value, given_1] using gc
    obtain ⟨L⟩ := args
    match L, hs with
    | [w0, w1], _ => exact ⟨w0, w1, rfl⟩
  have hw := fun d (hd : d ∈ tables_1) => atoms_spec (ws := Jvm.Cond.code x code maxLocals ret :: tables_1) hat d (List.mem_cons_of_mem _ hd)
  obtain ⟨i0, ei0⟩ := is_v k0
  obtain rfl : w0 = (.int i0) := Option.some.inj ei0
  obtain ⟨i1, ei1⟩ := is_v k1
  obtain rfl : w1 = (.int i1) := Option.some.inj ei1
  obtain ⟨n, o, h1, h2, h3, _, L, rfl, ⟨rfl, N, -⟩, hq⟩ := rm0 (Z := s) (n0 := s.heap.size) (h := s.heap) hw i0 i1 (Nat.le_refl _) l tables_1 p e ha hc hk s m _ below hf ((Spec.applies_iff_loose hf).mp happ).1 ⟨rfl, State.Warmed39.refl s, rfl⟩ trivial
  refine ⟨n, _, h1, h2, h3, hpost _ _ _ _ _ _ ⟨Cond.after_iff.mpr rfl, Cond.after_iff.mpr (eq_i res_at (Term.int_eval (1)) rfl), trivial⟩ ⟨hq.1, hq.2.1, (hq.2.2.sift fun y hy => Or.inr (N y hy)).mono (by decide) (by decide)⟩⟩
theorem main_1_1 : Claimed_1_1 := comes_1 fun _ _ _ _ _ _ h hF => ⟨h.1, hF⟩
theorem main_1_2 : Claimed_1_2 := comes_1 fun _ _ _ _ _ _ h hF => ⟨h.2.1, hF⟩
end Jvm.Pilot.@@N@@
namespace Jvm.Pilot.@@N@@
open Jvm Jvm.ClassFile Sem Op Lib Jvm.Free Jvm.Stand Jvm.Pilot.@@N@@.Jvm.D
/-! MADE BY PROGRAM (witnessworld.py) out of the Statement's table words and the real class files: 9 classes; the members and pool entries that the words name. The judged class is class 1, her method 2. -/
namespace start1
open Jvm.ClassFile
def u (s : String) : CpInfo := .utf8 (stringToUtf16 s)
/-- a pool by its gaps: so many unusable entries, then the entry; so many at the end -/
def gap : Nat → List CpInfo → List CpInfo
  | 0, r => r
  | n + 1, r => .unusable :: gap n r
def poolList (es : List (Nat × CpInfo)) (last : Nat) : List CpInfo := es.foldr (fun e r => gap e.1 (e.2 :: r)) (gap last [])
def pool (es : List (Nat × CpInfo)) (last : Nat) : Array CpInfo := ⟨poolList es last⟩
def fileOf (pool : Array CpInfo) (this : Nat) (attrs : Array Attribute := #[]) (ms : Array MethodInfo := #[]) (fl : Nat := 33) (sup : Nat := 0) (ifs : Array Nat := #[]) (fds : Array FieldInfo := #[]) : ClassFile where
  minorVersion := 0
  majorVersion := 65
  constantPool := pool
  accessFlags := fl
  thisClass := this
  superClass := sup
  interfaces := ifs
  fields := fds
  methods := ms
  attributes := attrs
def plain (name : String) (sup : Option ClassId) : Class where
  name := name
  kind := .ordinary
  loader := none
  accessFlags := 33
  super := sup
  interfaces := #[]
  cf := none
  fields := #[]
  methods := #[]
  instanceTypes := #[]
  staticTypes := #[]
  resolved := #[]
  callSites := []
  init := .initialized
  statics := none
  mirror := none

def pool0 : Array CpInfo := pool [(5, u "<init>"), (0, u "()V"), (1, .class_ 10), (1, u "java/lang/Object")] 113

def k0m0 : Method := { name := "<init>", desc := "()V", sig := { parameters := [], returnType := none }, accessFlags := 1, code := none }
/-- java/lang/Object -/
def k0 : Class := { plain "java/lang/Object" none with
  accessFlags := 33
  interfaces := #[]
  cf := some (fileOf pool0 8 #[] #[{ accessFlags := 1, nameIndex := 5, descriptorIndex := 6, attributes := #[] }] 33 0 #[] #[])
  fields := #[]
  methods := #[k0m0]
  instanceTypes := #[]
  staticTypes := #[]
  resolved := Array.replicate 124 none
  statics := none }

def pool1 : Array CpInfo := pool [(2, .class_ 4), (1, u "java/lang/Object"), (0, u "<init>"), (0, u "()V"), (0, .methodref 8 9), (0, .class_ 10), (0, .nameAndType 11 12), (0, u "com/example/ascanius/ascanius/sql/Lexer"), (0, u "isBlank"), (0, u "(C)Z"), (0, .methodref 14 15), (0, .class_ 16), (0, .nameAndType 17 12), (0, u "com/example/ascanius/ascanius/sql/LexerIsBlankPinLaw"), (0, u "expected"), (3, u "law"), (0, u "(II)Z")] 2

def k1m0 : Method := { name := "<init>", desc := "()V", sig := { parameters := [], returnType := none }, accessFlags := 2, code := none }
def k1c1 : Code := { maxStack := 2, maxLocals := 1, code := method_2_code, exceptionTable := #[], attributes := #[] }
def k1m1 : Method := { name := "expected", desc := "(C)Z", sig := { parameters := [.char], returnType := some .boolean }, accessFlags := 10, code := some k1c1 }
def k1c2 : Code := { maxStack := 2, maxLocals := 6, code := code, exceptionTable := #[], attributes := #[] }
def k1m2 : Method := { name := "law", desc := "(II)Z", sig := { parameters := [.int, .int], returnType := some .boolean }, accessFlags := 9, code := some k1c2 }
/-- com/example/ascanius/ascanius/sql/LexerIsBlankPinLaw -/
def k1 : Class := { plain "com/example/ascanius/ascanius/sql/LexerIsBlankPinLaw" (some 0) with
  accessFlags := 49
  interfaces := #[]
  cf := some (fileOf pool1 14 #[] #[{ accessFlags := 2, nameIndex := 5, descriptorIndex := 6, attributes := #[] }, { accessFlags := 10, nameIndex := 17, descriptorIndex := 12, attributes := #[] }, { accessFlags := 9, nameIndex := 21, descriptorIndex := 22, attributes := #[] }] 49 2 #[] #[])
  fields := #[]
  methods := #[k1m0, k1m1, k1m2]
  instanceTypes := #[]
  staticTypes := #[]
  resolved := Array.replicate 25 none
  statics := none }

def pool2 : Array CpInfo := pool [(2, .class_ 4), (1, u "java/lang/Object"), (3, .class_ 10), (1, u "com/example/ascanius/ascanius/sql/Lexer"), (0, u "text"), (0, u "Ljava/lang/String;"), (6, u "position"), (0, u "I"), (26, u "(C)Z"), (33, u "isBlank"), (89, u "TWO_CHAR_SYMBOLS"), (0, u "Ljava/util/Set;"), (63, u "MAX_NAME_BYTES"), (4, u "ONE_CHAR_SYMBOLS")] 13

def k2c0 : Code := { maxStack := 2, maxLocals := 1, code := prog_163_method_15_code, exceptionTable := #[], attributes := #[] }
def k2m0 : Method := { name := "isBlank", desc := "(C)Z", sig := { parameters := [.char], returnType := some .boolean }, accessFlags := 9, code := some k2c0 }
/-- com/example/ascanius/ascanius/sql/Lexer -/
def k2 : Class := { plain "com/example/ascanius/ascanius/sql/Lexer" (some 0) with
  accessFlags := 49
  interfaces := #[]
  cf := some (fileOf pool2 8 #[] #[{ accessFlags := 9, nameIndex := 81, descriptorIndex := 47, attributes := #[] }] 49 2 #[] #[{ accessFlags := 25, nameIndex := 236, descriptorIndex := 20, attributes := #[] }, { accessFlags := 26, nameIndex := 171, descriptorIndex := 172, attributes := #[] }, { accessFlags := 26, nameIndex := 241, descriptorIndex := 12, attributes := #[] }, { accessFlags := 18, nameIndex := 11, descriptorIndex := 12, attributes := #[] }, { accessFlags := 2, nameIndex := 19, descriptorIndex := 20, attributes := #[] }])
  fields := #[{ name := "MAX_NAME_BYTES", type := .int, accessFlags := 25, slot := 0, constantValue := 0 }, { name := "TWO_CHAR_SYMBOLS", type := (.object "java/util/Set"), accessFlags := 26, slot := 1, constantValue := 0 }, { name := "ONE_CHAR_SYMBOLS", type := (.object "java/lang/String"), accessFlags := 26, slot := 2, constantValue := 0 }, { name := "text", type := (.object "java/lang/String"), accessFlags := 18, slot := 0, constantValue := 0 }, { name := "position", type := .int, accessFlags := 2, slot := 1, constantValue := 0 }]
  methods := #[k2m0]
  instanceTypes := #[(.object "java/lang/String"), .int]
  staticTypes := #[.int, (.object "java/util/Set"), (.object "java/lang/String")]
  resolved := Array.replicate 255 none
  statics := none }

def pool3 : Array CpInfo := pool [(1, u "java/lang/Cloneable"), (0, .class_ 1), (0, u "java/lang/Object"), (0, .class_ 3)] 3

/-- java/lang/Cloneable -/
def k3 : Class := { plain "java/lang/Cloneable" (some 0) with
  accessFlags := 1537
  interfaces := #[]
  cf := some (fileOf pool3 2 #[] #[] 1537 4 #[] #[])
  fields := #[]
  methods := #[]
  instanceTypes := #[]
  staticTypes := #[]
  resolved := Array.replicate 8 none
  statics := none }

def pool4 : Array CpInfo := pool [(1, u "java/io/Serializable"), (0, .class_ 1), (0, u "java/lang/Object"), (0, .class_ 3)] 3

/-- java/io/Serializable -/
def k4 : Class := { plain "java/io/Serializable" (some 0) with
  accessFlags := 1537
  interfaces := #[]
  cf := some (fileOf pool4 2 #[] #[] 1537 4 #[] #[])
  fields := #[]
  methods := #[]
  instanceTypes := #[]
  staticTypes := #[]
  resolved := Array.replicate 8 none
  statics := none }

/-- the primitive byte -/
def k5 : Class := { plain "byte" none with kind := .primitive 'B', accessFlags := 0x411 }
/-- [B -/
def k6 : Class := { plain "[B" (some 0) with kind := .array 5 .byte, interfaces := #[3, 4], accessFlags := 1041 }

/-- the primitive int -/
def k7 : Class := { plain "int" none with kind := .primitive 'I', accessFlags := 0x411 }
/-- [I -/
def k8 : Class := { plain "[I" (some 0) with kind := .array 7 .int, interfaces := #[3, 4], accessFlags := 1041 }

def heap : Heap := #[]
def classes : Array Class := #[k0, k1, k2, k3, k4, k5, k6, k7, k8]
def interned : List (Array UInt16 × Addr) := []
def slotsUsed : Nat := 0
def theMethod : MethodId := ⟨1, 2⟩
def args0 : Array Value := #[.int 9, .int 5]
def aboutOver (below : List Frame) : State where
  vm := { classes := classes, interned := interned.toArray }
  heap := heap
  slotsUsed := slotsUsed
  threads := #[{ frames := .invoking theMethod args0 :: below }]
def below0 : List Frame := [.native { method := ⟨0, 0⟩, args := #[] }]
def about1 : State := aboutOver below0
def p0 : Program := .bare "" "" ""
def e0 : Env := launch0.env 0 0 0
theorem w_frames : about1.frames = Frame.invoking theMethod args0 :: below0 := rfl
set_option maxRecDepth 65536 in
theorem w_args : argsFit about1.vm theMethod args0 = true := by decide +kernel
set_option maxRecDepth 65536 in
theorem w_heap : heapFits about1 = true := by decide +kernel
set_option maxRecDepth 65536 in
theorem w_runnable : about1.curStatus? = some .runnable := by decide +kernel
set_option maxRecDepth 65536 in
theorem w_alone : about1.alone = true := by decide +kernel
set_option maxRecDepth 65536 in
theorem w_named : about1.methodNamed? x = some theMethod := by decide +kernel
set_option maxRecDepth 65536 in
theorem w_hears : about1.hears theMethod below0 = true := by decide +kernel
set_option maxRecDepth 65536 in
theorem w_ripe : about1.ripe theMethod args0 below0 = true := by decide +kernel
theorem w_running : about1.status = .running := rfl
set_option maxRecDepth 65536 in
theorem w_room : about1.hasRoom e0.platform room_1 = true :=
  launch0.hasRoom_least _ room_1 (by decide +kernel) (by decide +kernel) (by decide +kernel) (by decide +kernel) (by decide +kernel) (by decide +kernel)
theorem allAtoms_all (ts : List Jvm.Cond) (a : Array Jvm.Value) (st : Jvm.State) : (allAtoms ts).before a st = ts.all (fun c => c.before a st) := by
  induction ts with
  | nil => rfl
  | cons c t ih =>
    show (Jvm.Cond.and c (allAtoms t)).before a st = _
    rw [Jvm.Cond.before_and, ih, List.all_cons]
def words1 : List Jvm.Cond := Jvm.Cond.code x code maxLocals ret :: tables_1
/-- a 'code' word, met by the world's own term for the bytes: nothing is compared byte by byte -/
theorem code_word {y : MethodName} {bytes : ByteArray} {mx : Nat} {rt : Option FieldType} {a : Array Value} {s : State} {m : MethodId} {meth : Method} {c : Code} (h1 : s.methodNamed? y = some m) (h2 : s.vm.method? m = some meth) (h3 : meth.code = some c) (h4 : c.code = bytes)
    (h5 : (c.maxLocals == mx && c.exceptionTable.isEmpty && decide (c.maxStack ≤ mostOperands) && decide (meth.sig.returnType = rt) && !meth.locks && decide (parseMethodDescriptor y.desc = some meth.sig)) = true) : (Jvm.Cond.code y bytes mx rt).before a s = true := by
  simp only [Bool.and_eq_true, beq_iff_eq, Bool.not_eq_true', decide_eq_true_eq] at h5
  obtain ⟨⟨⟨⟨⟨g1, g2⟩, g3⟩, g4⟩, g5⟩, g6⟩ := h5
  simp [Cond.before, Cond.holds, Cond.value, h1, h2, h3, h4, g1, g2, g3, g4, g5, g6]
def isCode : Jvm.Cond → Bool
  | .code _ _ _ _ => true
  | _ => false
theorem all_split {L : List Jvm.Cond} {P : Jvm.Cond → Bool} (h1 : L.all (fun c => isCode c || P c) = true) (h2 : ∀ c ∈ L.filter isCode, P c = true) : L.all P = true := by
  refine List.all_eq_true.mpr fun c hc => ?_
  have h := List.all_eq_true.mp h1 c hc
  rcases Bool.eq_false_or_eq_true (isCode c) with hi | hi
  · exact h2 c (List.mem_filter.mpr ⟨hc, hi⟩)
  · simpa [hi] using h
set_option maxRecDepth 65536 in
theorem w_c0 : (Jvm.Cond.code x code maxLocals ret).before args0 about1 = true := code_word (m := ⟨1, 2⟩) (meth := k1m2) (c := k1c2) (by decide +kernel) rfl rfl rfl (by decide +kernel)
set_option maxRecDepth 65536 in
theorem w_c1 : (Jvm.Cond.code ({ cls := "com/example/ascanius/ascanius/sql/Lexer", name := "isBlank", desc := "(C)Z" } : Jvm.MethodName) prog_163_method_15_code (1 : Nat) (Option.some Jvm.ClassFile.FieldType.boolean)).before args0 about1 = true := code_word (m := ⟨2, 0⟩) (meth := k2m0) (c := k2c0) (by decide +kernel) rfl rfl rfl (by decide +kernel)
set_option maxRecDepth 65536 in
theorem w_c2 : (Jvm.Cond.code ({ cls := "com/example/ascanius/ascanius/sql/LexerIsBlankPinLaw", name := "expected", desc := "(C)Z" } : Jvm.MethodName) method_2_code (1 : Nat) (Option.some Jvm.ClassFile.FieldType.boolean)).before args0 about1 = true := code_word (m := ⟨1, 1⟩) (meth := k1m1) (c := k1c1) (by decide +kernel) rfl rfl rfl (by decide +kernel)
def codes1 : List Jvm.Cond := [Jvm.Cond.code x code maxLocals ret, Jvm.Cond.code ({ cls := "com/example/ascanius/ascanius/sql/Lexer", name := "isBlank", desc := "(C)Z" } : Jvm.MethodName) prog_163_method_15_code (1 : Nat) (Option.some Jvm.ClassFile.FieldType.boolean), Jvm.Cond.code ({ cls := "com/example/ascanius/ascanius/sql/LexerIsBlankPinLaw", name := "expected", desc := "(C)Z" } : Jvm.MethodName) method_2_code (1 : Nat) (Option.some Jvm.ClassFile.FieldType.boolean)]
set_option maxRecDepth 65536 in
theorem codes_eq : words1.filter isCode = codes1 := rfl
theorem w_codes : ∀ c ∈ words1.filter isCode, c.before args0 about1 = true := by
  rw [codes_eq]
  intro c hc
  simp only [codes1, List.mem_cons, List.not_mem_nil, or_false] at hc
  rcases hc with rfl | rfl | rfl
  · exact w_c0
  · exact w_c1
  · exact w_c2
set_option maxRecDepth 65536 in
theorem w_t1 : words1.all (fun c => isCode c || c.before args0 about1) = true := by decide +kernel
theorem w_tables : (allAtoms (Jvm.Cond.code x code maxLocals ret :: tables_1)).before args0 about1 = true := by
  rw [allAtoms_all]
  show words1.all (fun c => c.before args0 about1) = true
  refine all_split ?_ w_codes
  rw [w_t1]
set_option maxRecDepth 65536 in
theorem w_case : (Jvm.Cond.and given_1 narrow_1).before args0 about1 = true := by decide +kernel
theorem w_applies : (headSpec (Jvm.Cond.code x code maxLocals ret :: tables_1) room_1).applies x e0.platform about1 = true :=
  (Spec.applies_iff w_frames).mpr ⟨w_running, w_runnable, w_alone, w_named, w_hears, w_ripe, w_room, w_tables⟩
theorem atStart : AtStart classFile x code maxLocals ret World_1 tables_1 room_1 Calls_1 rest_1 Pre_1 launch0 p0 e0 about1 theMethod args0 below0 :=
  ⟨lists_1, trivial, launch0.admits_env _ _ _, launch0.least_env, fairChoices_fair.cas, fairChoices_fair.clock, w_frames, w_args, w_heap, w_applies, trivial, trivial, w_case⟩
end start1
theorem witness_1 : WitnessClaimed_1 := ⟨start1.p0, start1.e0, start1.about1, start1.theMethod, start1.args0, start1.below0, start1.atStart⟩
end Jvm.Pilot.@@N@@
