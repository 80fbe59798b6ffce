import JvmDerived
import JvmDerived.Pilot.@@N@@Statement
import JvmDerived.Pilot.@@N@@Code
set_option linter.unusedVariables false
set_option linter.unusedSimpArgs false
namespace Jvm.Pilot.@@N@@
open Jvm Jvm.ClassFile Sem Op Lib Jvm.Free Jvm.Stand Jvm.LawKit Jvm.RoadKit Bundle Jvm.Pilot.@@N@@.Jvm.D
/-! A. where a walk stands: W; what a body owes: Gl; a body's contract: Ctr -/
abbrev Cx := Program × Env × State × MethodId × Array Value × List Frame × Method × Code × State
def W (l : Launch) (Z : State) (n0 : Nat) (y : MethodName) (bytes : ByteArray) (maxl : Nat) (ret : Option FieldType) (R : Room) (G : Cx) (h : Heap) (pc : Nat) (Ls : Array Slot) (St : List Value) (cells slots : Nat) : Prop :=
  match G with
  | (p, e, s, m, args, below, meth, c, st) =>
    p.tables.exec = Jvm.exec ∧ Z.Warmed39 s.vm ∧ c.code = bytes ∧ c.maxLocals = maxl ∧ s.vm.findClass y.cls = some m.cls ∧ meth.name = y.name ∧ meth.sig.returnType = ret ∧ meth.locks = false ∧ n0 ≤ s.heap.size ∧
    ∃ (T : State) (locs : List Loc), Stand p l e R s m args below meth c T locs cells slots ∧ Fr n0 locs ∧ T.heap = h ∧ ∀ t, Steps p.tables e below (T.setTop (mkF m pc Ls St)) t → Steps p.tables e below st t
def Gl (R : Room) (n0 : Nat) (G : Cx) (Q : Option Value → Heap → Prop) : Prop :=
  match G with
  | (p, e, s, m, args, below, meth, c, st) => ∃ s₂ o, Steps p.tables e below st s₂ ∧ s₂.status = .running ∧ Ended s₂ below o ∧ ∃ v L, o = .returned v ∧ (Fr n0 L ∧ Q v s₂.heap) ∧ FrameEnd s o s₂ L R.cells R.slots
def Ctr (l : Launch) (Z : State) (n0 : Nat) (y : MethodName) (bytes : ByteArray) (maxl : Nat) (ret : Option FieldType) (ws : List Jvm.Cond) (R : Room) (as : Array Value) (h0 : Heap) (Q : Option Value → Heap → Prop) : Prop :=
  MetFree l y (head1 (Jvm.Cond.code y bytes maxl ret :: ws) R) (fun a U => a = as ∧ Z.Warmed39 U.vm ∧ U.heap = h0) (fun _ _ _ _ _ => True) (fun _ U o U' => ∃ v L, o = .returned v ∧ (Fr n0 L ∧ Q v U'.heap) ∧ FrameEnd U o U' L R.cells R.slots)
def QI (P : Int32 → Heap → Prop) (v : Option Value) (h : Heap) : Prop := ∃ r, v = some (.int r) ∧ P r h
def QJ (P : Int64 → Heap → Prop) (v : Option Value) (h : Heap) : Prop := ∃ r, v = some (.long r) ∧ P r h
def QA (P : Addr → Heap → Prop) (v : Option Value) (h : Heap) : Prop := ∃ r, v = some (.ref r) ∧ P r h
def QV (P : Heap → Prop) (v : Option Value) (h : Heap) : Prop := v = none ∧ P h
theorem ilt {x y : Int32} {a b : Int} (ha : x.toInt = a) (hb : y.toInt = b) (h : a < b) : x < y := by subst ha hb; exact Int32.lt_iff_toInt_lt.mpr h
theorem inlt {x y : Int32} {a b : Int} (ha : x.toInt = a) (hb : y.toInt = b) (h : ¬ a < b) : ¬ x < y := by subst ha hb; exact fun q => h (Int32.lt_iff_toInt_lt.mp q)
theorem igt {x y : Int32} {a b : Int} (ha : x.toInt = a) (hb : y.toInt = b) (h : b < a) : y < x := ilt hb ha h
theorem ingt {x y : Int32} {a b : Int} (ha : x.toInt = a) (hb : y.toInt = b) (h : ¬ b < a) : ¬ y < x := inlt hb ha h
theorem ieq {x y : Int32} {a b : Int} (ha : x.toInt = a) (hb : y.toInt = b) (h : a = b) : x = y := by subst ha hb; exact Int32.toInt_inj.mp h
theorem ine {x y : Int32} {a b : Int} (ha : x.toInt = a) (hb : y.toInt = b) (h : ¬ a = b) : ¬ x = y := by subst ha hb; exact fun q => h (Int32.toInt_inj.mpr q)
theorem llt {x y : Int64} {a b : Int} (ha : x.toInt = a) (hb : y.toInt = b) (h : a < b) : lcmpW x y < 0 := by subst ha hb; exact (lw_lt _ _).mpr (Int64.lt_iff_toInt_lt.mpr h)
theorem lnlt {x y : Int64} {a b : Int} (ha : x.toInt = a) (hb : y.toInt = b) (h : ¬ a < b) : ¬ lcmpW x y < 0 := by subst ha hb; exact fun q => h (Int64.lt_iff_toInt_lt.mp ((lw_lt _ _).mp q))
theorem lgt {x y : Int64} {a b : Int} (ha : x.toInt = a) (hb : y.toInt = b) (h : b < a) : 0 < lcmpW x y := by subst ha hb; exact (lw_gt _ _).mpr (Int64.lt_iff_toInt_lt.mpr h)
theorem lngt {x y : Int64} {a b : Int} (ha : x.toInt = a) (hb : y.toInt = b) (h : ¬ b < a) : ¬ 0 < lcmpW x y := by subst ha hb; exact fun q => h (Int64.lt_iff_toInt_lt.mp ((lw_gt _ _).mp q))
theorem leq {x y : Int64} {a b : Int} (ha : x.toInt = a) (hb : y.toInt = b) (h : a = b) : lcmpW x y = 0 := by subst ha hb; exact (lw_eq _ _).mpr (Int64.toInt_inj.mp h)
theorem lne {x y : Int64} {a b : Int} (ha : x.toInt = a) (hb : y.toInt = b) (h : ¬ a = b) : ¬ lcmpW x y = 0 := by subst ha hb; exact fun q => h (Int64.toInt_inj.mpr ((lw_eq _ _).mp q))
def Two (s t : Slot) : Prop := (s = .unset ∧ t = .unset) ∨ ∃ q : Int64, s = .val (.long q) ∧ t = .second
section Walk
variable {l : Launch} {Z : State} {n0 : Nat} {y : MethodName} {bytes : ByteArray} {maxl : Nat} {ret : Option FieldType} {R : Room} {G : Cx} {h : Heap} {pc pc' : Nat} {Ls : Array Slot} {St : List Value} {C S C' S' : Nat} {Q : Option Value → Heap → Prop} {a0 : Array Value}
theorem W.mk {p : Program} {e : Env} {s : State} {m : MethodId} {args : Array Value} {below : List Frame} {meth : Method} {c : Code} {st : State} {T : State} {locs : List Loc} (hx : p.tables.exec = Jvm.exec) (hZ : Z.Warmed39 s.vm) (hby : c.code = bytes) (hml : c.maxLocals = maxl) (hown : s.vm.findClass y.cls = some m.cls) (hnm : meth.name = y.name) (hrt : meth.sig.returnType = ret) (hlk : meth.locks = false) (hn0 : n0 ≤ s.heap.size)
    (X : Stand p l e R s m args below meth c T locs C S) (N : Fr n0 locs) (eT : T.heap = h) (k : ∀ t, Steps p.tables e below (T.setTop (mkF m pc Ls St)) t → Steps p.tables e below st t) : W l Z n0 y bytes maxl ret R (p, e, s, m, args, below, meth, c, st) h pc Ls St C S :=
  show _ ∧ _ from ⟨hx, hZ, hby, hml, hown, hnm, hrt, hlk, hn0, T, locs, X, N, eT, k⟩
theorem ctr_of {ws : List Jvm.Cond} {as : Array Value} (hpn : plainFor y = true) (hn0 : n0 ≤ h.size) (hef : ∀ m, entryFrame m as maxl = mkF m 0 Ls []) (body : ∀ G, W l Z n0 y bytes maxl ret R G h 0 Ls [] 0 0 → Gl R n0 G Q) : Ctr l Z n0 y bytes maxl ret ws R as h Q := by
  refine MetFree.of_bodySF hpn hisR ?_
  intro p e s m args below meth c s₁ Bd hml0 hP hK
  obtain ⟨rfl, hZ, hh⟩ := hP
  have e0 : s₁.heap = h := by rw [← hh, Bd.state]; rfl
  exact body (p, e, s, m, args, below, meth, c, s₁.setTop (entryFrame m args maxl)) (W.mk Bd.exec hZ Bd.bytes hml0 (findClass_of_methodNamed Bd.named) (name_of_methodNamed Bd.named Bd.method).1 Bd.returns (BodyLoose.notSynchronized Bd) (hh ▸ hn0) (Stand.of_body Bd) (Fr.nil n0) e0 (fun t k => castTop (hef m) k))
theorem W.size (A : W l Z n0 y bytes maxl ret R G h pc Ls St C S) : n0 ≤ h.size := by
  obtain ⟨p, e, s, m, args, below, meth, c, st⟩ := G
  obtain ⟨hx, hZ, hby, hml, hown, hnm, hrt, hlk, hn0, T, locs, X, N, eT, k⟩ := A
  exact Nat.le_trans hn0 (by rw [← eT]; exact X.same.2.1)
theorem W.more (A : W l Z n0 y bytes maxl ret R G h pc Ls St C S) (hC : C ≤ C') (hS : S ≤ S') : W l Z n0 y bytes maxl ret R G h pc Ls St C' S' := by
  obtain ⟨p, e, s, m, args, below, meth, c, st⟩ := G
  obtain ⟨hx, hZ, hby, hml, hown, hnm, hrt, hlk, hn0, T, locs, X, N, eT, k⟩ := A
  exact W.mk hx hZ hby hml hown hnm hrt hlk hn0 (X.more hC hS) N eT k
theorem W.cast {Ls' : Array Slot} {St' : List Value} (A : W l Z n0 y bytes maxl ret R G h pc Ls St C S) (hp : pc = pc') (hL : Ls = Ls') (hSt : St = St') : W l Z n0 y bytes maxl ret R G h pc' Ls' St' C S := by subst hp hL hSt; exact A
theorem W.topI {x z : Int32} (A : W l Z n0 y bytes maxl ret R G h pc Ls (.int x :: St) C S) (q : x = z) : W l Z n0 y bytes maxl ret R G h pc Ls (.int z :: St) C S := q ▸ A
theorem W.topJ {x z : Int64} (A : W l Z n0 y bytes maxl ret R G h pc Ls (.long x :: St) C S) (q : x = z) : W l Z n0 y bytes maxl ret R G h pc Ls (.long z :: St) C S := q ▸ A
/-- a plain step -/
theorem W.step (A : W l Z n0 y bytes maxl ret R G h pc Ls St C S) {Ls' : Array Slot} {St' : List Value}
    (f : ∀ {p : Program} {e : Env} {s : State} {m : MethodId} {args : Array Value} {below : List Frame} {meth : Method} {c : Code} {T t : State} {locs : List Loc}, Stand p l e R s m args below meth c T locs C S → p.tables.exec = Jvm.exec → Z.Warmed39 s.vm → s.vm.findClass y.cls = some m.cls → c.code = bytes → T.heap = h → Steps p.tables e below (T.setTop (mkF m pc' Ls' St')) t → Steps p.tables e below (T.setTop (mkF m pc Ls St)) t) : W l Z n0 y bytes maxl ret R G h pc' Ls' St' C S := by
  obtain ⟨p, e, s, m, args, below, meth, c, st⟩ := G
  obtain ⟨hx, hZ, hby, hml, hown, hnm, hrt, hlk, hn0, T, locs, X, N, eT, k⟩ := A
  exact W.mk hx hZ hby hml hown hnm hrt hlk hn0 X N eT (fun t q => k t (f X hx hZ hown hby eT q))
/-! B. plain instructions -/
theorem W.iloadN (A : W l Z n0 y bytes maxl ret R G h pc Ls St C S) {k : Fin 4} {v : Int32} (hd : decode bytes pc = .ok (.iload_n k, 1)) (hl : Ls[k.val]? = some (.val (.int v))) (hp : pc + 1 = pc') : W l Z n0 y bytes maxl ret R G h pc' Ls (.int v :: St) C S := by
  subst hp; exact A.step fun X hx _ _ q _ r => XS.iloadN X.here hx rfl (hb q hd) hl r
theorem W.iload (A : W l Z n0 y bytes maxl ret R G h pc Ls St C S) {k : Nat} {v : Int32} (hd : decode bytes pc = .ok (.iload k, 2)) (hl : Ls[k]? = some (.val (.int v))) (hp : pc + 2 = pc') : W l Z n0 y bytes maxl ret R G h pc' Ls (.int v :: St) C S := by
  subst hp; exact A.step fun X hx _ _ q _ r => XS.iload X.here hx rfl (hb q hd) hl r
theorem W.lloadN (A : W l Z n0 y bytes maxl ret R G h pc Ls St C S) {k : Fin 4} {v : Int64} (hd : decode bytes pc = .ok (.lload_n k, 1)) (hl : Ls[k.val]? = some (.val (.long v))) (hp : pc + 1 = pc') : W l Z n0 y bytes maxl ret R G h pc' Ls (.long v :: St) C S := by
  subst hp; exact A.step fun X hx _ _ q _ r => XS.lloadN X.here hx rfl (hb q hd) hl r
theorem W.lload (A : W l Z n0 y bytes maxl ret R G h pc Ls St C S) {k : Nat} {v : Int64} (hd : decode bytes pc = .ok (.lload k, 2)) (hl : Ls[k]? = some (.val (.long v))) (hp : pc + 2 = pc') : W l Z n0 y bytes maxl ret R G h pc' Ls (.long v :: St) C S := by
  subst hp; exact A.step fun X hx _ _ q _ r => XS.lload X.here hx rfl (hb q hd) hl r
theorem W.aloadN (A : W l Z n0 y bytes maxl ret R G h pc Ls St C S) {k : Fin 4} {v : Value} (hd : decode bytes pc = .ok (.aload_n k, 1)) (hl : Ls[k.val]? = some (.val v)) (hv : v.isRef = true) (hp : pc + 1 = pc') : W l Z n0 y bytes maxl ret R G h pc' Ls (v :: St) C S := by
  subst hp; exact A.step fun X hx _ _ q _ r => XS.aloadN X.here hx rfl (hb q hd) hl hv r
theorem W.aload (A : W l Z n0 y bytes maxl ret R G h pc Ls St C S) {k : Nat} {v : Value} (hd : decode bytes pc = .ok (.aload k, 2)) (hl : Ls[k]? = some (.val v)) (hv : v.isRef = true) (hp : pc + 2 = pc') : W l Z n0 y bytes maxl ret R G h pc' Ls (v :: St) C S := by
  subst hp; exact A.step fun X hx _ _ q _ r => XS.aload X.here hx rfl (hb q hd) hl hv r
theorem W.istoreN {v : Int32} (A : W l Z n0 y bytes maxl ret R G h pc Ls (.int v :: St) C S) {k : Fin 4} {Ls' : Array Slot} (hd : decode bytes pc = .ok (.istore_n k, 1)) (hl : storeLocals Ls k.val (.int v) = some Ls') (hp : pc + 1 = pc') : W l Z n0 y bytes maxl ret R G h pc' Ls' St C S := by
  subst hp; exact A.step fun X hx _ _ q _ r => XS.istoreN X.here hx rfl (hb q hd) rfl hl r
theorem W.istore {v : Int32} (A : W l Z n0 y bytes maxl ret R G h pc Ls (.int v :: St) C S) {k : Nat} {Ls' : Array Slot} (hd : decode bytes pc = .ok (.istore k, 2)) (hl : storeLocals Ls k (.int v) = some Ls') (hp : pc + 2 = pc') : W l Z n0 y bytes maxl ret R G h pc' Ls' St C S := by
  subst hp; exact A.step fun X hx _ _ q _ r => XS.istore X.here hx rfl (hb q hd) rfl hl r
theorem W.lstoreN {v : Int64} (A : W l Z n0 y bytes maxl ret R G h pc Ls (.long v :: St) C S) {k : Fin 4} {Ls' : Array Slot} (hd : decode bytes pc = .ok (.lstore_n k, 1)) (hl : storeLocals Ls k.val (.long v) = some Ls') (hp : pc + 1 = pc') : W l Z n0 y bytes maxl ret R G h pc' Ls' St C S := by
  subst hp; exact A.step fun X hx _ _ q _ r => XS.lstoreN X.here hx rfl (hb q hd) rfl hl r
theorem W.lstore {v : Int64} (A : W l Z n0 y bytes maxl ret R G h pc Ls (.long v :: St) C S) {k : Nat} {Ls' : Array Slot} (hd : decode bytes pc = .ok (.lstore k, 2)) (hl : storeLocals Ls k (.long v) = some Ls') (hp : pc + 2 = pc') : W l Z n0 y bytes maxl ret R G h pc' Ls' St C S := by
  subst hp; exact A.step fun X hx _ _ q _ r => XS.lstore X.here hx rfl (hb q hd) rfl hl r
theorem W.astoreN {v : Value} (A : W l Z n0 y bytes maxl ret R G h pc Ls (v :: St) C S) {k : Fin 4} {Ls' : Array Slot} (hd : decode bytes pc = .ok (.astore_n k, 1)) (hv : v.isRef = true) (hl : storeLocals Ls k.val v = some Ls') (hp : pc + 1 = pc') : W l Z n0 y bytes maxl ret R G h pc' Ls' St C S := by
  subst hp; exact A.step fun X hx _ _ q _ r => XS.astoreN X.here hx rfl (hb q hd) rfl hv hl r
theorem W.astore {v : Value} (A : W l Z n0 y bytes maxl ret R G h pc Ls (v :: St) C S) {k : Nat} {Ls' : Array Slot} (hd : decode bytes pc = .ok (.astore k, 2)) (hv : v.isRef = true) (hl : storeLocals Ls k v = some Ls') (hp : pc + 2 = pc') : W l Z n0 y bytes maxl ret R G h pc' Ls' St C S := by
  subst hp; exact A.step fun X hx _ _ q _ r => XS.astore X.here hx rfl (hb q hd) rfl hv hl r
theorem W.iconst (A : W l Z n0 y bytes maxl ret R G h pc Ls St C S) {i : Int} {z : Int32} (hd : decode bytes pc = .ok (.iconst i, 1)) (hz : Int32.ofInt i = z) (hp : pc + 1 = pc') : W l Z n0 y bytes maxl ret R G h pc' Ls (.int z :: St) C S := by
  subst hp hz; exact A.step fun X hx _ _ q _ r => XS.iconst X.here hx rfl (hb q hd) r
theorem W.bipush (A : W l Z n0 y bytes maxl ret R G h pc Ls St C S) {i : Int} {z : Int32} (hd : decode bytes pc = .ok (.bipush i, 2)) (hz : (Int8.ofInt i).toInt32 = z) (hp : pc + 2 = pc') : W l Z n0 y bytes maxl ret R G h pc' Ls (.int z :: St) C S := by
  subst hp hz; exact A.step fun X hx _ _ q _ r => XS.bipush X.here hx rfl (hb q hd) r
theorem W.sipush (A : W l Z n0 y bytes maxl ret R G h pc Ls St C S) {i : Int} {z : Int32} (hd : decode bytes pc = .ok (.sipush i, 3)) (hz : (Int16.ofInt i).toInt32 = z) (hp : pc + 3 = pc') : W l Z n0 y bytes maxl ret R G h pc' Ls (.int z :: St) C S := by
  subst hp hz; exact A.step fun X hx _ _ q _ r => XS.sipush X.here hx rfl (hb q hd) r
theorem W.lconst (A : W l Z n0 y bytes maxl ret R G h pc Ls St C S) {k : Fin 2} {z : Int64} (hd : decode bytes pc = .ok (.lconst k, 1)) (hz : Int64.ofNat k.val = z) (hp : pc + 1 = pc') : W l Z n0 y bytes maxl ret R G h pc' Ls (.long z :: St) C S := by
  subst hp hz; exact A.step fun X hx _ _ q _ r => XS.lconst X.here hx rfl (hb q hd) r
theorem W.aconstNull (A : W l Z n0 y bytes maxl ret R G h pc Ls St C S) (hd : decode bytes pc = .ok (.aconst_null, 1)) (hp : pc + 1 = pc') : W l Z n0 y bytes maxl ret R G h pc' Ls (.null :: St) C S := by
  subst hp; exact A.step fun X hx _ _ q _ r => XS.aconstNull X.here hx rfl (hb q hd) r
theorem W.ldc (A : W l Z n0 y bytes maxl ret R G h pc Ls St C S) {i : Nat} {z : Int32} (hd : decode bytes pc = .ok (.ldc i, 2)) (w : (Jvm.Cond.constant y.cls i z).before a0 Z = true) (hp : pc + 2 = pc') : W l Z n0 y bytes maxl ret R G h pc' Ls (.int z :: St) C S := by
  subst hp; exact A.step fun X hx hZ hown q _ r => X.ldcInt hx hown (mvT hZ w) (g := mkF _ pc Ls St) rfl (hb q hd) _ r
theorem W.ldcW (A : W l Z n0 y bytes maxl ret R G h pc Ls St C S) {i : Nat} {z : Int32} (hd : decode bytes pc = .ok (.ldc_w i, 3)) (w : (Jvm.Cond.constant y.cls i z).before a0 Z = true) (hp : pc + 3 = pc') : W l Z n0 y bytes maxl ret R G h pc' Ls (.int z :: St) C S := by
  subst hp; exact A.step fun X hx hZ hown q _ r => X.ldcwInt hx hown (mvT hZ w) (g := mkF _ pc Ls St) rfl (hb q hd) _ r
theorem W.ldc2 (A : W l Z n0 y bytes maxl ret R G h pc Ls St C S) {i : Nat} {z : Int64} (hd : decode bytes pc = .ok (.ldc2_w i, 3)) (w : (Jvm.Cond.constantLong y.cls i z).before a0 Z = true) (hp : pc + 3 = pc') : W l Z n0 y bytes maxl ret R G h pc' Ls (.long z :: St) C S := by
  subst hp; exact A.step fun X hx hZ hown q _ r => X.ldc2Long hx hown (mvT hZ w) (g := mkF _ pc Ls St) rfl (hb q hd) _ r
theorem W.iinc (A : W l Z n0 y bytes maxl ret R G h pc Ls St C S) {k : Nat} {i : Int} {v z : Int32} {Ls' : Array Slot} (hd : decode bytes pc = .ok (.iinc k i, 3)) (hl : Ls[k]? = some (.val (.int v))) (hz : v + Int32.ofInt i = z) (hl' : storeLocals Ls k (.int z) = some Ls') (hp : pc + 3 = pc') : W l Z n0 y bytes maxl ret R G h pc' Ls' St C S := by
  subst hp hz; exact A.step fun X hx _ _ q _ r => XS.iinc X.here hx rfl (hb q hd) hl hl' r
theorem W.iadd {x z : Int32} (A : W l Z n0 y bytes maxl ret R G h pc Ls (.int z :: .int x :: St) C S) (hd : decode bytes pc = .ok (.iadd, 1)) (hp : pc + 1 = pc') : W l Z n0 y bytes maxl ret R G h pc' Ls (.int (x + z) :: St) C S := by
  subst hp; exact A.step fun X hx _ _ q _ r => XS.iadd X.here hx rfl (hb q hd) rfl r
theorem W.ladd {x z : Int64} (A : W l Z n0 y bytes maxl ret R G h pc Ls (.long z :: .long x :: St) C S) (hd : decode bytes pc = .ok (.ladd, 1)) (hp : pc + 1 = pc') : W l Z n0 y bytes maxl ret R G h pc' Ls (.long (x + z) :: St) C S := by
  subst hp; exact A.step fun X hx _ _ q _ r => XS.ladd X.here hx rfl (hb q hd) rfl r
theorem W.isub {x z : Int32} (A : W l Z n0 y bytes maxl ret R G h pc Ls (.int z :: .int x :: St) C S) (hd : decode bytes pc = .ok (.isub, 1)) (hp : pc + 1 = pc') : W l Z n0 y bytes maxl ret R G h pc' Ls (.int (x - z) :: St) C S := by
  subst hp; exact A.step fun X hx _ _ q _ r => XS.isub X.here hx rfl (hb q hd) rfl r
theorem W.lsub {x z : Int64} (A : W l Z n0 y bytes maxl ret R G h pc Ls (.long z :: .long x :: St) C S) (hd : decode bytes pc = .ok (.lsub, 1)) (hp : pc + 1 = pc') : W l Z n0 y bytes maxl ret R G h pc' Ls (.long (x - z) :: St) C S := by
  subst hp; exact A.step fun X hx _ _ q _ r => XS.lsub X.here hx rfl (hb q hd) rfl r
theorem W.imul {x z : Int32} (A : W l Z n0 y bytes maxl ret R G h pc Ls (.int z :: .int x :: St) C S) (hd : decode bytes pc = .ok (.imul, 1)) (hp : pc + 1 = pc') : W l Z n0 y bytes maxl ret R G h pc' Ls (.int (x * z) :: St) C S := by
  subst hp; exact A.step fun X hx _ _ q _ r => XS.imul X.here hx rfl (hb q hd) rfl r
theorem W.lmul {x z : Int64} (A : W l Z n0 y bytes maxl ret R G h pc Ls (.long z :: .long x :: St) C S) (hd : decode bytes pc = .ok (.lmul, 1)) (hp : pc + 1 = pc') : W l Z n0 y bytes maxl ret R G h pc' Ls (.long (x * z) :: St) C S := by
  subst hp; exact A.step fun X hx _ _ q _ r => XS.lmul X.here hx rfl (hb q hd) rfl r
theorem W.iand {x z : Int32} (A : W l Z n0 y bytes maxl ret R G h pc Ls (.int z :: .int x :: St) C S) (hd : decode bytes pc = .ok (.iand, 1)) (hp : pc + 1 = pc') : W l Z n0 y bytes maxl ret R G h pc' Ls (.int (x &&& z) :: St) C S := by
  subst hp; exact A.step fun X hx _ _ q _ r => XS.iand X.here hx rfl (hb q hd) rfl r
theorem W.land {x z : Int64} (A : W l Z n0 y bytes maxl ret R G h pc Ls (.long z :: .long x :: St) C S) (hd : decode bytes pc = .ok (.land, 1)) (hp : pc + 1 = pc') : W l Z n0 y bytes maxl ret R G h pc' Ls (.long (x &&& z) :: St) C S := by
  subst hp; exact A.step fun X hx _ _ q _ r => XS.land X.here hx rfl (hb q hd) rfl r
theorem W.ior {x z : Int32} (A : W l Z n0 y bytes maxl ret R G h pc Ls (.int z :: .int x :: St) C S) (hd : decode bytes pc = .ok (.ior, 1)) (hp : pc + 1 = pc') : W l Z n0 y bytes maxl ret R G h pc' Ls (.int (x ||| z) :: St) C S := by
  subst hp; exact A.step fun X hx _ _ q _ r => XS.ior X.here hx rfl (hb q hd) rfl r
theorem W.lor {x z : Int64} (A : W l Z n0 y bytes maxl ret R G h pc Ls (.long z :: .long x :: St) C S) (hd : decode bytes pc = .ok (.lor, 1)) (hp : pc + 1 = pc') : W l Z n0 y bytes maxl ret R G h pc' Ls (.long (x ||| z) :: St) C S := by
  subst hp; exact A.step fun X hx _ _ q _ r => XS.lor X.here hx rfl (hb q hd) rfl r
theorem W.ixor {x z : Int32} (A : W l Z n0 y bytes maxl ret R G h pc Ls (.int z :: .int x :: St) C S) (hd : decode bytes pc = .ok (.ixor, 1)) (hp : pc + 1 = pc') : W l Z n0 y bytes maxl ret R G h pc' Ls (.int (x ^^^ z) :: St) C S := by
  subst hp; exact A.step fun X hx _ _ q _ r => XS.ixor X.here hx rfl (hb q hd) rfl r
theorem W.lxor {x z : Int64} (A : W l Z n0 y bytes maxl ret R G h pc Ls (.long z :: .long x :: St) C S) (hd : decode bytes pc = .ok (.lxor, 1)) (hp : pc + 1 = pc') : W l Z n0 y bytes maxl ret R G h pc' Ls (.long (x ^^^ z) :: St) C S := by
  subst hp; exact A.step fun X hx _ _ q _ r => XS.lxor X.here hx rfl (hb q hd) rfl r
theorem W.ineg {x : Int32} (A : W l Z n0 y bytes maxl ret R G h pc Ls (.int x :: St) C S) (hd : decode bytes pc = .ok (.ineg, 1)) (hp : pc + 1 = pc') : W l Z n0 y bytes maxl ret R G h pc' Ls (.int (-x) :: St) C S := by
  subst hp; exact A.step fun X hx _ _ q _ r => XS.ineg X.here hx rfl (hb q hd) rfl r
theorem W.lneg {x : Int64} (A : W l Z n0 y bytes maxl ret R G h pc Ls (.long x :: St) C S) (hd : decode bytes pc = .ok (.lneg, 1)) (hp : pc + 1 = pc') : W l Z n0 y bytes maxl ret R G h pc' Ls (.long (-x) :: St) C S := by
  subst hp; exact A.step fun X hx _ _ q _ r => XS.lneg X.here hx rfl (hb q hd) rfl r
theorem W.ishl {x z : Int32} (A : W l Z n0 y bytes maxl ret R G h pc Ls (.int z :: .int x :: St) C S) (hd : decode bytes pc = .ok (.ishl, 1)) (hp : pc + 1 = pc') : W l Z n0 y bytes maxl ret R G h pc' Ls (.int (x <<< (z &&& 31)) :: St) C S := by
  subst hp; exact A.step fun X hx _ _ q _ r => XS.ishl X.here hx rfl (hb q hd) rfl r
theorem W.ishr {x z : Int32} (A : W l Z n0 y bytes maxl ret R G h pc Ls (.int z :: .int x :: St) C S) (hd : decode bytes pc = .ok (.ishr, 1)) (hp : pc + 1 = pc') : W l Z n0 y bytes maxl ret R G h pc' Ls (.int (x >>> (z &&& 31)) :: St) C S := by
  subst hp; exact A.step fun X hx _ _ q _ r => XS.ishr X.here hx rfl (hb q hd) rfl r
theorem W.iushr {x z : Int32} (A : W l Z n0 y bytes maxl ret R G h pc Ls (.int z :: .int x :: St) C S) (hd : decode bytes pc = .ok (.iushr, 1)) (hp : pc + 1 = pc') : W l Z n0 y bytes maxl ret R G h pc' Ls (.int ((x.toUInt32 >>> (z &&& 31).toUInt32).toInt32) :: St) C S := by
  subst hp; exact A.step fun X hx _ _ q _ r => XS.iushr X.here hx rfl (hb q hd) rfl r
theorem W.lshl {x : Int64} {z : Int32} (A : W l Z n0 y bytes maxl ret R G h pc Ls (.int z :: .long x :: St) C S) (hd : decode bytes pc = .ok (.lshl, 1)) (hp : pc + 1 = pc') : W l Z n0 y bytes maxl ret R G h pc' Ls (.long (x <<< (z &&& 0x3f).toInt64) :: St) C S := by
  subst hp; exact A.step fun X hx _ _ q _ r => XS.lshl X.here hx rfl (hb q hd) rfl r
theorem W.lshr {x : Int64} {z : Int32} (A : W l Z n0 y bytes maxl ret R G h pc Ls (.int z :: .long x :: St) C S) (hd : decode bytes pc = .ok (.lshr, 1)) (hp : pc + 1 = pc') : W l Z n0 y bytes maxl ret R G h pc' Ls (.long (x >>> (z &&& 0x3f).toInt64) :: St) C S := by
  subst hp; exact A.step fun X hx _ _ q _ r => XS.lshr X.here hx rfl (hb q hd) rfl r
theorem W.lushr {x : Int64} {z : Int32} (A : W l Z n0 y bytes maxl ret R G h pc Ls (.int z :: .long x :: St) C S) (hd : decode bytes pc = .ok (.lushr, 1)) (hp : pc + 1 = pc') : W l Z n0 y bytes maxl ret R G h pc' Ls (.long ((x.toUInt64 >>> (z &&& 0x3f).toInt64.toUInt64).toInt64) :: St) C S := by
  subst hp; exact A.step fun X hx _ _ q _ r => XS.lushr X.here hx rfl (hb q hd) rfl r
theorem W.i2l {x : Int32} (A : W l Z n0 y bytes maxl ret R G h pc Ls (.int x :: St) C S) (hd : decode bytes pc = .ok (.i2l, 1)) (hp : pc + 1 = pc') : W l Z n0 y bytes maxl ret R G h pc' Ls (.long x.toInt64 :: St) C S := by
  subst hp; exact A.step fun X hx _ _ q _ r => XS.i2l X.here hx rfl (hb q hd) rfl r
theorem W.l2i {x : Int64} (A : W l Z n0 y bytes maxl ret R G h pc Ls (.long x :: St) C S) (hd : decode bytes pc = .ok (.l2i, 1)) (hp : pc + 1 = pc') : W l Z n0 y bytes maxl ret R G h pc' Ls (.int x.toInt32 :: St) C S := by
  subst hp; exact A.step fun X hx _ _ q _ r => XS.l2i X.here hx rfl (hb q hd) rfl r
theorem W.i2b {x : Int32} (A : W l Z n0 y bytes maxl ret R G h pc Ls (.int x :: St) C S) (hd : decode bytes pc = .ok (.i2b, 1)) (hp : pc + 1 = pc') : W l Z n0 y bytes maxl ret R G h pc' Ls (.int x.toInt8.toInt32 :: St) C S := by
  subst hp; exact A.step fun X hx _ _ q _ r => XS.i2b X.here hx rfl (hb q hd) rfl r
theorem W.i2s {x : Int32} (A : W l Z n0 y bytes maxl ret R G h pc Ls (.int x :: St) C S) (hd : decode bytes pc = .ok (.i2s, 1)) (hp : pc + 1 = pc') : W l Z n0 y bytes maxl ret R G h pc' Ls (.int x.toInt16.toInt32 :: St) C S := by
  subst hp; exact A.step fun X hx _ _ q _ r => XS.i2s X.here hx rfl (hb q hd) rfl r
theorem W.i2c {x : Int32} (A : W l Z n0 y bytes maxl ret R G h pc Ls (.int x :: St) C S) (hd : decode bytes pc = .ok (.i2c, 1)) (hp : pc + 1 = pc') : W l Z n0 y bytes maxl ret R G h pc' Ls (.int x.toUInt32.toUInt16.toUInt32.toInt32 :: St) C S := by
  subst hp; exact A.step fun X hx _ _ q _ r => XS.i2c X.here hx rfl (hb q hd) rfl r
theorem W.lcmp {x z : Int64} (A : W l Z n0 y bytes maxl ret R G h pc Ls (.long z :: .long x :: St) C S) (hd : decode bytes pc = .ok (.lcmp, 1)) (hp : pc + 1 = pc') : W l Z n0 y bytes maxl ret R G h pc' Ls (.int (lcmpW x z) :: St) C S := by
  subst hp; exact A.step fun X hx _ _ q _ r => XS.lcmp X.here hx rfl (hb q hd) rfl r
theorem W.idiv {x z : Int32} (A : W l Z n0 y bytes maxl ret R G h pc Ls (.int z :: .int x :: St) C S) (hd : decode bytes pc = .ok (.idiv, 1)) (hz : z ≠ 0) (hp : pc + 1 = pc') : W l Z n0 y bytes maxl ret R G h pc' Ls (.int (x / z) :: St) C S := by
  subst hp; exact A.step fun X hx _ _ q _ r => XS.idiv X.here hx rfl (hb q hd) rfl hz r
theorem W.irem {x z : Int32} (A : W l Z n0 y bytes maxl ret R G h pc Ls (.int z :: .int x :: St) C S) (hd : decode bytes pc = .ok (.irem, 1)) (hz : z ≠ 0) (hp : pc + 1 = pc') : W l Z n0 y bytes maxl ret R G h pc' Ls (.int (x % z) :: St) C S := by
  subst hp; exact A.step fun X hx _ _ q _ r => iremM (g := mkF _ _ _ _) X hx rfl (hb q hd) rfl hz r
theorem W.ldiv {x z : Int64} (A : W l Z n0 y bytes maxl ret R G h pc Ls (.long z :: .long x :: St) C S) (hd : decode bytes pc = .ok (.ldiv, 1)) (hz : z ≠ 0) (hp : pc + 1 = pc') : W l Z n0 y bytes maxl ret R G h pc' Ls (.long (x / z) :: St) C S := by
  subst hp; exact A.step fun X hx _ _ q _ r => XS.ldiv X.here hx rfl (hb q hd) rfl hz r
theorem W.lrem {x z : Int64} (A : W l Z n0 y bytes maxl ret R G h pc Ls (.long z :: .long x :: St) C S) (hd : decode bytes pc = .ok (.lrem, 1)) (hz : z ≠ 0) (hp : pc + 1 = pc') : W l Z n0 y bytes maxl ret R G h pc' Ls (.long (x % z) :: St) C S := by
  subst hp; exact A.step fun X hx _ _ q _ r => XS.lrem X.here hx rfl (hb q hd) rfl hz (by rw [lrem_mod]; exact r)
theorem W.dup {v : Value} (A : W l Z n0 y bytes maxl ret R G h pc Ls (v :: St) C S) (hd : decode bytes pc = .ok (.dup, 1)) (hc : v.category = 1) (hp : pc + 1 = pc') : W l Z n0 y bytes maxl ret R G h pc' Ls (v :: v :: St) C S := by
  subst hp; exact A.step fun X hx _ _ q _ r => XS.dup X.here hx rfl (hb q hd) rfl hc r
theorem W.pop {v : Value} (A : W l Z n0 y bytes maxl ret R G h pc Ls (v :: St) C S) (hd : decode bytes pc = .ok (.pop, 1)) (hc : v.category = 1) (hp : pc + 1 = pc') : W l Z n0 y bytes maxl ret R G h pc' Ls St C S := by
  subst hp; exact A.step fun X hx _ _ q _ r => XS.pop X.here hx rfl (hb q hd) rfl hc r
theorem W.dupX1 {v w : Value} (A : W l Z n0 y bytes maxl ret R G h pc Ls (v :: w :: St) C S) (hd : decode bytes pc = .ok (.dup_x1, 1)) (hc : v.category = 1) (hc' : w.category = 1) (hp : pc + 1 = pc') : W l Z n0 y bytes maxl ret R G h pc' Ls (v :: w :: v :: St) C S := by
  subst hp; exact A.step fun X hx _ _ q _ r => XS.dupX1 X.here hx rfl (hb q hd) rfl hc hc' r
theorem W.dup2 {v w : Value} (A : W l Z n0 y bytes maxl ret R G h pc Ls (v :: w :: St) C S) (hd : decode bytes pc = .ok (.dup2, 1)) (hc : v.category = 1) (hc' : w.category = 1) (hp : pc + 1 = pc') : W l Z n0 y bytes maxl ret R G h pc' Ls (v :: w :: v :: w :: St) C S := by
  subst hp; exact A.step fun X hx _ _ q _ r => XT.dup2 X.here hx rfl (hb q hd) rfl hc hc' r
theorem W.dup2L {x : Int64} (A : W l Z n0 y bytes maxl ret R G h pc Ls (.long x :: St) C S) (hd : decode bytes pc = .ok (.dup2, 1)) (hp : pc + 1 = pc') : W l Z n0 y bytes maxl ret R G h pc' Ls (.long x :: .long x :: St) C S := by
  subst hp; exact A.step fun X hx _ _ q _ r => XT.dup2L X.here hx rfl (hb q hd) rfl r
theorem W.goto (A : W l Z n0 y bytes maxl ret R G h pc Ls St C S) {o : Int} (hd : decode bytes pc = .ok (.goto o, 3)) (ho : 0 ≤ (pc : Int) + o) (hp : ((pc : Int) + o).toNat = pc') : W l Z n0 y bytes maxl ret R G h pc' Ls St C S :=
  A.step fun X hx _ _ q _ r => XS.goto X.here hx rfl rfl (hb q hd) ho hp r
theorem W.ifYes {x : Int32} (A : W l Z n0 y bytes maxl ret R G h pc Ls (.int x :: St) C S) {cd : ClassFile.Cond} {o : Int} (hd : decode bytes pc = .ok (.ifCond cd o, 3)) (hc : if_icmp.holds cd x 0 = true) (ho : 0 ≤ (pc : Int) + o) (hp : ((pc : Int) + o).toNat = pc') : W l Z n0 y bytes maxl ret R G h pc' Ls St C S :=
  A.step fun X hx _ _ q _ r => XS.ifYes X.here hx rfl rfl (hb q hd) rfl ((if0 _ _).trans hc) ho hp r
theorem W.ifNo {x : Int32} (A : W l Z n0 y bytes maxl ret R G h pc Ls (.int x :: St) C S) {cd : ClassFile.Cond} {o : Int} (hd : decode bytes pc = .ok (.ifCond cd o, 3)) (hc : if_icmp.holds cd x 0 = false) (hp : pc + 3 = pc') : W l Z n0 y bytes maxl ret R G h pc' Ls St C S := by
  subst hp; exact A.step fun X hx _ _ q _ r => XS.ifNo X.here hx rfl (hb q hd) rfl ((if0 _ _).trans hc) r
theorem W.icmpYes {x z : Int32} (A : W l Z n0 y bytes maxl ret R G h pc Ls (.int z :: .int x :: St) C S) {cd : ClassFile.Cond} {o : Int} (hd : decode bytes pc = .ok (.if_icmp cd o, 3)) (hc : if_icmp.holds cd x z = true) (ho : 0 ≤ (pc : Int) + o) (hp : ((pc : Int) + o).toNat = pc') : W l Z n0 y bytes maxl ret R G h pc' Ls St C S :=
  A.step fun X hx _ _ q _ r => XS.icmpYes X.here hx rfl rfl (hb q hd) rfl hc ho hp r
theorem W.icmpNo {x z : Int32} (A : W l Z n0 y bytes maxl ret R G h pc Ls (.int z :: .int x :: St) C S) {cd : ClassFile.Cond} {o : Int} (hd : decode bytes pc = .ok (.if_icmp cd o, 3)) (hc : if_icmp.holds cd x z = false) (hp : pc + 3 = pc') : W l Z n0 y bytes maxl ret R G h pc' Ls St C S := by
  subst hp; exact A.step fun X hx _ _ q _ r => XS.icmpNo X.here hx rfl (hb q hd) rfl hc r
theorem W.ifnullYes (A : W l Z n0 y bytes maxl ret R G h pc Ls (.null :: St) C S) {o : Int} (hd : decode bytes pc = .ok (.ifnull o, 3)) (ho : 0 ≤ (pc : Int) + o) (hp : ((pc : Int) + o).toNat = pc') : W l Z n0 y bytes maxl ret R G h pc' Ls St C S :=
  A.step fun X hx _ _ q _ r => XS.ifnullYes X.here hx rfl rfl (hb q hd) rfl ho hp r
theorem W.ifnullNo {a : Addr} (A : W l Z n0 y bytes maxl ret R G h pc Ls (.ref a :: St) C S) {o : Int} (hd : decode bytes pc = .ok (.ifnull o, 3)) (hp : pc + 3 = pc') : W l Z n0 y bytes maxl ret R G h pc' Ls St C S := by
  subst hp; exact A.step fun X hx _ _ q _ r => XS.ifnullNo X.here hx rfl (hb q hd) rfl r
theorem W.ifnonnullNo (A : W l Z n0 y bytes maxl ret R G h pc Ls (.null :: St) C S) {o : Int} (hd : decode bytes pc = .ok (.ifnonnull o, 3)) (hp : pc + 3 = pc') : W l Z n0 y bytes maxl ret R G h pc' Ls St C S := by
  subst hp; exact A.step fun X hx _ _ q _ r => XS.ifnonnullNo X.here hx rfl (hb q hd) rfl r
theorem W.ifnonnullYes {a : Addr} (A : W l Z n0 y bytes maxl ret R G h pc Ls (.ref a :: St) C S) {o : Int} (hd : decode bytes pc = .ok (.ifnonnull o, 3)) (ho : 0 ≤ (pc : Int) + o) (hp : ((pc : Int) + o).toNat = pc') : W l Z n0 y bytes maxl ret R G h pc' Ls St C S :=
  A.step fun X hx _ _ q _ r => XS.ifnonnullYes X.here hx rfl rfl (hb q hd) rfl ho hp r
/-! C. the returns -/
theorem W.fin {v : Option Value} (A : W l Z n0 y bytes maxl ret R G h pc Ls St C S) (hC : C ≤ R.cells) (hS : S ≤ R.slots) (hv : ret = none → v = none) (hQ : Q v h)
    (f : ∀ {p : Program} {e : Env} {s : State} {m : MethodId} {args : Array Value} {below : List Frame} {meth : Method} {c : Code} {T : State} {locs : List Loc} {fs : List Frame}, Stand p l e R s m args below meth c T locs C S → p.tables.exec = Jvm.exec → c.code = bytes → meth.sig.returnType = ret → (∀ (f : JFrame) (acts : List Action), f.method = m → f.locked = none → f.entered = [] → (doReturn e (T.setTop f) acts v).1 = T.setFrames fs) → Steps p.tables e below (T.setTop (mkF m pc Ls St)) (T.setFrames fs)) : Gl R n0 G Q := by
  obtain ⟨p, e, s, m, args, below, meth, c, st⟩ := G
  obtain ⟨hx, hZ, hby, hml, hown, hnm, hrt, hlk, hn0, T, locs, X, N, eT, k⟩ := A
  obtain ⟨fs, hr, hrun, hended, hW, hsame⟩ := X.leave (v := v) (fun q => hv (hrt.symm.trans q)) hlk
  show ∃ s₂ o, _
  refine ⟨_, _, k _ (f X hx hby hrt hr), hrun, hended, v, locs, rfl, ⟨N, ?_⟩, ⟨_, rfl⟩, hW, hsame.mono hC hS⟩
  show Q v T.heap
  rw [eT]; exact hQ
theorem W.retI {z : Int32} (A : W l Z n0 y bytes maxl (some .int) R G h pc Ls (.int z :: St) C S) (hd : decode bytes pc = .ok (.ireturn, 1)) (hC : C ≤ R.cells) (hS : S ≤ R.slots) (hQ : Q (some (.int z)) h) : Gl R n0 G Q :=
  A.fin hC hS (fun q => nomatch q) hQ fun X hx q hret hr => retOut X hx hret (t := .int) rfl (Or.inl ⟨rfl, Or.inl rfl, z, rfl⟩) (hb q hd) hr
theorem W.retN {z z' : Int32} {t : FieldType} (A : W l Z n0 y bytes maxl (some t) R G h pc Ls (.int z :: St) C S) (hd : decode bytes pc = .ok (.ireturn, 1)) (hC : C ≤ R.cells) (hS : S ≤ R.slots) (ht : t = .boolean ∨ t = .byte ∨ t = .char ∨ t = .short) (hz : nar t z = z') (hQ : Q (some (.int z')) h) : Gl R n0 G Q := by
  subst hz; exact A.fin hC hS (fun q => nomatch q) hQ fun X hx q hret hr => RoadKit.retN X hx hret ht (hb q hd) hr
theorem W.retJ {z : Int64} (A : W l Z n0 y bytes maxl (some .long) R G h pc Ls (.long z :: St) C S) (hd : decode bytes pc = .ok (.lreturn, 1)) (hC : C ≤ R.cells) (hS : S ≤ R.slots) (hQ : Q (some (.long z)) h) : Gl R n0 G Q :=
  A.fin hC hS (fun q => nomatch q) hQ fun X hx q hret hr => retOut X hx hret (t := .long) rfl (Or.inr (Or.inl ⟨rfl, rfl, z, rfl⟩)) (hb q hd) hr
theorem W.retA {v : Value} {t : FieldType} (A : W l Z n0 y bytes maxl (some t) R G h pc Ls (v :: St) C S) (hd : decode bytes pc = .ok (.areturn, 1)) (hC : C ≤ R.cells) (hS : S ≤ R.slots) (ht : t.isReference = true) (hv : v.isRef = true) (hn : narrow t v = v) (hQ : Q (some v) h) : Gl R n0 G Q :=
  A.fin hC hS (fun q => nomatch q) hQ fun X hx q hret hr => retOut X hx hret (t := t) hn (Or.inr (Or.inr (Or.inr (Or.inr ⟨rfl, ht, hv⟩)))) (hb q hd) hr
theorem W.retV (A : W l Z n0 y bytes maxl none R G h pc Ls [] C S) (hd : decode bytes pc = .ok (.return_, 1)) (hC : C ≤ R.cells) (hS : S ≤ R.slots) (hQ : Q none h) : Gl R n0 G Q :=
  A.fin hC hS (fun _ => rfl) hQ fun X hx q hret hr => X.returnOut hx hret (hb q hd) hr
/-! D. calls -/
theorem W.callS (A : W l Z n0 y bytes maxl ret R G h pc Ls St C S) {y' : MethodName} {bytes' : ByteArray} {maxl' : Nat} {ret' : Option FieldType} {R' : Room} {as : Array Value} {idx : Nat} {argsL rest : List Value} {ps : List FieldType} {rr : Option FieldType} (hd : decode bytes pc = .ok (.invokestatic idx, 3))
    (w1 : (Jvm.Cond.methodLink y.cls idx y').before a0 Z = true) (w2 : (Jvm.Cond.static y').before a0 Z = true) (w3 : (Jvm.Cond.initialized y'.cls).before a0 Z = true) (w4 : (Jvm.Cond.code y' bytes' maxl' ret').before a0 Z = true) (hM : Ctr l Z n0 y' bytes' maxl' ret' [] R' as h Q) (has : argsL.toArray = as) (hs : St = argsL.reverse ++ rest)
    (hpd : parseMethodDescriptor y'.desc = some ⟨ps, rr⟩) (hlen : argsL.length = ps.length) (hsz : Ls.size = maxl) (hy : y'.cls ≠ "java/lang/invoke/MethodHandle" ∧ y'.cls ≠ "java/lang/invoke/VarHandle") (hf : R'.frames + 1 ≤ R.frames) (hlo : (rest.map fun v => v.category).sum + (maxl' + 11) + R'.locals ≤ R.locals) (hC : C + R'.cells ≤ R.cells) (hS : S + R'.slots ≤ R.slots) (hC' : C + R'.cells = C') (hS' : S + R'.slots = S') (hp : pc + 3 = pc') :
    ∃ v h', Q v h' ∧ W l Z n0 y bytes maxl ret R G h' pc' Ls (v.toList ++ rest) C' S' := by
  subst hp hC' hS' has
  obtain ⟨p, e, s, m, args, below, meth, c, st⟩ := G
  obtain ⟨hx, hZ, hby, hml, hown, hnm, hrt, hlk, hn0, T, locs, X, N, eT, k⟩ := A
  obtain ⟨v, _, ⟨T', L', k', n'⟩, -, X', ⟨Lc, hQ, l1, y1, z1⟩, st'⟩ := Jvm.LawKit.callS X hx (y := y') hown (mvT hZ w1) (mvT hZ w2) (mvT hZ w3) (mvT hZ w4) hy (backOf (Q := fun v h L => Fr n0 L ∧ Q v h) (W := (rest.map fun v => v.category).sum) hM hZ w4 w3 hf hlo) (g := mkF m pc Ls St) rfl (by rw [hml]; exact hsz) (argsL := argsL) (rest := rest) (lenOf hpd hlen) hs (by show 2 * 0 + _ ≤ _; omega) (hb hby hd) (fun _ _ => ⟨rfl, eT, hC, hS⟩)
  dsimp only [Pt.U, Pt.locs, Pt.cells, Pt.slots] at X' l1 y1 z1 st' hQ
  subst l1 y1 z1
  exact ⟨v, T'.heap, hQ.2, W.mk hx hZ hby hml hown hnm hrt hlk hn0 X' (N.app hQ.1) rfl (fun t q => k t (st' t q))⟩
theorem W.callI (A : W l Z n0 y bytes maxl ret R G h pc Ls St C S) {a : Addr} {y' : MethodName} {bytes' : ByteArray} {maxl' : Nat} {R' : Room} {as : Array Value} {idx : Nat} {argsL rest : List Value} {ps : List FieldType} {rr : Option FieldType} (hd : decode bytes pc = .ok (.invokespecial idx, 3)) (hy1 : y'.name = "<init>")
    (w1 : (Jvm.Cond.methodLink y.cls idx y').before a0 Z = true) (w2 : (Jvm.Cond.instanceMethod y').before a0 Z = true) (w3 : (Jvm.Cond.initialized y'.cls).before a0 Z = true) (w4 : (Jvm.Cond.code y' bytes' maxl' none).before a0 Z = true) (hM : Ctr l Z n0 y' bytes' maxl' none [] R' as h Q) (has : (.ref a :: argsL).toArray = as) (hs : St = argsL.reverse ++ .ref a :: rest)
    (hpd : parseMethodDescriptor y'.desc = some ⟨ps, rr⟩) (hlen : argsL.length = ps.length) (hsz : Ls.size = maxl) (hy : y'.cls ≠ "java/lang/invoke/MethodHandle" ∧ y'.cls ≠ "java/lang/invoke/VarHandle") (hf : R'.frames + 1 ≤ R.frames) (hlo : (rest.map fun v => v.category).sum + (maxl' + 11) + R'.locals ≤ R.locals) (hC : C + R'.cells ≤ R.cells) (hS : S + R'.slots ≤ R.slots) (hC' : C + R'.cells = C') (hS' : S + R'.slots = S') (hp : pc + 3 = pc') :
    ∃ v h', Q v h' ∧ W l Z n0 y bytes maxl ret R G h' pc' Ls (v.toList ++ rest) C' S' := by
  subst hp hC' hS' has
  obtain ⟨p, e, s, m, args, below, meth, c, st⟩ := G
  obtain ⟨hx, hZ, hby, hml, hown, hnm, hrt, hlk, hn0, T, locs, X, N, eT, k⟩ := A
  obtain ⟨v, _, ⟨T', L', k', n'⟩, -, X', ⟨Lc, hQ, l1, y1, z1⟩, st'⟩ := X.specialBack hx (y := y') hy1 hown (mvT hZ w1) (mvT hZ w2) (mvT hZ w4) hy (backOf (Q := fun v h L => Fr n0 L ∧ Q v h) (W := (rest.map fun v => v.category).sum) hM hZ w4 w3 hf hlo) (g := mkF m pc Ls St) rfl (by rw [hml]; exact hsz) (Steps.refl _) (a := a) (argsL := argsL) (rest := rest) (lenOf hpd hlen) hs (by show 2 * 0 + _ ≤ _; omega) (hb hby hd) (fun _ _ => ⟨rfl, eT, hC, hS⟩)
  dsimp only [Pt.U, Pt.locs, Pt.cells, Pt.slots] at X' l1 y1 z1 st' hQ
  subst l1 y1 z1
  exact ⟨v, T'.heap, hQ.2, W.mk hx hZ hby hml hown hnm hrt hlk hn0 X' (N.app hQ.1) rfl (fun t q => k t (st'.trans q))⟩
theorem W.callV (A : W l Z n0 y bytes maxl ret R G h pc Ls St C S) {a : Addr} {K : String} {y' z' : MethodName} {bytes' : ByteArray} {maxl' : Nat} {ret' : Option FieldType} {R' : Room} {as : Array Value} {idx : Nat} {argsL rest : List Value} {ps : List FieldType} {rr : Option FieldType} (hd : decode bytes pc = .ok (.invokevirtual idx, 3)) (E : Exa Z h a K)
    (w1 : (Jvm.Cond.methodLink y.cls idx y').before a0 Z = true) (wd : (Jvm.Cond.declares y').before a0 Z = true) (hnf : ∀ {s : State}, Z.Warmed39 s.vm → NotFace s y') (ws : (Jvm.Cond.selects K y' z').before a0 Z = true) (w2 : (Jvm.Cond.instanceMethod z').before a0 Z = true) (w3 : (Jvm.Cond.initialized z'.cls).before a0 Z = true) (w4 : (Jvm.Cond.code z' bytes' maxl' ret').before a0 Z = true) (hM : Ctr l Z n0 z' bytes' maxl' ret' [] R' as h Q) (has : (.ref a :: argsL).toArray = as) (hs : St = argsL.reverse ++ .ref a :: rest)
    (hpd : parseMethodDescriptor y'.desc = some ⟨ps, rr⟩) (hlen : argsL.length = ps.length) (hsz : Ls.size = maxl) (hy : y'.cls ≠ "java/lang/invoke/MethodHandle" ∧ y'.cls ≠ "java/lang/invoke/VarHandle") (hf : R'.frames + 1 ≤ R.frames) (hlo : (rest.map fun v => v.category).sum + (maxl' + 11) + R'.locals ≤ R.locals) (hC : C + R'.cells ≤ R.cells) (hS : S + R'.slots ≤ R.slots) (hC' : C + R'.cells = C') (hS' : S + R'.slots = S') (hp : pc + 3 = pc') :
    ∃ v h', Q v h' ∧ W l Z n0 y bytes maxl ret R G h' pc' Ls (v.toList ++ rest) C' S' := by
  subst hp hC' hS' has
  obtain ⟨p, e, s, m, args, below, meth, c, st⟩ := G
  obtain ⟨hx, hZ, hby, hml, hown, hnm, hrt, hlk, hn0, T, locs, X, N, eT, k⟩ := A
  obtain ⟨cq, kq, qa, qb, qc⟩ := isOf hZ eT E
  obtain ⟨v, _, ⟨T', L', k', n'⟩, -, X', ⟨Lc, hQ, l1, y1, z1⟩, st'⟩ := X.virtualBack hx (y := y') (z := z') hown (mvT hZ w1) (mvT hZ wd) (hnf hZ) (mvT hZ ws) (mvT hZ w2) hy (backOf (Q := fun v h L => Fr n0 L ∧ Q v h) (W := (rest.map fun v => v.category).sum) hM hZ w4 w3 hf hlo) qa qc (g := mkF m pc Ls St) rfl (by rw [hml]; exact hsz) (Steps.refl _) (argsL := argsL) (rest := rest) (lenOf hpd hlen) hs (by show 2 * 0 + _ ≤ _; omega) (hb hby hd) (fun _ _ => ⟨rfl, eT, hC, hS⟩)
  dsimp only [Pt.U, Pt.locs, Pt.cells, Pt.slots] at X' l1 y1 z1 st' hQ
  subst l1 y1 z1
  exact ⟨v, T'.heap, hQ.2, W.mk hx hZ hby hml hown hnm hrt hlk hn0 X' (N.app hQ.1) rfl (fun t q => k t (st'.trans q))⟩
theorem W.callP (A : W l Z n0 y bytes maxl ret R G h pc Ls St C S) {a : Addr} {K : String} {kk : Nat} {y' : MethodName} {bytes' : ByteArray} {maxl' : Nat} {ret' : Option FieldType} {R' : Room} {as : Array Value} {idx : Nat} {argsL rest : List Value} {ps : List FieldType} {rr : Option FieldType} (hd : decode bytes pc = .ok (.invokevirtual idx, 3)) (E : Exa Z h a K)
    (w1 : (Jvm.Cond.methodLink y.cls idx y').before a0 Z = true) (w2 : (Jvm.Cond.instanceMethod y').before a0 Z = true) (wp : (Jvm.Cond.privateMethod y').before a0 Z = true) (wi : (Jvm.Cond.instantiable y'.cls kk).before a0 Z = true) (w3 : (Jvm.Cond.initialized y'.cls).before a0 Z = true) (w4 : (Jvm.Cond.code y' bytes' maxl' ret').before a0 Z = true) (hM : Ctr l Z n0 y' bytes' maxl' ret' [] R' as h Q) (has : (.ref a :: argsL).toArray = as) (hs : St = argsL.reverse ++ .ref a :: rest)
    (hpd : parseMethodDescriptor y'.desc = some ⟨ps, rr⟩) (hlen : argsL.length = ps.length) (hsz : Ls.size = maxl) (hy : y'.cls ≠ "java/lang/invoke/MethodHandle" ∧ y'.cls ≠ "java/lang/invoke/VarHandle") (hf : R'.frames + 1 ≤ R.frames) (hlo : (rest.map fun v => v.category).sum + (maxl' + 11) + R'.locals ≤ R.locals) (hC : C + R'.cells ≤ R.cells) (hS : S + R'.slots ≤ R.slots) (hC' : C + R'.cells = C') (hS' : S + R'.slots = S') (hp : pc + 3 = pc') :
    ∃ v h', Q v h' ∧ W l Z n0 y bytes maxl ret R G h' pc' Ls (v.toList ++ rest) C' S' := by
  subst hp hC' hS' has
  obtain ⟨p, e, s, m, args, below, meth, c, st⟩ := G
  obtain ⟨hx, hZ, hby, hml, hown, hnm, hrt, hlk, hn0, T, locs, X, N, eT, k⟩ := A
  obtain ⟨cq, q1, q2⟩ := E.cell
  have hpv := Cond.privateMethod_at (mvP (args := args) hZ wp)
  obtain ⟨ci, ki, i1, i2, -, i3, -, -⟩ := Cond.instantiable_spec (mvT (args := args) hZ wi)
  have hsel := selects_self_of_private (args := args) i1 i2 (Bool.or_eq_false_iff.mp i3).1 hpv (mvT hZ w2) hy
  obtain ⟨v, _, ⟨T', L', k', n'⟩, -, X', ⟨Lc, hQ, l1, y1, z1⟩, st'⟩ := X.privateBack hx (y := y') hown (mvT hZ w1) (mvT hZ w2) hsel hpv (mvT hZ w4) hy (backOf (Q := fun v h L => Fr n0 L ∧ Q v h) (W := (rest.map fun v => v.category).sum) hM hZ w4 w3 hf hlo) (g := mkF m pc Ls St) rfl (by rw [hml]; exact hsz) (Steps.refl _) (a := a) (by rw [eT]; exact q1) q2 (argsL := argsL) (rest := rest) (lenOf hpd hlen) hs (by show 2 * 0 + _ ≤ _; omega) (hb hby hd) (fun _ _ => ⟨rfl, eT, hC, hS⟩)
  dsimp only [Pt.U, Pt.locs, Pt.cells, Pt.slots] at X' l1 y1 z1 st' hQ
  subst l1 y1 z1
  exact ⟨v, T'.heap, hQ.2, W.mk hx hZ hby hml hown hnm hrt hlk hn0 X' (N.app hQ.1) rfl (fun t q => k t (st'.trans q))⟩
theorem W.kI {P : Int32 → Heap → Prop} {rest : List Value} (q : ∃ v h', QI P v h' ∧ W l Z n0 y bytes maxl ret R G h' pc Ls (v.toList ++ rest) C S) : ∃ r h', P r h' ∧ W l Z n0 y bytes maxl ret R G h' pc Ls (.int r :: rest) C S := by
  obtain ⟨v, h', ⟨r, rfl, hP⟩, A⟩ := q; exact ⟨r, h', hP, A⟩
theorem W.kJ {P : Int64 → Heap → Prop} {rest : List Value} (q : ∃ v h', QJ P v h' ∧ W l Z n0 y bytes maxl ret R G h' pc Ls (v.toList ++ rest) C S) : ∃ r h', P r h' ∧ W l Z n0 y bytes maxl ret R G h' pc Ls (.long r :: rest) C S := by
  obtain ⟨v, h', ⟨r, rfl, hP⟩, A⟩ := q; exact ⟨r, h', hP, A⟩
theorem W.kA {P : Addr → Heap → Prop} {rest : List Value} (q : ∃ v h', QA P v h' ∧ W l Z n0 y bytes maxl ret R G h' pc Ls (v.toList ++ rest) C S) : ∃ r h', P r h' ∧ W l Z n0 y bytes maxl ret R G h' pc Ls (.ref r :: rest) C S := by
  obtain ⟨v, h', ⟨r, rfl, hP⟩, A⟩ := q; exact ⟨r, h', hP, A⟩
theorem W.kV {P : Heap → Prop} {rest : List Value} (q : ∃ v h', QV P v h' ∧ W l Z n0 y bytes maxl ret R G h' pc Ls (v.toList ++ rest) C S) : ∃ h', P h' ∧ W l Z n0 y bytes maxl ret R G h' pc Ls rest C S := by
  obtain ⟨v, h', ⟨rfl, hP⟩, A⟩ := q; exact ⟨h', hP, A⟩
end Walk
end Jvm.Pilot.@@N@@
namespace Jvm.Pilot.@@N@@
open Jvm Jvm.ClassFile Sem Op Lib Jvm.Free Jvm.Stand Jvm.LawKit Jvm.RoadKit Bundle
/-! numbers -/
theorem rng32 (x : Int32) : -2147483648 ≤ x.toInt ∧ x.toInt < 2147483648 := ⟨x.le_toInt, x.toInt_lt⟩
theorem rng64 (x : Int64) : -9223372036854775808 ≤ x.toInt ∧ x.toInt < 9223372036854775808 := ⟨x.le_toInt, x.toInt_lt⟩
theorem add32 (x y : Int32) (h1 : -2147483648 ≤ x.toInt + y.toInt) (h2 : x.toInt + y.toInt < 2147483648) : (x + y).toInt = x.toInt + y.toInt := by
  have e := c_iadd x y; have r := rng32 (x + y); omega
theorem sub32 (x y : Int32) (h1 : -2147483648 ≤ x.toInt - y.toInt) (h2 : x.toInt - y.toInt < 2147483648) : (x - y).toInt = x.toInt - y.toInt := by
  have e := c_isub x y; have r := rng32 (x - y); omega
theorem mul32 (x y : Int32) (h1 : -2147483648 ≤ x.toInt * y.toInt) (h2 : x.toInt * y.toInt < 2147483648) : (x * y).toInt = x.toInt * y.toInt := by
  have e := c_imul x y; have r := rng32 (x * y); generalize x.toInt * y.toInt = z at *; omega
theorem add64 (x y : Int64) (h1 : -9223372036854775808 ≤ x.toInt + y.toInt) (h2 : x.toInt + y.toInt < 9223372036854775808) : (x + y).toInt = x.toInt + y.toInt := by
  have e := c_ladd x y; have r := rng64 (x + y); omega
theorem sub64 (x y : Int64) (h1 : -9223372036854775808 ≤ x.toInt - y.toInt) (h2 : x.toInt - y.toInt < 9223372036854775808) : (x - y).toInt = x.toInt - y.toInt := by
  have e := c_lsub x y; have r := rng64 (x - y); omega
theorem mul64 (x y : Int64) (h1 : -9223372036854775808 ≤ x.toInt * y.toInt) (h2 : x.toInt * y.toInt < 9223372036854775808) : (x * y).toInt = x.toInt * y.toInt := by
  have e := c_lmul x y; have r := rng64 (x * y); generalize x.toInt * y.toInt = z at *; omega
theorem mulc32 (x c : Int32) (k : Int) (hc : c.toInt = k) (h1 : -2147483648 ≤ x.toInt * k) (h2 : x.toInt * k < 2147483648) : (x * c).toInt = x.toInt * k := by
  subst hc; exact mul32 x c h1 h2
theorem mulc64 (x c : Int64) (k : Int) (hc : c.toInt = k) (h1 : -9223372036854775808 ≤ x.toInt * k) (h2 : x.toInt * k < 9223372036854775808) : (x * c).toInt = x.toInt * k := by
  subst hc; exact mul64 x c h1 h2
theorem addc32 (x c : Int32) (k : Int) (hc : c.toInt = k) (h1 : -2147483648 ≤ x.toInt + k) (h2 : x.toInt + k < 2147483648) : (x + c).toInt = x.toInt + k := by
  subst hc; exact add32 x c h1 h2
theorem subc32 (x c : Int32) (k : Int) (hc : c.toInt = k) (h1 : -2147483648 ≤ x.toInt - k) (h2 : x.toInt - k < 2147483648) : (x - c).toInt = x.toInt - k := by
  subst hc; exact sub32 x c h1 h2
theorem sta_int {args : Array Value} {s : State} {C n d : String} {v : Int32} (h : (Jvm.Cond.eq (Jvm.Term.static C n d) (Jvm.Term.int v)).value args s none s [] = some true) : (Jvm.Term.static C n d).eval args s none [] s = some (.int v) := by
  obtain ⟨a, b, h1, h2, -, -⟩ := cmp_v (Or.inl h)
  cases Option.some.inj (h2.symm.trans (rfl : (Jvm.Term.int v).eval args s none [] s = some (.int v)))
  rw [h1]; cases a <;> simp [Cond.value, h1, h2] at h ⊢; exact h
theorem sta_long {args : Array Value} {s : State} {C n d : String} {v : Int64} (h : (Jvm.Cond.eq (Jvm.Term.static C n d) (Jvm.Term.long v)).value args s none s [] = some true) : (Jvm.Term.static C n d).eval args s none [] s = some (.long v) := by
  obtain ⟨a, b, h1, h2, -, -⟩ := cmp_v (Or.inl h)
  cases Option.some.inj (h2.symm.trans (rfl : (Jvm.Term.long v).eval args s none [] s = some (.long v)))
  rw [h1]; cases a <;> simp [Cond.value, h1, h2] at h ⊢; exact h
/-- (y & 0x7fffffff) % m -/
theorem pmod32 (x m : Int32) (M : Int) (hm : m.toInt = M) (hM : 0 < M) : ((x &&& (2147483647 : Int32)) % m).toInt = (x.toInt % 2147483648) % M ∧ 0 ≤ ((x &&& (2147483647 : Int32)) % m).toInt ∧ ((x &&& (2147483647 : Int32)) % m).toInt < M := by
  have e : (x &&& (2147483647 : Int32)).toInt = x.toInt % 2147483648 := c_mask x 2147483647 31 (by decide) (by decide)
  have q := (c_irem (x &&& (2147483647 : Int32)) m M hm).1 (by omega)
  have := Int.emod_nonneg (x.toInt % 2147483648) (show M ≠ 0 by omega)
  have := Int.emod_lt_of_pos (x.toInt % 2147483648) hM
  rw [q, e]; omega
/-- (x & Long.MAX_VALUE) % m -/
theorem pmod64 (x m : Int64) (M : Int) (hm : m.toInt = M) (hM : 0 < M) : 0 ≤ ((x &&& (9223372036854775807 : Int64)) % m).toInt ∧ ((x &&& (9223372036854775807 : Int64)) % m).toInt < M := by
  have e : (x &&& (9223372036854775807 : Int64)).toInt = x.toInt % 9223372036854775808 := c_maskL x 9223372036854775807 63 (by decide) (by decide)
  have q := (c_lrem (x &&& (9223372036854775807 : Int64)) m M hm).1 (by omega)
  rw [lrem_mod] at q
  have := Int.emod_nonneg (x.toInt % 9223372036854775808) (show M ≠ 0 by omega)
  have := Int.emod_lt_of_pos (x.toInt % 9223372036854775808) hM
  rw [q, e]; omega
end Jvm.Pilot.@@N@@
namespace Jvm.Pilot.@@N@@
open Jvm Jvm.ClassFile Sem Op Lib Jvm.Free Jvm.Stand Jvm.LawKit Jvm.RoadKit Bundle Jvm.Pilot.@@N@@.Jvm.D
section Heaps
variable {l : Launch} {Z : State} {n0 : Nat} {y : MethodName} {bytes : ByteArray} {maxl : Nat} {ret : Option FieldType} {R : Room} {G : Cx} {h h' : Heap} {pc pc' : Nat} {Ls : Array Slot} {St : List Value} {C S C' S' : Nat} {Q : Option Value → Heap → Prop} {a0 : Array Value} {a b : Addr}
/-- a step that moves the state and keeps the heap -/
theorem W.stepT (A : W l Z n0 y bytes maxl ret R G h pc Ls St C S) {Ls' : Array Slot} {St' : List Value}
    (f : ∀ {p : Program} {e : Env} {s : State} {m : MethodId} {args : Array Value} {below : List Frame} {meth : Method} {c : Code} {T : State} {locs : List Loc}, Stand p l e R s m args below meth c T locs C S → p.tables.exec = Jvm.exec → Z.Warmed39 s.vm → s.vm.findClass y.cls = some m.cls → c.code = bytes → c.maxLocals = maxl → T.heap = h →
      ∃ T', Stand p l e R s m args below meth c T' locs C S ∧ T'.heap = h ∧ ∀ t, Steps p.tables e below (T'.setTop (mkF m pc' Ls' St')) t → Steps p.tables e below (T.setTop (mkF m pc Ls St)) t) : W l Z n0 y bytes maxl ret R G h pc' Ls' St' C S := by
  obtain ⟨p, e, s, m, args, below, meth, c, st⟩ := G
  obtain ⟨hx, hZ, hby, hml, hown, hnm, hrt, hlk, hn0, T, locs, X, N, eT, k⟩ := A
  obtain ⟨T', X', e', st'⟩ := f X hx hZ hown hby hml eT
  exact W.mk hx hZ hby hml hown hnm hrt hlk hn0 X' N e' (fun t q => k t (st' t q))
theorem W.getF (A : W l Z n0 y bytes maxl ret R G h pc Ls (.ref a :: St) C S) {index : Nat} {R0 O n d host : String} {v : Value} (hd : decode bytes pc = .ok (.getfield index, 3)) (w : (Jvm.Cond.fieldLink y.cls index R0 n d).before a0 Z = true ∨ (Jvm.Cond.fieldLinkNest y.cls index R0 n d host).before a0 Z = true) (via : Via Z R0 O n d) (F : Fld Z h a O n d v) (hp : pc + 3 = pc') : W l Z n0 y bytes maxl ret R G h pc' Ls (v :: St) C S := by
  subst hp; exact A.stepT fun X hx hZ hown q _ eT => RoadKit.getF X hx hZ hown w via eT F (g := mkF _ _ _ _) rfl rfl (hb q hd)
theorem W.getS (A : W l Z n0 y bytes maxl ret R G h pc Ls St C S) {index : Nat} {R0 O n d host : String} {v : Value} (hd : decode bytes pc = .ok (.getstatic index, 3)) (w : (Jvm.Cond.fieldLink y.cls index R0 n d).before a0 Z = true ∨ (Jvm.Cond.fieldLinkNest y.cls index R0 n d host).before a0 Z = true) (via : Via Z R0 O n d) (F : Sta Z h O n d v) (hp : pc + 3 = pc') : W l Z n0 y bytes maxl ret R G h pc' Ls (v :: St) C S := by
  subst hp; exact A.stepT fun X hx hZ hown q _ eT => getS2 X hx hZ hown w via eT F (g := mkF _ _ _ _) rfl (hb q hd)
theorem W.initO (A : W l Z n0 y bytes maxl ret R G h pc Ls (.ref a :: St) C S) {idx : Nat} (hd : decode bytes pc = .ok (.invokespecial idx, 3)) (w1 : (Jvm.Cond.methodLink y.cls idx Lib.objectInit).before a0 Z = true) (w2 : (Jvm.Cond.instanceMethod Lib.objectInit).before a0 Z = true) (w3 : (Jvm.Cond.code Lib.objectInit ⟨#[0xb1]⟩ 1 none).before a0 Z = true) (hsz : Ls.size = maxl) (hf : 1 ≤ R.frames) (hlo : (St.map fun v => v.category).sum + 12 ≤ R.locals) (hp : pc + 3 = pc') : W l Z n0 y bytes maxl ret R G h pc' Ls St C S := by
  subst hp; exact A.stepT fun X hx hZ hown q hml eT => RoadKit.initO X hx hZ hown w1 w2 w3 eT (g := mkF _ _ _ _) rfl (by rw [hml]; exact hsz) rfl (hb q hd) hf (W := (St.map fun v => v.category).sum) (by show 2 * 0 + _ ≤ _; omega) hlo
theorem W.cast0 (A : W l Z n0 y bytes maxl ret R G h pc Ls (.ref a :: St) C S) {index : Nat} {K : String} (hd : decode bytes pc = .ok (.checkcast index, 3)) (w : (Jvm.Cond.classLink y.cls index K).before a0 Z = true) (F : Ins Z h a K true) (hp : pc + 3 = pc') : W l Z n0 y bytes maxl ret R G h pc' Ls (.ref a :: St) C S := by
  subst hp; exact A.stepT fun X hx hZ hown q _ eT => castY X hx hZ hown w eT F (g := mkF _ _ _ _) rfl rfl (hb q hd)
theorem W.inst1 (A : W l Z n0 y bytes maxl ret R G h pc Ls (.ref a :: St) C S) {index : Nat} {K : String} (hd : decode bytes pc = .ok (.instanceof index, 3)) (w : (Jvm.Cond.classLink y.cls index K).before a0 Z = true) (F : Ins Z h a K true) (hp : pc + 3 = pc') : W l Z n0 y bytes maxl ret R G h pc' Ls (.int 1 :: St) C S := by
  subst hp; exact A.stepT fun X hx hZ hown q _ eT => instY X hx hZ hown w eT F (g := mkF _ _ _ _) rfl rfl (hb q hd)
theorem W.putF {v : Value} (A : W l Z n0 y bytes maxl ret R G h pc Ls (v :: .ref a :: St) C S) {index kk : Nat} {R0 O n d host K : String} {ty : FieldType} {old : Value} (hd : decode bytes pc = .ok (.putfield index, 3)) (w : (Jvm.Cond.fieldLink y.cls index R0 n d).before a0 Z = true ∨ (Jvm.Cond.fieldLinkNest y.cls index R0 n d host).before a0 Z = true) (via : Via Z R0 O n d)
    (F : Fld Z h a O n d old) (E : Exa Z h a K) (Lw : (Jvm.Cond.lays K O n d).before a0 Z = true ∨ ((Jvm.Cond.laysFinal K O n d).before a0 Z = true ∧ y.cls = O ∧ y.name = "<init>")) (wi : (Jvm.Cond.instantiable K kk).before a0 Z = true) (hty : parseFieldDescriptor d = some ty) (hn : narrow ty v = v) (hf : fits ty v = true) (ga : n0 ≤ a) (hp : pc + 3 = pc') :
    ∃ h', Wr h h' a (Jvm.RoadKit.slotOf Z O n d) v ∧ W l Z n0 y bytes maxl ret R G h' pc' Ls St C S := by
  subst hp
  obtain ⟨p, e, s, m, args, below, meth, c, st⟩ := G
  obtain ⟨hx, hZ, hby, hml, hown, hnm, hrt, hlk, hn0, T, locs, X, N, eT, k⟩ := A
  obtain ⟨T', h', X', e', W', st'⟩ := RoadKit.putF X hx hZ hown w via eT F E (Lw.imp id fun q => ⟨q.1, q.2.1, hnm.trans q.2.2⟩) wi hty hn hf (g := mkF m pc Ls _) rfl rfl (hb hby hd)
  exact ⟨h', W', W.mk hx hZ hby hml hown hnm hrt hlk hn0 X' (Fr.snoc X' N ga) e' (fun t q => k t (st' t q))⟩
theorem W.putFN {v v' : Value} (A : W l Z n0 y bytes maxl ret R G h pc Ls (v :: .ref a :: St) C S) {index kk : Nat} {R0 O n d K : String} {ty : FieldType} {old : Value} (hd : decode bytes pc = .ok (.putfield index, 3)) (w : (Jvm.Cond.fieldLink y.cls index R0 n d).before a0 Z = true) (via : Via Z R0 O n d)
    (F : Fld Z h a O n d old) (E : Exa Z h a K) (Lw : (Jvm.Cond.lays K O n d).before a0 Z = true ∨ ((Jvm.Cond.laysFinal K O n d).before a0 Z = true ∧ y.cls = O ∧ y.name = "<init>")) (wi : (Jvm.Cond.instantiable K kk).before a0 Z = true) (hty : parseFieldDescriptor d = some ty) (hn : narrow ty v = v') (hf : fits ty v' = true) (ga : n0 ≤ a) (hp : pc + 3 = pc') :
    ∃ h', Wr h h' a (Jvm.RoadKit.slotOf Z O n d) v' ∧ W l Z n0 y bytes maxl ret R G h' pc' Ls St C S := by
  subst hp
  obtain ⟨p, e, s, m, args, below, meth, c, st⟩ := G
  obtain ⟨hx, hZ, hby, hml, hown, hnm, hrt, hlk, hn0, T, locs, X, N, eT, k⟩ := A
  obtain ⟨T', h', X', e', W', st'⟩ := RoadKit.putFN X hx hZ hown w via eT F E (Lw.imp id fun q => ⟨q.1, q.2.1, hnm.trans q.2.2⟩) wi hty hn hf (g := mkF m pc Ls _) rfl rfl (hb hby hd)
  exact ⟨h', W', W.mk hx hZ hby hml hown hnm hrt hlk hn0 X' (Fr.snoc X' N ga) e' (fun t q => k t (st' t q))⟩
theorem W.newO (A : W l Z n0 y bytes maxl ret R G h pc Ls St C S) {index n : Nat} {K : String} (hd : decode bytes pc = .ok (.new index, 3)) (w : (Jvm.Cond.classLink y.cls index K).before a0 Z = true) (wi : (Jvm.Cond.instantiable K n).before a0 Z = true) (wz : (Jvm.Cond.initialized K).before a0 Z = true) (hC : C + 1 ≤ R.cells) (hS : S + n ≤ R.slots) (hC' : C + 1 = C') (hS' : S + n = S') (hp : pc + 3 = pc') :
    ∃ h' b, b = h.size ∧ n0 ≤ b ∧ Ext h h' ∧ Exa Z h' b K ∧ (∀ {O nm d : String} {ty : FieldType}, Laid Z a0 K O nm d → parseFieldDescriptor d = some ty → Fld Z h' b O nm d (defaultValue ty)) ∧ W l Z n0 y bytes maxl ret R G h' pc' Ls (.ref b :: St) C' S' := by
  subst hp hC' hS'
  have hsz := A.size
  obtain ⟨p, e, s, m, args, below, meth, c, st⟩ := G
  obtain ⟨hx, hZ, hby, hml, hown, hnm, hrt, hlk, hn0, T, locs, X, N, eT, k⟩ := A
  obtain ⟨T', h', X', e', E', A', D', -, st'⟩ := RoadKit.newO X hx hZ hown w wi wz eT (g := mkF m pc Ls St) rfl (hb hby hd) hC hS
  exact ⟨h', h.size, rfl, hsz, E', A', D', W.mk hx hZ hby hml hown hnm hrt hlk hn0 X' N e' (fun t q => k t (st' t q))⟩
/-! arrays: what each place holds, by a function of the place -/
def Ars (Z : State) (h : Heap) (a : Addr) (ty : FieldType) (N : Nat) (f : Nat → Value) : Prop := ∃ c : Cell, Arr Z h a c ty ∧ c.slots.size = N ∧ N < 2 ^ 31 ∧ ∀ j, j < N → c.slots[j]? = some (f j) ∧ fits ty (f j) = true
def upd (f : Nat → Value) (i : Nat) (v : Value) : Nat → Value := fun j => if j = i then v else f j
theorem upd_same (f : Nat → Value) (i : Nat) (v : Value) : upd f i v i = v := by simp [upd]
theorem upd_ne (f : Nat → Value) {i j : Nat} (v : Value) (q : j ≠ i) : upd f i v j = f j := by simp [upd, q]
variable {ty : FieldType} {N : Nat} {f : Nat → Value} {ws : List Addr} {sl : Nat} {v : Value}
theorem Ars.lt (F : Ars Z h a ty N f) : a < h.size := by obtain ⟨c, A, -⟩ := F; exact A.lt
theorem Ars.ext (F : Ars Z h a ty N f) (E : Ext h h') : Ars Z h' a ty N f := by obtain ⟨c, A, r⟩ := F; exact ⟨c, A.ext E, r⟩
theorem Ars.other (F : Ars Z h b ty N f) (V : Wr h h' a sl v) (q : b ≠ a) : Ars Z h' b ty N f := by obtain ⟨c, A, r⟩ := F; exact ⟨c, A.other V q, r⟩
theorem Ars.keep (F : Ars Z h a ty N f) (K : Keep h h' ws) (q : a ∉ ws) : Ars Z h' a ty N f := by obtain ⟨c, A, r⟩ := F; exact ⟨c, ⟨K.2.1 a c A.1 q, A.2⟩, r⟩
theorem Ars.same {i : Nat} (F : Ars Z h a ty N f) (V : Wr h h' a i v) (hi : i < N) (hf : fits ty v = true) : Ars Z h' a ty N (upd f i v) := by
  obtain ⟨c, A, hs, hN, hv⟩ := F
  refine ⟨_, A.same V, by rw [sz_set]; exact hs, hN, fun j hj => ?_⟩
  by_cases q : j = i
  · subst q; exact ⟨by simp [Cell.setSlot, upd, hs, hj], by simp only [upd, if_pos]; exact hf⟩
  · simp only [Cell.setSlot, upd, if_neg q]; rw [Array.getElem?_setIfInBounds_ne (Ne.symm q)]; exact hv j hj
theorem Ars.fn {g : Nat → Value} (F : Ars Z h a ty N f) (q : ∀ j, j < N → f j = g j) : Ars Z h a ty N g := by
  obtain ⟨c, A, hs, hN, hv⟩ := F; exact ⟨c, A, hs, hN, fun j hj => by rw [← q j hj]; exact hv j hj⟩
theorem Ars.size (F : Ars Z h a ty N f) : N < 2 ^ 31 := by obtain ⟨c, A, hs, hN, hv⟩ := F; exact hN
theorem inb {j : Int32} {i N : Nat} {c : Cell} (hs : c.slots.size = N) (hj : j.toInt = i) (hi : i < N) : ¬ (j < 0 ∨ c.slots.size ≤ j.toNatClampNeg) ∧ j.toNatClampNeg = i := by
  have e0 : (0 : Int32).toInt = 0 := rfl
  rw [hs, Int32.lt_iff_toInt_lt]; simp only [Int32.toNatClampNeg]; omega
theorem W.newP (A : W l Z n0 y bytes maxl ret R G h pc Ls (.int z :: St) C S) {aty : ArrayType} {N cap : Nat} (hd : decode bytes pc = .ok (.newarray aty, 2)) (w : (Jvm.Cond.arrayClass (newarray.typeOf aty)).before a0 Z = true) (hz : z.toInt = N) (hcap : N ≤ cap) (hcb : cap * 8 ≤ 536870912) (hC : C + 1 ≤ R.cells) (hS : S + cap ≤ R.slots) (hC' : C + 1 = C') (hS' : S + cap = S') (hp : pc + 2 = pc') {ad : String} (had : "[" ++ (newarray.typeOf aty).toString = ad) :
    ∃ h' b, b = h.size ∧ n0 ≤ b ∧ Ext h h' ∧ Ars Z h' b (newarray.typeOf aty) N (fun _ => defaultValue (newarray.typeOf aty)) ∧ Exa Z h' b ad ∧ W l Z n0 y bytes maxl ret R G h' pc' Ls (.ref b :: St) C' S' := by
  subst hp hC' hS'
  have hsz := A.size
  have e0 : (0 : Int32).toInt = 0 := rfl
  have hneg : ¬ z < 0 := by rw [Int32.lt_iff_toInt_lt]; omega
  have hcl : z.toNatClampNeg = N := by simp only [Int32.toNatClampNeg]; omega
  obtain ⟨p, e, s, m, args, below, meth, c, st⟩ := G
  obtain ⟨hx, hZ, hby, hml, hown, hnm, hrt, hlk, hn0, T, locs, X, Nf, eT, k⟩ := A
  obtain ⟨T', h', kA, X', e', E', A', Ex', st'⟩ := newPE X hx hZ w eT (g := mkF m pc Ls _) rfl (hb hby hd) rfl hneg (cap := cap) (by omega) hcb hC hS had
  refine ⟨h', h.size, rfl, hsz, E', ⟨_, A', by rw [sz_new, hcl], by omega, fun j hj => ?_⟩, Ex', W.mk hx hZ hby hml hown hnm hrt hlk hn0 X' Nf e' (fun t q => k t (st' t q))⟩
  exact ⟨by simp [newA, hcl, hj], by cases aty <;> rfl⟩
theorem W.alen (A : W l Z n0 y bytes maxl ret R G h pc Ls (.ref a :: St) C S) (hd : decode bytes pc = .ok (.arraylength, 1)) (F : Ars Z h a ty N f) {z : Int32} (hz : z.toInt = N) (hp : pc + 1 = pc') : W l Z n0 y bytes maxl ret R G h pc' Ls (.int z :: St) C S := by
  subst hp
  obtain ⟨cl, Ar, hs, hN, hv⟩ := F
  have e0 : (0 : Int32).toInt = 0 := rfl
  have hneg : ¬ z < 0 := by rw [Int32.lt_iff_toInt_lt]; omega
  have hcl : cl.slots.size = z.toNatClampNeg := by simp only [Int32.toNatClampNeg]; omega
  exact A.step fun X hx hZ hown q eT r => X.arraylength hx (by rw [eT]; exact Ar.1) (State.isArrayOf_alike hZ.alike Ar.2.1) (g := mkF _ _ _ _) rfl rfl (hb q hd) _ (by rw [len_of hcl hneg]; exact r)
theorem W.iaload {j : Int32} (A : W l Z n0 y bytes maxl ret R G h pc Ls (.int j :: .ref a :: St) C S) (hd : decode bytes pc = .ok (.iaload, 1)) (F : Ars Z h a .int N f) {i : Nat} (hj : j.toInt = i) (hi : i < N) {v : Value} (hv : f i = v) (hp : pc + 1 = pc') : W l Z n0 y bytes maxl ret R G h pc' Ls (v :: St) C S := by
  subst hp
  obtain ⟨cl, Ar, hs, hN, hf⟩ := F
  obtain ⟨q1, q2⟩ := inb hs hj hi
  exact A.step fun X hx hZ hown q eT r => X.iaload hx (by rw [eT]; exact Ar.1) (State.isArrayOf_alike hZ.alike Ar.2.1) Ar.2.2 q1 (by rw [q2, (hf i hi).1, hv]) (g := mkF _ _ _ _) rfl rfl (hb q hd) _ r
theorem W.laload {j : Int32} (A : W l Z n0 y bytes maxl ret R G h pc Ls (.int j :: .ref a :: St) C S) (hd : decode bytes pc = .ok (.laload, 1)) (F : Ars Z h a .long N f) {i : Nat} (hj : j.toInt = i) (hi : i < N) {v : Value} (hv : f i = v) (hp : pc + 1 = pc') : W l Z n0 y bytes maxl ret R G h pc' Ls (v :: St) C S := by
  subst hp
  obtain ⟨cl, Ar, hs, hN, hf⟩ := F
  obtain ⟨q1, q2⟩ := inb hs hj hi
  exact A.step fun X hx hZ hown q eT r => X.laload hx (by rw [eT]; exact Ar.1) (State.isArrayOf_alike hZ.alike Ar.2.1) Ar.2.2 q1 (by rw [q2, (hf i hi).1, hv]) (g := mkF _ _ _ _) rfl rfl (hb q hd) _ r
theorem W.baload {j : Int32} (A : W l Z n0 y bytes maxl ret R G h pc Ls (.int j :: .ref a :: St) C S) (hd : decode bytes pc = .ok (.baload, 1)) (F : Ars Z h a .byte N f) {i : Nat} (hj : j.toInt = i) (hi : i < N) {v : Value} (hv : f i = v) (hp : pc + 1 = pc') : W l Z n0 y bytes maxl ret R G h pc' Ls (v :: St) C S := by
  subst hp
  obtain ⟨cl, Ar, hs, hN, hf⟩ := F
  obtain ⟨q1, q2⟩ := inb hs hj hi
  exact A.step fun X hx hZ hown q eT r => X.baloadBytes hx (by rw [eT]; exact Ar.1) (State.isArrayOf_alike hZ.alike Ar.2.1) Ar.2.2 q1 (by rw [q2, (hf i hi).1, hv]) (g := mkF _ _ _ _) rfl rfl (hb q hd) _ r
theorem W.caload {j : Int32} (A : W l Z n0 y bytes maxl ret R G h pc Ls (.int j :: .ref a :: St) C S) (hd : decode bytes pc = .ok (.caload, 1)) (F : Ars Z h a .char N f) {i : Nat} (hj : j.toInt = i) (hi : i < N) {v : Value} (hv : f i = v) (hp : pc + 1 = pc') : W l Z n0 y bytes maxl ret R G h pc' Ls (v :: St) C S := by
  subst hp
  obtain ⟨cl, Ar, hs, hN, hf⟩ := F
  obtain ⟨q1, q2⟩ := inb hs hj hi
  exact A.step fun X hx hZ hown q eT r => X.caload hx (by rw [eT]; exact Ar.1) (State.isArrayOf_alike hZ.alike Ar.2.1) Ar.2.2 q1 (by rw [q2, (hf i hi).1, hv]) (g := mkF _ _ _ _) rfl rfl (hb q hd) _ r
theorem W.iastore {j x : Int32} (A : W l Z n0 y bytes maxl ret R G h pc Ls (.int x :: .int j :: .ref a :: St) C S) (hd : decode bytes pc = .ok (.iastore, 1)) (F : Ars Z h a .int N f) {i : Nat} (hj : j.toInt = i) (hi : i < N) (ga : n0 ≤ a) (hp : pc + 1 = pc') : ∃ h', Wr h h' a i (.int x) ∧ Ars Z h' a .int N (upd f i (.int x)) ∧ W l Z n0 y bytes maxl ret R G h' pc' Ls St C S := by
  subst hp
  have F0 := F
  obtain ⟨cl, Ar, hs, hN, hf⟩ := F
  obtain ⟨q1, q2⟩ := inb hs hj hi
  obtain ⟨p, e, s, m, args, below, meth, c, st⟩ := G
  obtain ⟨hx, hZ, hby, hml, hown, hnm, hrt, hlk, hn0, T, locs, X, Nf, eT, k⟩ := A
  have hfit : fits .int (.int x) = true := rfl
  obtain ⟨T', h', X', e', W', st'⟩ := stI X hx hZ eT Ar q1 (g := mkF m pc Ls _) rfl rfl (hb hby hd)
  rw [q2] at W'
  exact ⟨h', W', F0.same W' hi hfit, W.mk hx hZ hby hml hown hnm hrt hlk hn0 X' (Fr.snoc X' Nf ga) e' (fun t q => k t (st' t q))⟩
theorem W.lastore {j : Int32} {x : Int64} (A : W l Z n0 y bytes maxl ret R G h pc Ls (.long x :: .int j :: .ref a :: St) C S) (hd : decode bytes pc = .ok (.lastore, 1)) (F : Ars Z h a .long N f) {i : Nat} (hj : j.toInt = i) (hi : i < N) (ga : n0 ≤ a) (hp : pc + 1 = pc') : ∃ h', Wr h h' a i (.long x) ∧ Ars Z h' a .long N (upd f i (.long x)) ∧ W l Z n0 y bytes maxl ret R G h' pc' Ls St C S := by
  subst hp
  have F0 := F
  obtain ⟨cl, Ar, hs, hN, hf⟩ := F
  obtain ⟨q1, q2⟩ := inb hs hj hi
  obtain ⟨p, e, s, m, args, below, meth, c, st⟩ := G
  obtain ⟨hx, hZ, hby, hml, hown, hnm, hrt, hlk, hn0, T, locs, X, Nf, eT, k⟩ := A
  have hfit : fits .long (.long x) = true := rfl
  obtain ⟨T', h', X', e', W', st'⟩ := stJ X hx hZ eT Ar q1 (g := mkF m pc Ls _) rfl rfl (hb hby hd)
  rw [q2] at W'
  exact ⟨h', W', F0.same W' hi hfit, W.mk hx hZ hby hml hown hnm hrt hlk hn0 X' (Fr.snoc X' Nf ga) e' (fun t q => k t (st' t q))⟩
theorem W.bastore {j x : Int32} (A : W l Z n0 y bytes maxl ret R G h pc Ls (.int x :: .int j :: .ref a :: St) C S) (hd : decode bytes pc = .ok (.bastore, 1)) (F : Ars Z h a .byte N f) {i : Nat} (hj : j.toInt = i) (hi : i < N) (ga : n0 ≤ a) (hp : pc + 1 = pc') : ∃ h', Wr h h' a i (.int x.toInt8.toInt32) ∧ Ars Z h' a .byte N (upd f i (.int x.toInt8.toInt32)) ∧ W l Z n0 y bytes maxl ret R G h' pc' Ls St C S := by
  subst hp
  have F0 := F
  obtain ⟨cl, Ar, hs, hN, hf⟩ := F
  obtain ⟨q1, q2⟩ := inb hs hj hi
  obtain ⟨p, e, s, m, args, below, meth, c, st⟩ := G
  obtain ⟨hx, hZ, hby, hml, hown, hnm, hrt, hlk, hn0, T, locs, X, Nf, eT, k⟩ := A
  have hfit : fits .byte (.int x.toInt8.toInt32) = true := fits_nar_byte x
  obtain ⟨T', h', X', e', W', st'⟩ := stB X hx hZ eT Ar q1 (g := mkF m pc Ls _) rfl rfl (hb hby hd)
  rw [q2] at W'
  exact ⟨h', W', F0.same W' hi hfit, W.mk hx hZ hby hml hown hnm hrt hlk hn0 X' (Fr.snoc X' Nf ga) e' (fun t q => k t (st' t q))⟩
theorem W.castore {j x : Int32} (A : W l Z n0 y bytes maxl ret R G h pc Ls (.int x :: .int j :: .ref a :: St) C S) (hd : decode bytes pc = .ok (.castore, 1)) (F : Ars Z h a .char N f) {i : Nat} (hj : j.toInt = i) (hi : i < N) (ga : n0 ≤ a) (hp : pc + 1 = pc') : ∃ h', Wr h h' a i (.int (nar .char x)) ∧ Ars Z h' a .char N (upd f i (.int (nar .char x))) ∧ W l Z n0 y bytes maxl ret R G h' pc' Ls St C S := by
  subst hp
  have F0 := F
  obtain ⟨cl, Ar, hs, hN, hf⟩ := F
  obtain ⟨q1, q2⟩ := inb hs hj hi
  obtain ⟨p, e, s, m, args, below, meth, c, st⟩ := G
  obtain ⟨hx, hZ, hby, hml, hown, hnm, hrt, hlk, hn0, T, locs, X, Nf, eT, k⟩ := A
  have hfit : fits .char (.int (nar .char x)) = true := fits_nar_char x
  obtain ⟨T', h', X', e', W', st'⟩ := stC X hx hZ eT Ar q1 (g := mkF m pc Ls _) rfl rfl (hb hby hd)
  rw [q2] at W'
  exact ⟨h', W', F0.same W' hi hfit, W.mk hx hZ hby hml hown hnm hrt hlk hn0 X' (Fr.snoc X' Nf ga) e' (fun t q => k t (st' t q))⟩
theorem W.clone (A : W l Z n0 y bytes maxl ret R G h pc Ls (.ref a :: St) C S) {index cap : Nat} {ad : String} (hd : decode bytes pc = .ok (.invokevirtual index, 3)) (w1 : (Jvm.Cond.methodLink y.cls index ⟨ad, "clone", "()Ljava/lang/Object;"⟩).before a0 Z = true) (w2 : (Jvm.Cond.sameMethod ad "java/lang/Object" "clone" "()Ljava/lang/Object;").before a0 Z = true) (w3 : (Jvm.Cond.native ⟨"java/lang/Object", "clone", "()Ljava/lang/Object;"⟩).before a0 Z = true)
    (w4 : (Jvm.Cond.instanceMethod ⟨"java/lang/Object", "clone", "()Ljava/lang/Object;"⟩).before a0 Z = true) (w5 : (Jvm.Cond.selects ad ⟨ad, "clone", "()Ljava/lang/Object;"⟩ ⟨"java/lang/Object", "clone", "()Ljava/lang/Object;"⟩).before a0 Z = true) (w6 : (Jvm.Cond.castable ad "java/lang/Cloneable").before a0 Z = true) (F : Ars Z h a ty N f) (E : Exa Z h a ad) (hcap : N ≤ cap) (hsz : Ls.size = maxl) (hf : 1 ≤ R.frames) (hlo : (St.map fun v => v.category).sum + 14 ≤ R.locals) (hC : C + 1 ≤ R.cells) (hS : S + cap ≤ R.slots) (hC' : C + 1 = C') (hS' : S + cap = S') (hp : pc + 3 = pc') :
    ∃ h' b, b = h.size ∧ n0 ≤ b ∧ Ext h h' ∧ Ars Z h' b ty N f ∧ Exa Z h' b ad ∧ W l Z n0 y bytes maxl ret R G h' pc' Ls (.ref b :: St) C' S' := by
  subst hp hC' hS'
  have hs0 := A.size
  obtain ⟨cl, Ar, hs, hN, hv⟩ := F
  have FC : FitC Z cl := fitC_of Ar fun i hi v q => by rw [hs] at hi; rw [(hv i hi).1] at q; cases q; exact (hv i hi).2
  obtain ⟨p, e, s, m, args, below, meth, c, st⟩ := G
  obtain ⟨hx, hZ, hby, hml, hown, hnm, hrt, hlk, hn0, T, locs, X, Nf, eT, k⟩ := A
  obtain ⟨T', h', X', e', E', A', Ex', st'⟩ := cloneA X hx hZ hown w1 w2 w3 w4 w5 w6 eT Ar E FC (g := mkF m pc Ls (.ref a :: St)) rfl (by rw [hml]; exact hsz) rfl (hb hby hd) hf (W := (St.map fun v => v.category).sum) (by show 2 * 0 + _ ≤ _; omega) hlo (by rw [hs]; exact hcap) hC hS
  exact ⟨h', h.size, rfl, hs0, E', ⟨_, A', hs, hN, hv⟩, Ex', W.mk hx hZ hby hml hown hnm hrt hlk hn0 X' Nf e' (fun t q => k t (st' t q))⟩
/-! System.arraycopy -/
def cpy (f : Nat → Value) (i : Nat) (g : Nat → Value) (j k : Nat) : Nat → Value := fun x => if j ≤ x ∧ x < j + k then f (i + (x - j)) else g x
theorem Ars.toArv (F : Ars Z h a ty N f) : ∃ k, Arv Z h a k ty (Int32.ofNat N) ((List.range N).map f) (.int 0) := by
  obtain ⟨c, A, hs, hN, hv⟩ := F
  have e : (Int32.ofNat N).toInt = N := Int32.toInt_ofNat_of_lt hN
  have e0 : (0 : Int32).toInt = 0 := rfl
  have q : (Int32.ofNat N).toNatClampNeg = N := by simp only [Int32.toNatClampNeg]; omega
  have hd : ∀ i, i < N → ((List.range N).map f).getD i (.int 0) = f i := fun i hi => by simp [List.getD_eq_getElem?_getD, hi]
  refine ⟨c.cls, c, A, rfl, by rw [q]; exact hs, by rw [Int32.lt_iff_toInt_lt]; omega, fun i hi => ?_, fun i hi => ?_⟩
  · rw [hs] at hi; rw [hd i hi]; exact (hv i hi).1
  · rw [hs] at hi; rw [hd i hi]; exact (hv i hi).2
theorem W.acopy {b : Addr} {sp dp nn : Int32} (A : W l Z n0 y bytes maxl ret R G h pc Ls (.int nn :: .int dp :: .ref b :: .int sp :: .ref a :: St) C S) {idx i j k N' : Nat} {g : Nat → Value} (hd : decode bytes pc = .ok (.invokestatic idx, 3)) (w1 : (Jvm.Cond.methodLink y.cls idx Jvm.Stand.acN).before a0 Z = true) (w2 : (Jvm.Cond.native Jvm.Stand.acN).before a0 Z = true) (w3 : (Jvm.Cond.static Jvm.Stand.acN).before a0 Z = true) (w4 : (Jvm.Cond.initialized "java/lang/System").before a0 Z = true)
    (F : Ars Z h a ty N f) (D : Ars Z h b ty N' g) (hty : refKind ty = false) (hsp : sp.toInt = i) (hdp : dp.toInt = j) (hnn : nn.toInt = k) (h4 : i + k ≤ N) (h5 : j + k ≤ N') (gb : n0 ≤ b) (hsz : Ls.size = maxl) (hf : 1 ≤ R.frames) (hlo : (St.map fun v => v.category).sum + (nativeFrameWords "java/lang/System" "arraycopy" 5 + 11) ≤ R.locals) (hp : pc + 3 = pc') :
    ∃ h', Keep h h' [b] ∧ Ars Z h' b ty N' (cpy f i g j k) ∧ W l Z n0 y bytes maxl ret R G h' pc' Ls St C S := by
  subst hp
  have FN := F.size
  have DN := D.size
  obtain ⟨kF, VF⟩ := F.toArv
  obtain ⟨kD, VD⟩ := D.toArv
  have e0 : (0 : Int32).toInt = 0 := rfl
  have c1 : sp.toNatClampNeg = i := by simp only [Int32.toNatClampNeg]; omega
  have c2 : dp.toNatClampNeg = j := by simp only [Int32.toNatClampNeg]; omega
  have c3 : nn.toNatClampNeg = k := by simp only [Int32.toNatClampNeg]; omega
  have eN : (Int32.ofNat N).toNatClampNeg = N := by have := Int32.toInt_ofNat_of_lt FN; simp only [Int32.toNatClampNeg]; omega
  have eN' : (Int32.ofNat N').toNatClampNeg = N' := by have := Int32.toInt_ofNat_of_lt DN; simp only [Int32.toNatClampNeg]; omega
  have p1 : ¬ sp < 0 := by rw [Int32.lt_iff_toInt_lt]; omega
  have p2 : ¬ dp < 0 := by rw [Int32.lt_iff_toInt_lt]; omega
  have p3 : ¬ nn < 0 := by rw [Int32.lt_iff_toInt_lt]; omega
  obtain ⟨p, e, s, m, args, below, meth, c, st⟩ := G
  obtain ⟨hx, hZ, hby, hml, hown, hnm, hrt, hlk, hn0, T, locs, X, Nf, eT, kk⟩ := A
  obtain ⟨T', h', L', X', e', N2, K2, V2, st'⟩ := cpA X hx hZ hown w1 w2 w3 w4 eT VF VD (Or.inl ⟨rfl, hty⟩) (sp := sp) (dp := dp) (nn := nn) p1 p2 p3 (by rw [c1, c3, eN]; exact h4) (by rw [c2, c3, eN']; exact h5) rfl (by rw [c2, c3]; simpa using h5) Nf gb (g := mkF m pc Ls (.int nn :: .int dp :: .ref b :: .int sp :: .ref a :: St)) rfl (by rw [hml]; exact hsz) rfl (hb hby hd) hf (W := (St.map fun v => v.category).sum) (by show 2 * 0 + _ ≤ _; omega) hlo
  refine ⟨h', K2, ?_, W.mk hx hZ hby hml hown hnm hrt hlk hn0 X' N2 e' (fun t q => kk t (st' t q))⟩
  obtain ⟨cd, Ad, -, Sd, -, Hd, Gd⟩ := V2
  rw [eN'] at Sd
  rw [c1, c2, c3] at Hd Gd
  have key : ∀ x, x < N' → (List.take j ((List.range N').map g) ++ (List.map (fun i_1 => ((List.range N).map f).getD (i + i_1) (.int 0)) (List.range k)) ++ List.drop (j + k) ((List.range N').map g)).getD x (.int 0) = cpy f i g j k x := fun x hx' => by
    simp only [List.getD_eq_getElem?_getD, cpy]
    by_cases q1 : x < j
    · rw [List.getElem?_append_left (by simp; omega), List.getElem?_append_left (by simp; omega), if_neg (by omega)]
      simp [List.getElem?_take, q1, hx']
    · by_cases q2 : x < j + k
      · rw [List.getElem?_append_left (by simp; omega), List.getElem?_append_right (by simp; omega), if_pos (by omega)]
        have l1 : (List.take j ((List.range N').map g)).length = j := by simp; omega
        rw [l1]
        have q3 : x - j < k := by omega
        have q4 : i + (x - j) < N := by omega
        simp [List.getElem?_map, List.getElem?_range, q3, q4]
      · rw [List.getElem?_append_right (by simp; omega), if_neg (by omega)]
        have l1 : (List.take j ((List.range N').map g) ++ (List.map (fun i_1 => (((List.range N).map f)[i + i_1]?).getD (.int 0)) (List.range k))).length = j + k := by simp; omega
        rw [l1, List.getElem?_drop]
        have q3 : j + k + (x - (j + k)) = x := by omega
        rw [q3]; simp [hx']
  refine ⟨cd, Ad, Sd, DN, fun x hx' => ?_⟩
  have a1 := Hd x (by omega)
  have a2 := Gd x (by omega)
  rw [key x hx'] at a1 a2
  exact ⟨a1, a2⟩
end Heaps
end Jvm.Pilot.@@N@@
namespace Jvm.Pilot.@@N@@
open Jvm Jvm.ClassFile Sem Op Lib Jvm.Free Jvm.Stand Jvm.LawKit Jvm.RoadKit Bundle Jvm.Pilot.@@N@@.Jvm.D
theorem own_bb (x : Int32) : x.toInt8.toInt32.toInt8.toInt32 = x.toInt8.toInt32 := by simp
abbrev own_hi (x : Int32) : Int32 := (x >>> ((0 : Int32) &&& 31)).toInt8.toInt32.toInt8.toInt32
abbrev own_lo (x : Int32) : Int32 := (x >>> ((8 : Int32) &&& 31)).toInt8.toInt32.toInt8.toInt32
theorem own_nch (x : Int32) (h0 : 0 ≤ x.toInt) (h1 : x.toInt ≤ 65535) : nar .char x = x := by
  have := c_i2c x
  exact Int32.toInt_inj.mp (show x.toUInt32.toUInt16.toUInt32.toInt32.toInt = x.toInt by omega)
theorem own_nc (x : Int32) : nar .char x.toUInt32.toUInt16.toUInt32.toInt32 = x.toUInt32.toUInt16.toUInt32.toInt32 := by
  have := c_i2c x
  exact own_nch _ (by omega) (by omega)
theorem own_lc (x : Int32) (h0 : 0 ≤ x.toInt) (h1 : x.toInt ≤ 255) : (x.toInt8.toInt32 &&& (255 : Int32)).toUInt32.toUInt16.toUInt32.toInt32.toInt = x.toInt := by
  have e1 := c_i2b x
  have e2 : (x.toInt8.toInt32 &&& (255 : Int32)).toInt = x.toInt8.toInt32.toInt % 256 := c_mask _ 255 8 (by decide) (by decide)
  have e3 := c_i2c (x.toInt8.toInt32 &&& (255 : Int32))
  omega
theorem own_gc (x : Int32) (h0 : 0 ≤ x.toInt) (h1 : x.toInt ≤ 65535) : (((own_hi x &&& (255 : Int32)) <<< ((0 : Int32) &&& 31)) ||| ((own_lo x &&& (255 : Int32)) <<< ((8 : Int32) &&& 31))).toUInt32.toUInt16.toUInt32.toInt32 = x := by
  have a1 : (x >>> ((0 : Int32) &&& 31)).toInt = x.toInt / 1 := c_ishr x 0 0 (by decide)
  have a2 : (x >>> ((8 : Int32) &&& 31)).toInt = x.toInt / 256 := c_ishr x 8 8 (by decide)
  have b1 := c_i2b (x >>> ((0 : Int32) &&& 31))
  have b2 := c_i2b (x >>> ((8 : Int32) &&& 31))
  have hh : own_hi x = (x >>> ((0 : Int32) &&& 31)).toInt8.toInt32 := own_bb _
  have hl : own_lo x = (x >>> ((8 : Int32) &&& 31)).toInt8.toInt32 := own_bb _
  rw [hh, hl]
  generalize (x >>> ((0 : Int32) &&& 31)).toInt8.toInt32 = p at *
  generalize (x >>> ((8 : Int32) &&& 31)).toInt8.toInt32 = q at *
  have d1 : (p &&& (255 : Int32)).toInt = p.toInt % 256 := c_mask _ 255 8 (by decide) (by decide)
  have d2 : (q &&& (255 : Int32)).toInt = q.toInt % 256 := c_mask _ 255 8 (by decide) (by decide)
  generalize p &&& (255 : Int32) = p2 at *
  generalize q &&& (255 : Int32) = q2 at *
  have f1 := c_ishl p2 0 0 (by decide)
  have f2 := c_ishl q2 8 8 (by decide)
  have r1 := rng32 (p2 <<< ((0 : Int32) &&& 31))
  have r2 := rng32 (q2 <<< ((8 : Int32) &&& 31))
  generalize p2 <<< ((0 : Int32) &&& 31) = p3 at *
  generalize q2 <<< ((8 : Int32) &&& 31) = q3 at *
  have g := c_or' p3 q3 8 (by decide) 256 (by decide) (by omega) (by omega) (by omega)
  have rg := rng32 (p3 ||| q3)
  have i := c_i2c (p3 ||| q3)
  exact Int32.toInt_inj.mp (by omega)
theorem own_csne {args : Array Value} {s : State} {C n d : String} {v : Int32} (h : (Jvm.Term.static C n d).eval args s none [] s = some (.int v)) (q : (Jvm.Cond.not (Jvm.Cond.eq (Jvm.Term.static C n d) (Jvm.Term.int 0))).value args s none s [] = some true) : v.toInt ≠ 0 := by
  intro e
  have e2 : v = 0 := Int32.toInt_inj.mp e
  subst e2
  have := not_v q
  rw [eq_i h (Term.int_eval (0)) rfl] at this
  exact absurd this (by decide)
theorem pd_0 : parseMethodDescriptor "(I)Z" = some ⟨[.int], some .boolean⟩ := by decide +kernel
theorem pd_1 : parseMethodDescriptor "(IILjava/util/function/BiFunction;)I" = some ⟨[.int, .int, (.object "java/util/function/BiFunction")], some .int⟩ := by decide +kernel
theorem pd_2 : parseMethodDescriptor "(II)V" = some ⟨[.int, .int], none⟩ := by decide +kernel
theorem pd_3 : parseMethodDescriptor "([B)I" = some ⟨[(.array .byte)], some .int⟩ := by decide +kernel
theorem pd_4 : parseMethodDescriptor "(I[B)V" = some ⟨[.int, (.array .byte)], none⟩ := by decide +kernel
theorem pd_5 : parseMethodDescriptor "([BI)C" = some ⟨[(.array .byte), .int], some .char⟩ := by decide +kernel
theorem pd_6 : parseMethodDescriptor "(I)I" = some ⟨[.int], some .int⟩ := by decide +kernel
theorem pd_7 : parseMethodDescriptor "(I)[B" = some ⟨[.int], some (.array .byte)⟩ := by decide +kernel
theorem pd_8 : parseMethodDescriptor "([BII)V" = some ⟨[(.array .byte), .int, .int], none⟩ := by decide +kernel
theorem pd_9 : parseMethodDescriptor "([CI[BII)I" = some ⟨[(.array .char), .int, (.array .byte), .int, .int], some .int⟩ := by decide +kernel
theorem pd_10 : parseMethodDescriptor "([CII)[B" = some ⟨[(.array .char), .int, .int], some (.array .byte)⟩ := by decide +kernel
theorem pd_11 : parseMethodDescriptor "([BI)B" = some ⟨[(.array .byte), .int], some .byte⟩ := by decide +kernel
theorem pd_12 : parseMethodDescriptor "([CIILjava/lang/Void;)V" = some ⟨[(.array .char), .int, .int, (.object "java/lang/Void")], none⟩ := by decide +kernel
theorem pd_13 : parseMethodDescriptor "()B" = some ⟨[], some .byte⟩ := by decide +kernel
theorem pd_14 : parseMethodDescriptor "()Z" = some ⟨[], some .boolean⟩ := by decide +kernel
theorem pd_15 : parseMethodDescriptor "(I)C" = some ⟨[.int], some .char⟩ := by decide +kernel
theorem pd_16 : parseMethodDescriptor "()I" = some ⟨[], some .int⟩ := by decide +kernel
theorem pd_17 : parseMethodDescriptor "([C)V" = some ⟨[(.array .char)], none⟩ := by decide +kernel
theorem pd_18 : parseMethodDescriptor "(Ljava/lang/String;)Z" = some ⟨[(.object "java/lang/String")], some .boolean⟩ := by decide +kernel
theorem pn2 : plainFor (⟨"com/example/hazama/hazama/model/Letters", "isStart", "(I)Z"⟩ : MethodName) = true := by first | exact plainFor_of_name (by first | (simp [plainName, overriddenIn]; done) | decide +kernel) | exact Jvm.Free.JP.mathPlain rfl (by decide +kernel) | decide +kernel
theorem d2_0 : decode prog_32_method_2_code 0 = .ok (.iload_n 0, 1) := by decide +kernel
theorem d2_1 : decode prog_32_method_2_code 1 = .ok (.bipush 97, 2) := by decide +kernel
theorem d2_3 : decode prog_32_method_2_code 3 = .ok (.if_icmp .lt 13, 3) := by decide +kernel
theorem d2_6 : decode prog_32_method_2_code 6 = .ok (.iload_n 0, 1) := by decide +kernel
theorem d2_7 : decode prog_32_method_2_code 7 = .ok (.bipush 122, 2) := by decide +kernel
theorem d2_9 : decode prog_32_method_2_code 9 = .ok (.if_icmp .gt 7, 3) := by decide +kernel
theorem d2_12 : decode prog_32_method_2_code 12 = .ok (.iconst 1, 1) := by decide +kernel
theorem d2_13 : decode prog_32_method_2_code 13 = .ok (.goto 4, 3) := by decide +kernel
theorem d2_16 : decode prog_32_method_2_code 16 = .ok (.iconst 0, 1) := by decide +kernel
theorem d2_17 : decode prog_32_method_2_code 17 = .ok (.ireturn, 1) := by decide +kernel
abbrev y2 : MethodName := (⟨"com/example/hazama/hazama/model/Letters", "isStart", "(I)Z"⟩ : MethodName)
abbrev R2 : Room := { frames := 0, cells := 0, slots := 0, locals := 0 }
set_option maxRecDepth 65536 in
set_option maxHeartbeats 4000000 in
theorem ef2 (x : Int32)  (mid : MethodId) : entryFrame mid #[(.int x)] 1 = mkF mid 0 #[.val (.int x)] [] := by first | (simp [entryFrame, mkF, argsToLocals, Value.category]; done) | rfl
set_option maxRecDepth 65536 in
set_option maxHeartbeats 40000000 in
theorem rm2 (l : Launch) (Z : State) (a0 : Array Value) (hw : ∀ d ∈ tables_1, d.before a0 Z = true) (n0 : Nat) (ws : List Jvm.Cond) (x : Int32)  (h0 : Heap) (hn0 : n0 ≤ h0.size)  :
    Ctr l Z n0 y2 prog_32_method_2_code 1 (some .boolean) ws R2 #[(.int x)] h0 (QI fun r h => (h0 = h) ∧ ((r.toInt = 1 ∧ (97 ≤ x.toInt ∧ x.toInt ≤ 122)) ∨ (r.toInt = 0 ∧ ¬ (97 ≤ x.toInt ∧ x.toInt ≤ 122)))) := by
  refine ctr_of pn2 hn0 (ef2 x) fun G A0 => ?_
  have A1 := A0.iloadN (v := x) (pc' := 1) d2_0 rfl rfl
  have A2 := A1.bipush (z := (97 : Int32)) (pc' := 3) d2_1 rfl rfl
  by_cases c3 : x.toInt < 97
  · have A4 := A2.icmpYes (pc' := 16) d2_3 (tlt (ilt (x := x) (y := (97 : Int32)) rfl rfl c3)).1 (by decide) (by decide)
    have A5 := A4.iconst (z := (0 : Int32)) (pc' := 17) d2_16 rfl rfl
    refine A5.retN (t := .boolean) (z' := (0 : Int32)) d2_17 (by decide) (by decide) (by simp) rfl ⟨_, rfl, ⟨rfl, ?_⟩⟩
    have elit : (0 : Int32).toInt = 0 := rfl
    omega
  · have A6 := A2.icmpNo (pc' := 6) d2_3 (flt (inlt (x := x) (y := (97 : Int32)) rfl rfl c3)).1 rfl
    have A7 := A6.iloadN (v := x) (pc' := 7) d2_6 rfl rfl
    have A8 := A7.bipush (z := (122 : Int32)) (pc' := 9) d2_7 rfl rfl
    by_cases c9 : 122 < x.toInt
    · have A10 := A8.icmpYes (pc' := 16) d2_9 (tlt (igt (x := x) (y := (122 : Int32)) rfl rfl c9)).2.2.1 (by decide) (by decide)
      have A11 := A10.iconst (z := (0 : Int32)) (pc' := 17) d2_16 rfl rfl
      refine A11.retN (t := .boolean) (z' := (0 : Int32)) d2_17 (by decide) (by decide) (by simp) rfl ⟨_, rfl, ⟨rfl, ?_⟩⟩
      have elit : (0 : Int32).toInt = 0 := rfl
      omega
    · have A12 := A8.icmpNo (pc' := 12) d2_9 (flt (ingt (x := x) (y := (122 : Int32)) rfl rfl c9)).2.2.1 rfl
      have A13 := A12.iconst (z := (1 : Int32)) (pc' := 13) d2_12 rfl rfl
      have A14 := A13.goto (pc' := 17) d2_13 (by decide) (by decide)
      refine A14.retN (t := .boolean) (z' := (1 : Int32)) d2_17 (by decide) (by decide) (by simp) rfl ⟨_, rfl, ⟨rfl, ?_⟩⟩
      have elit : (1 : Int32).toInt = 1 := rfl
      omega
theorem pn1 : plainFor (⟨"com/example/hazama/hazama/model/Letters", "isPart", "(I)Z"⟩ : MethodName) = true := by first | exact plainFor_of_name (by first | (simp [plainName, overriddenIn]; done) | decide +kernel) | exact Jvm.Free.JP.mathPlain rfl (by decide +kernel) | decide +kernel
theorem d1_0 : decode prog_32_method_3_code 0 = .ok (.iload_n 0, 1) := by decide +kernel
theorem d1_1 : decode prog_32_method_3_code 1 = .ok (.invokestatic 7, 3) := by decide +kernel
theorem d1_4 : decode prog_32_method_3_code 4 = .ok (.ifCond .ne 21, 3) := by decide +kernel
theorem d1_7 : decode prog_32_method_3_code 7 = .ok (.iload_n 0, 1) := by decide +kernel
theorem d1_8 : decode prog_32_method_3_code 8 = .ok (.bipush 48, 2) := by decide +kernel
theorem d1_10 : decode prog_32_method_3_code 10 = .ok (.if_icmp .lt 9, 3) := by decide +kernel
theorem d1_13 : decode prog_32_method_3_code 13 = .ok (.iload_n 0, 1) := by decide +kernel
theorem d1_14 : decode prog_32_method_3_code 14 = .ok (.bipush 57, 2) := by decide +kernel
theorem d1_16 : decode prog_32_method_3_code 16 = .ok (.if_icmp .le 9, 3) := by decide +kernel
theorem d1_19 : decode prog_32_method_3_code 19 = .ok (.iload_n 0, 1) := by decide +kernel
theorem d1_20 : decode prog_32_method_3_code 20 = .ok (.bipush 95, 2) := by decide +kernel
theorem d1_22 : decode prog_32_method_3_code 22 = .ok (.if_icmp .ne 7, 3) := by decide +kernel
theorem d1_25 : decode prog_32_method_3_code 25 = .ok (.iconst 1, 1) := by decide +kernel
theorem d1_26 : decode prog_32_method_3_code 26 = .ok (.goto 4, 3) := by decide +kernel
theorem d1_29 : decode prog_32_method_3_code 29 = .ok (.iconst 0, 1) := by decide +kernel
theorem d1_30 : decode prog_32_method_3_code 30 = .ok (.ireturn, 1) := by decide +kernel
abbrev y1 : MethodName := (⟨"com/example/hazama/hazama/model/Letters", "isPart", "(I)Z"⟩ : MethodName)
abbrev R1 : Room := { frames := 1, cells := 0, slots := 0, locals := 12 }
set_option maxRecDepth 65536 in
set_option maxHeartbeats 4000000 in
theorem ef1 (x : Int32)  (mid : MethodId) : entryFrame mid #[(.int x)] 1 = mkF mid 0 #[.val (.int x)] [] := by first | (simp [entryFrame, mkF, argsToLocals, Value.category]; done) | rfl
set_option maxRecDepth 65536 in
set_option maxHeartbeats 40000000 in
theorem rm1 (l : Launch) (Z : State) (a0 : Array Value) (hw : ∀ d ∈ tables_1, d.before a0 Z = true) (n0 : Nat) (ws : List Jvm.Cond) (x : Int32)  (h0 : Heap) (hn0 : n0 ≤ h0.size)  :
    Ctr l Z n0 y1 prog_32_method_3_code 1 (some .boolean) ws R1 #[(.int x)] h0 (QI fun r h => (h0 = h) ∧ ((r.toInt = 1 ∧ ((97 ≤ x.toInt ∧ x.toInt ≤ 122) ∨ (48 ≤ x.toInt ∧ x.toInt ≤ 57) ∨ x.toInt = 95)) ∨ (r.toInt = 0 ∧ ¬ ((97 ≤ x.toInt ∧ x.toInt ≤ 122) ∨ (48 ≤ x.toInt ∧ x.toInt ≤ 57) ∨ x.toInt = 95)))) := by
  refine ctr_of pn1 hn0 (ef1 x) fun G A0 => ?_
  have A1 := A0.iloadN (v := x) (pc' := 1) d1_0 rfl rfl
  obtain ⟨r3, _, ⟨rfl, q4⟩, A2⟩ := W.kI (A1.callS (argsL := [(.int x)]) (rest := []) (C' := 0) (S' := 0) (pc' := 4) d1_1 (hw _ (List.mem_of_getElem? (i := 4) rfl)) (hw _ (List.mem_of_getElem? (i := 5) rfl)) (hw _ (List.mem_of_getElem? (i := 2) rfl)) (hw _ (List.mem_of_getElem? (i := 6) rfl)) (rm2 l Z a0 hw n0 [] (x)  h0 A1.size ) rfl rfl pd_0 rfl rfl (by decide) (by decide) (Nat.le_of_ble_eq_true rfl) (by decide) (by decide) rfl rfl rfl)
  by_cases c6 : r3.toInt = 0
  · have A7 := A2.ifNo (pc' := 7) d1_4 (teq (ieq (x := r3) (y := (0 : Int32)) rfl rfl c6)).2 rfl
    have A8 := A7.iloadN (v := x) (pc' := 8) d1_7 rfl rfl
    have A9 := A8.bipush (z := (48 : Int32)) (pc' := 10) d1_8 rfl rfl
    by_cases c10 : x.toInt < 48
    · have A11 := A9.icmpYes (pc' := 19) d1_10 (tlt (ilt (x := x) (y := (48 : Int32)) rfl rfl c10)).1 (by decide) (by decide)
      have A12 := A11.iloadN (v := x) (pc' := 20) d1_19 rfl rfl
      have A13 := A12.bipush (z := (95 : Int32)) (pc' := 22) d1_20 rfl rfl
      by_cases c14 : x.toInt = 95
      · have A15 := A13.icmpNo (pc' := 25) d1_22 (teq (ieq (x := x) (y := (95 : Int32)) rfl rfl c14)).2 rfl
        have A16 := A15.iconst (z := (1 : Int32)) (pc' := 26) d1_25 rfl rfl
        have A17 := A16.goto (pc' := 30) d1_26 (by decide) (by decide)
        refine A17.retN (t := .boolean) (z' := (1 : Int32)) d1_30 (by decide) (by decide) (by simp) rfl ⟨_, rfl, ⟨rfl, ?_⟩⟩
        have elit : (1 : Int32).toInt = 1 := rfl
        omega
      · have A18 := A13.icmpYes (pc' := 29) d1_22 (feq (ine (x := x) (y := (95 : Int32)) rfl rfl c14)).2 (by decide) (by decide)
        have A19 := A18.iconst (z := (0 : Int32)) (pc' := 30) d1_29 rfl rfl
        refine A19.retN (t := .boolean) (z' := (0 : Int32)) d1_30 (by decide) (by decide) (by simp) rfl ⟨_, rfl, ⟨rfl, ?_⟩⟩
        have elit : (0 : Int32).toInt = 0 := rfl
        omega
    · have A20 := A9.icmpNo (pc' := 13) d1_10 (flt (inlt (x := x) (y := (48 : Int32)) rfl rfl c10)).1 rfl
      have A21 := A20.iloadN (v := x) (pc' := 14) d1_13 rfl rfl
      have A22 := A21.bipush (z := (57 : Int32)) (pc' := 16) d1_14 rfl rfl
      by_cases c23 : 57 < x.toInt
      · have A24 := A22.icmpNo (pc' := 19) d1_16 (tlt (igt (x := x) (y := (57 : Int32)) rfl rfl c23)).2.2.2 rfl
        have A25 := A24.iloadN (v := x) (pc' := 20) d1_19 rfl rfl
        have A26 := A25.bipush (z := (95 : Int32)) (pc' := 22) d1_20 rfl rfl
        by_cases c27 : x.toInt = 95
        · have A28 := A26.icmpNo (pc' := 25) d1_22 (teq (ieq (x := x) (y := (95 : Int32)) rfl rfl c27)).2 rfl
          have A29 := A28.iconst (z := (1 : Int32)) (pc' := 26) d1_25 rfl rfl
          have A30 := A29.goto (pc' := 30) d1_26 (by decide) (by decide)
          refine A30.retN (t := .boolean) (z' := (1 : Int32)) d1_30 (by decide) (by decide) (by simp) rfl ⟨_, rfl, ⟨rfl, ?_⟩⟩
          have elit : (1 : Int32).toInt = 1 := rfl
          omega
        · have A31 := A26.icmpYes (pc' := 29) d1_22 (feq (ine (x := x) (y := (95 : Int32)) rfl rfl c27)).2 (by decide) (by decide)
          have A32 := A31.iconst (z := (0 : Int32)) (pc' := 30) d1_29 rfl rfl
          refine A32.retN (t := .boolean) (z' := (0 : Int32)) d1_30 (by decide) (by decide) (by simp) rfl ⟨_, rfl, ⟨rfl, ?_⟩⟩
          have elit : (0 : Int32).toInt = 0 := rfl
          omega
      · have A33 := A22.icmpYes (pc' := 25) d1_16 (flt (ingt (x := x) (y := (57 : Int32)) rfl rfl c23)).2.2.2 (by decide) (by decide)
        have A34 := A33.iconst (z := (1 : Int32)) (pc' := 26) d1_25 rfl rfl
        have A35 := A34.goto (pc' := 30) d1_26 (by decide) (by decide)
        refine A35.retN (t := .boolean) (z' := (1 : Int32)) d1_30 (by decide) (by decide) (by simp) rfl ⟨_, rfl, ⟨rfl, ?_⟩⟩
        have elit : (1 : Int32).toInt = 1 := rfl
        omega
  · have A36 := A2.ifYes (pc' := 25) d1_4 (feq (ine (x := r3) (y := (0 : Int32)) rfl rfl c6)).2 (by decide) (by decide)
    have A37 := A36.iconst (z := (1 : Int32)) (pc' := 26) d1_25 rfl rfl
    have A38 := A37.goto (pc' := 30) d1_26 (by decide) (by decide)
    refine A38.retN (t := .boolean) (z' := (1 : Int32)) d1_30 (by decide) (by decide) (by simp) rfl ⟨_, rfl, ⟨rfl, ?_⟩⟩
    have elit : (1 : Int32).toInt = 1 := rfl
    omega
theorem pn3 : plainFor (⟨"com/example/hazama/hazama/model/LettersIsPartPinLaw", "spec", "(I)Z"⟩ : MethodName) = true := by first | exact plainFor_of_name (by first | (simp [plainName, overriddenIn]; done) | decide +kernel) | exact Jvm.Free.JP.mathPlain rfl (by decide +kernel) | decide +kernel
theorem d3_0 : decode method_2_code 0 = .ok (.iload_n 0, 1) := by decide +kernel
theorem d3_1 : decode method_2_code 1 = .ok (.bipush 48, 2) := by decide +kernel
theorem d3_3 : decode method_2_code 3 = .ok (.if_icmp .lt 13, 3) := by decide +kernel
theorem d3_6 : decode method_2_code 6 = .ok (.iload_n 0, 1) := by decide +kernel
theorem d3_7 : decode method_2_code 7 = .ok (.bipush 58, 2) := by decide +kernel
theorem d3_9 : decode method_2_code 9 = .ok (.if_icmp .ge 7, 3) := by decide +kernel
theorem d3_12 : decode method_2_code 12 = .ok (.iconst 1, 1) := by decide +kernel
theorem d3_13 : decode method_2_code 13 = .ok (.goto 4, 3) := by decide +kernel
theorem d3_16 : decode method_2_code 16 = .ok (.iconst 0, 1) := by decide +kernel
theorem d3_17 : decode method_2_code 17 = .ok (.istore_n 1, 1) := by decide +kernel
theorem d3_18 : decode method_2_code 18 = .ok (.iload_n 0, 1) := by decide +kernel
theorem d3_19 : decode method_2_code 19 = .ok (.bipush 95, 2) := by decide +kernel
theorem d3_21 : decode method_2_code 21 = .ok (.if_icmp .ne 7, 3) := by decide +kernel
theorem d3_24 : decode method_2_code 24 = .ok (.iconst 1, 1) := by decide +kernel
theorem d3_25 : decode method_2_code 25 = .ok (.goto 4, 3) := by decide +kernel
theorem d3_28 : decode method_2_code 28 = .ok (.iconst 0, 1) := by decide +kernel
theorem d3_29 : decode method_2_code 29 = .ok (.istore_n 2, 1) := by decide +kernel
theorem d3_30 : decode method_2_code 30 = .ok (.iload_n 0, 1) := by decide +kernel
theorem d3_31 : decode method_2_code 31 = .ok (.bipush 97, 2) := by decide +kernel
theorem d3_33 : decode method_2_code 33 = .ok (.if_icmp .lt 13, 3) := by decide +kernel
theorem d3_36 : decode method_2_code 36 = .ok (.iload_n 0, 1) := by decide +kernel
theorem d3_37 : decode method_2_code 37 = .ok (.bipush 123, 2) := by decide +kernel
theorem d3_39 : decode method_2_code 39 = .ok (.if_icmp .ge 7, 3) := by decide +kernel
theorem d3_42 : decode method_2_code 42 = .ok (.iconst 1, 1) := by decide +kernel
theorem d3_43 : decode method_2_code 43 = .ok (.goto 4, 3) := by decide +kernel
theorem d3_46 : decode method_2_code 46 = .ok (.iconst 0, 1) := by decide +kernel
theorem d3_47 : decode method_2_code 47 = .ok (.istore_n 3, 1) := by decide +kernel
theorem d3_48 : decode method_2_code 48 = .ok (.iload_n 1, 1) := by decide +kernel
theorem d3_49 : decode method_2_code 49 = .ok (.ifCond .ne 11, 3) := by decide +kernel
theorem d3_52 : decode method_2_code 52 = .ok (.iload_n 2, 1) := by decide +kernel
theorem d3_53 : decode method_2_code 53 = .ok (.ifCond .ne 7, 3) := by decide +kernel
theorem d3_56 : decode method_2_code 56 = .ok (.iload_n 3, 1) := by decide +kernel
theorem d3_57 : decode method_2_code 57 = .ok (.ifCond .eq 7, 3) := by decide +kernel
theorem d3_60 : decode method_2_code 60 = .ok (.iconst 1, 1) := by decide +kernel
theorem d3_61 : decode method_2_code 61 = .ok (.goto 4, 3) := by decide +kernel
theorem d3_64 : decode method_2_code 64 = .ok (.iconst 0, 1) := by decide +kernel
theorem d3_65 : decode method_2_code 65 = .ok (.ireturn, 1) := by decide +kernel
abbrev y3 : MethodName := (⟨"com/example/hazama/hazama/model/LettersIsPartPinLaw", "spec", "(I)Z"⟩ : MethodName)
abbrev R3 : Room := { frames := 0, cells := 0, slots := 0, locals := 0 }
set_option maxRecDepth 65536 in
set_option maxHeartbeats 4000000 in
theorem ef3 (x : Int32)  (mid : MethodId) : entryFrame mid #[(.int x)] 4 = mkF mid 0 #[.val (.int x), .unset, .unset, .unset] [] := by first | (simp [entryFrame, mkF, argsToLocals, Value.category]; done) | rfl
set_option maxRecDepth 65536 in
set_option maxHeartbeats 40000000 in
theorem rm3 (l : Launch) (Z : State) (a0 : Array Value) (hw : ∀ d ∈ tables_1, d.before a0 Z = true) (n0 : Nat) (ws : List Jvm.Cond) (x : Int32)  (h0 : Heap) (hn0 : n0 ≤ h0.size)  :
    Ctr l Z n0 y3 method_2_code 4 (some .boolean) ws R3 #[(.int x)] h0 (QI fun r h => (h0 = h) ∧ ((r.toInt = 1 ∧ ((97 ≤ x.toInt ∧ x.toInt ≤ 122) ∨ (48 ≤ x.toInt ∧ x.toInt ≤ 57) ∨ x.toInt = 95)) ∨ (r.toInt = 0 ∧ ¬ ((97 ≤ x.toInt ∧ x.toInt ≤ 122) ∨ (48 ≤ x.toInt ∧ x.toInt ≤ 57) ∨ x.toInt = 95)))) := by
  refine ctr_of pn3 hn0 (ef3 x) fun G A0 => ?_
  have A1 := A0.iloadN (v := x) (pc' := 1) d3_0 rfl rfl
  have A2 := A1.bipush (z := (48 : Int32)) (pc' := 3) d3_1 rfl rfl
  by_cases c3 : x.toInt < 48
  · have A4 := A2.icmpYes (pc' := 16) d3_3 (tlt (ilt (x := x) (y := (48 : Int32)) rfl rfl c3)).1 (by decide) (by decide)
    have A5 := A4.iconst (z := (0 : Int32)) (pc' := 17) d3_16 rfl rfl
    have A6 := A5.istoreN (Ls' := #[.val (.int x), .val (.int (0 : Int32)), .unset, .unset]) (pc' := 18) d3_17 rfl rfl
    have A7 := A6.iloadN (v := x) (pc' := 19) d3_18 rfl rfl
    have A8 := A7.bipush (z := (95 : Int32)) (pc' := 21) d3_19 rfl rfl
    by_cases c9 : x.toInt = 95
    · have A10 := A8.icmpNo (pc' := 24) d3_21 (teq (ieq (x := x) (y := (95 : Int32)) rfl rfl c9)).2 rfl
      have A11 := A10.iconst (z := (1 : Int32)) (pc' := 25) d3_24 rfl rfl
      have A12 := A11.goto (pc' := 29) d3_25 (by decide) (by decide)
      have A13 := A12.istoreN (Ls' := #[.val (.int x), .val (.int (0 : Int32)), .val (.int (1 : Int32)), .unset]) (pc' := 30) d3_29 rfl rfl
      have A14 := A13.iloadN (v := x) (pc' := 31) d3_30 rfl rfl
      have A15 := A14.bipush (z := (97 : Int32)) (pc' := 33) d3_31 rfl rfl
      by_cases c16 : x.toInt < 97
      · have A17 := A15.icmpYes (pc' := 46) d3_33 (tlt (ilt (x := x) (y := (97 : Int32)) rfl rfl c16)).1 (by decide) (by decide)
        have A18 := A17.iconst (z := (0 : Int32)) (pc' := 47) d3_46 rfl rfl
        have A19 := A18.istoreN (Ls' := #[.val (.int x), .val (.int (0 : Int32)), .val (.int (1 : Int32)), .val (.int (0 : Int32))]) (pc' := 48) d3_47 rfl rfl
        have A20 := A19.iloadN (v := (0 : Int32)) (pc' := 49) d3_48 rfl rfl
        have A22 := A20.ifNo (pc' := 52) d3_49 (teq (ieq (x := (0 : Int32)) (y := (0 : Int32)) rfl rfl (by decide : (0 : Int) = 0))).2 rfl
        have A23 := A22.iloadN (v := (1 : Int32)) (pc' := 53) d3_52 rfl rfl
        have A25 := A23.ifYes (pc' := 60) d3_53 (feq (ine (x := (1 : Int32)) (y := (0 : Int32)) rfl rfl (by decide : ¬ ((1 : Int) = 0)))).2 (by decide) (by decide)
        have A26 := A25.iconst (z := (1 : Int32)) (pc' := 61) d3_60 rfl rfl
        have A27 := A26.goto (pc' := 65) d3_61 (by decide) (by decide)
        refine A27.retN (t := .boolean) (z' := (1 : Int32)) d3_65 (by decide) (by decide) (by simp) rfl ⟨_, rfl, ⟨rfl, ?_⟩⟩
        have elit : (1 : Int32).toInt = 1 := rfl
        omega
      · have A28 := A15.icmpNo (pc' := 36) d3_33 (flt (inlt (x := x) (y := (97 : Int32)) rfl rfl c16)).1 rfl
        have A29 := A28.iloadN (v := x) (pc' := 37) d3_36 rfl rfl
        have A30 := A29.bipush (z := (123 : Int32)) (pc' := 39) d3_37 rfl rfl
        by_cases c31 : x.toInt < 123
        · have A32 := A30.icmpNo (pc' := 42) d3_39 (tlt (ilt (x := x) (y := (123 : Int32)) rfl rfl c31)).2.1 rfl
          have A33 := A32.iconst (z := (1 : Int32)) (pc' := 43) d3_42 rfl rfl
          have A34 := A33.goto (pc' := 47) d3_43 (by decide) (by decide)
          have A35 := A34.istoreN (Ls' := #[.val (.int x), .val (.int (0 : Int32)), .val (.int (1 : Int32)), .val (.int (1 : Int32))]) (pc' := 48) d3_47 rfl rfl
          have A36 := A35.iloadN (v := (0 : Int32)) (pc' := 49) d3_48 rfl rfl
          have A38 := A36.ifNo (pc' := 52) d3_49 (teq (ieq (x := (0 : Int32)) (y := (0 : Int32)) rfl rfl (by decide : (0 : Int) = 0))).2 rfl
          have A39 := A38.iloadN (v := (1 : Int32)) (pc' := 53) d3_52 rfl rfl
          have A41 := A39.ifYes (pc' := 60) d3_53 (feq (ine (x := (1 : Int32)) (y := (0 : Int32)) rfl rfl (by decide : ¬ ((1 : Int) = 0)))).2 (by decide) (by decide)
          have A42 := A41.iconst (z := (1 : Int32)) (pc' := 61) d3_60 rfl rfl
          have A43 := A42.goto (pc' := 65) d3_61 (by decide) (by decide)
          refine A43.retN (t := .boolean) (z' := (1 : Int32)) d3_65 (by decide) (by decide) (by simp) rfl ⟨_, rfl, ⟨rfl, ?_⟩⟩
          have elit : (1 : Int32).toInt = 1 := rfl
          omega
        · have A44 := A30.icmpYes (pc' := 46) d3_39 (flt (inlt (x := x) (y := (123 : Int32)) rfl rfl c31)).2.1 (by decide) (by decide)
          have A45 := A44.iconst (z := (0 : Int32)) (pc' := 47) d3_46 rfl rfl
          have A46 := A45.istoreN (Ls' := #[.val (.int x), .val (.int (0 : Int32)), .val (.int (1 : Int32)), .val (.int (0 : Int32))]) (pc' := 48) d3_47 rfl rfl
          have A47 := A46.iloadN (v := (0 : Int32)) (pc' := 49) d3_48 rfl rfl
          have A49 := A47.ifNo (pc' := 52) d3_49 (teq (ieq (x := (0 : Int32)) (y := (0 : Int32)) rfl rfl (by decide : (0 : Int) = 0))).2 rfl
          have A50 := A49.iloadN (v := (1 : Int32)) (pc' := 53) d3_52 rfl rfl
          have A52 := A50.ifYes (pc' := 60) d3_53 (feq (ine (x := (1 : Int32)) (y := (0 : Int32)) rfl rfl (by decide : ¬ ((1 : Int) = 0)))).2 (by decide) (by decide)
          have A53 := A52.iconst (z := (1 : Int32)) (pc' := 61) d3_60 rfl rfl
          have A54 := A53.goto (pc' := 65) d3_61 (by decide) (by decide)
          refine A54.retN (t := .boolean) (z' := (1 : Int32)) d3_65 (by decide) (by decide) (by simp) rfl ⟨_, rfl, ⟨rfl, ?_⟩⟩
          have elit : (1 : Int32).toInt = 1 := rfl
          omega
    · have A55 := A8.icmpYes (pc' := 28) d3_21 (feq (ine (x := x) (y := (95 : Int32)) rfl rfl c9)).2 (by decide) (by decide)
      have A56 := A55.iconst (z := (0 : Int32)) (pc' := 29) d3_28 rfl rfl
      have A57 := A56.istoreN (Ls' := #[.val (.int x), .val (.int (0 : Int32)), .val (.int (0 : Int32)), .unset]) (pc' := 30) d3_29 rfl rfl
      have A58 := A57.iloadN (v := x) (pc' := 31) d3_30 rfl rfl
      have A59 := A58.bipush (z := (97 : Int32)) (pc' := 33) d3_31 rfl rfl
      by_cases c60 : x.toInt < 97
      · have A61 := A59.icmpYes (pc' := 46) d3_33 (tlt (ilt (x := x) (y := (97 : Int32)) rfl rfl c60)).1 (by decide) (by decide)
        have A62 := A61.iconst (z := (0 : Int32)) (pc' := 47) d3_46 rfl rfl
        have A63 := A62.istoreN (Ls' := #[.val (.int x), .val (.int (0 : Int32)), .val (.int (0 : Int32)), .val (.int (0 : Int32))]) (pc' := 48) d3_47 rfl rfl
        have A64 := A63.iloadN (v := (0 : Int32)) (pc' := 49) d3_48 rfl rfl
        have A66 := A64.ifNo (pc' := 52) d3_49 (teq (ieq (x := (0 : Int32)) (y := (0 : Int32)) rfl rfl (by decide : (0 : Int) = 0))).2 rfl
        have A67 := A66.iloadN (v := (0 : Int32)) (pc' := 53) d3_52 rfl rfl
        have A69 := A67.ifNo (pc' := 56) d3_53 (teq (ieq (x := (0 : Int32)) (y := (0 : Int32)) rfl rfl (by decide : (0 : Int) = 0))).2 rfl
        have A70 := A69.iloadN (v := (0 : Int32)) (pc' := 57) d3_56 rfl rfl
        have A72 := A70.ifYes (pc' := 64) d3_57 (teq (ieq (x := (0 : Int32)) (y := (0 : Int32)) rfl rfl (by decide : (0 : Int) = 0))).1 (by decide) (by decide)
        have A73 := A72.iconst (z := (0 : Int32)) (pc' := 65) d3_64 rfl rfl
        refine A73.retN (t := .boolean) (z' := (0 : Int32)) d3_65 (by decide) (by decide) (by simp) rfl ⟨_, rfl, ⟨rfl, ?_⟩⟩
        have elit : (0 : Int32).toInt = 0 := rfl
        omega
      · have A74 := A59.icmpNo (pc' := 36) d3_33 (flt (inlt (x := x) (y := (97 : Int32)) rfl rfl c60)).1 rfl
        have A75 := A74.iloadN (v := x) (pc' := 37) d3_36 rfl rfl
        have A76 := A75.bipush (z := (123 : Int32)) (pc' := 39) d3_37 rfl rfl
        by_cases c77 : x.toInt < 123
        · have A78 := A76.icmpNo (pc' := 42) d3_39 (tlt (ilt (x := x) (y := (123 : Int32)) rfl rfl c77)).2.1 rfl
          have A79 := A78.iconst (z := (1 : Int32)) (pc' := 43) d3_42 rfl rfl
          have A80 := A79.goto (pc' := 47) d3_43 (by decide) (by decide)
          have A81 := A80.istoreN (Ls' := #[.val (.int x), .val (.int (0 : Int32)), .val (.int (0 : Int32)), .val (.int (1 : Int32))]) (pc' := 48) d3_47 rfl rfl
          have A82 := A81.iloadN (v := (0 : Int32)) (pc' := 49) d3_48 rfl rfl
          have A84 := A82.ifNo (pc' := 52) d3_49 (teq (ieq (x := (0 : Int32)) (y := (0 : Int32)) rfl rfl (by decide : (0 : Int) = 0))).2 rfl
          have A85 := A84.iloadN (v := (0 : Int32)) (pc' := 53) d3_52 rfl rfl
          have A87 := A85.ifNo (pc' := 56) d3_53 (teq (ieq (x := (0 : Int32)) (y := (0 : Int32)) rfl rfl (by decide : (0 : Int) = 0))).2 rfl
          have A88 := A87.iloadN (v := (1 : Int32)) (pc' := 57) d3_56 rfl rfl
          have A90 := A88.ifNo (pc' := 60) d3_57 (feq (ine (x := (1 : Int32)) (y := (0 : Int32)) rfl rfl (by decide : ¬ ((1 : Int) = 0)))).1 rfl
          have A91 := A90.iconst (z := (1 : Int32)) (pc' := 61) d3_60 rfl rfl
          have A92 := A91.goto (pc' := 65) d3_61 (by decide) (by decide)
          refine A92.retN (t := .boolean) (z' := (1 : Int32)) d3_65 (by decide) (by decide) (by simp) rfl ⟨_, rfl, ⟨rfl, ?_⟩⟩
          have elit : (1 : Int32).toInt = 1 := rfl
          omega
        · have A93 := A76.icmpYes (pc' := 46) d3_39 (flt (inlt (x := x) (y := (123 : Int32)) rfl rfl c77)).2.1 (by decide) (by decide)
          have A94 := A93.iconst (z := (0 : Int32)) (pc' := 47) d3_46 rfl rfl
          have A95 := A94.istoreN (Ls' := #[.val (.int x), .val (.int (0 : Int32)), .val (.int (0 : Int32)), .val (.int (0 : Int32))]) (pc' := 48) d3_47 rfl rfl
          have A96 := A95.iloadN (v := (0 : Int32)) (pc' := 49) d3_48 rfl rfl
          have A98 := A96.ifNo (pc' := 52) d3_49 (teq (ieq (x := (0 : Int32)) (y := (0 : Int32)) rfl rfl (by decide : (0 : Int) = 0))).2 rfl
          have A99 := A98.iloadN (v := (0 : Int32)) (pc' := 53) d3_52 rfl rfl
          have A101 := A99.ifNo (pc' := 56) d3_53 (teq (ieq (x := (0 : Int32)) (y := (0 : Int32)) rfl rfl (by decide : (0 : Int) = 0))).2 rfl
          have A102 := A101.iloadN (v := (0 : Int32)) (pc' := 57) d3_56 rfl rfl
          have A104 := A102.ifYes (pc' := 64) d3_57 (teq (ieq (x := (0 : Int32)) (y := (0 : Int32)) rfl rfl (by decide : (0 : Int) = 0))).1 (by decide) (by decide)
          have A105 := A104.iconst (z := (0 : Int32)) (pc' := 65) d3_64 rfl rfl
          refine A105.retN (t := .boolean) (z' := (0 : Int32)) d3_65 (by decide) (by decide) (by simp) rfl ⟨_, rfl, ⟨rfl, ?_⟩⟩
          have elit : (0 : Int32).toInt = 0 := rfl
          omega
  · have A106 := A2.icmpNo (pc' := 6) d3_3 (flt (inlt (x := x) (y := (48 : Int32)) rfl rfl c3)).1 rfl
    have A107 := A106.iloadN (v := x) (pc' := 7) d3_6 rfl rfl
    have A108 := A107.bipush (z := (58 : Int32)) (pc' := 9) d3_7 rfl rfl
    by_cases c109 : x.toInt < 58
    · have A110 := A108.icmpNo (pc' := 12) d3_9 (tlt (ilt (x := x) (y := (58 : Int32)) rfl rfl c109)).2.1 rfl
      have A111 := A110.iconst (z := (1 : Int32)) (pc' := 13) d3_12 rfl rfl
      have A112 := A111.goto (pc' := 17) d3_13 (by decide) (by decide)
      have A113 := A112.istoreN (Ls' := #[.val (.int x), .val (.int (1 : Int32)), .unset, .unset]) (pc' := 18) d3_17 rfl rfl
      have A114 := A113.iloadN (v := x) (pc' := 19) d3_18 rfl rfl
      have A115 := A114.bipush (z := (95 : Int32)) (pc' := 21) d3_19 rfl rfl
      by_cases c116 : x.toInt = 95
      · have A117 := A115.icmpNo (pc' := 24) d3_21 (teq (ieq (x := x) (y := (95 : Int32)) rfl rfl c116)).2 rfl
        have A118 := A117.iconst (z := (1 : Int32)) (pc' := 25) d3_24 rfl rfl
        have A119 := A118.goto (pc' := 29) d3_25 (by decide) (by decide)
        have A120 := A119.istoreN (Ls' := #[.val (.int x), .val (.int (1 : Int32)), .val (.int (1 : Int32)), .unset]) (pc' := 30) d3_29 rfl rfl
        have A121 := A120.iloadN (v := x) (pc' := 31) d3_30 rfl rfl
        have A122 := A121.bipush (z := (97 : Int32)) (pc' := 33) d3_31 rfl rfl
        by_cases c123 : x.toInt < 97
        · have A124 := A122.icmpYes (pc' := 46) d3_33 (tlt (ilt (x := x) (y := (97 : Int32)) rfl rfl c123)).1 (by decide) (by decide)
          have A125 := A124.iconst (z := (0 : Int32)) (pc' := 47) d3_46 rfl rfl
          have A126 := A125.istoreN (Ls' := #[.val (.int x), .val (.int (1 : Int32)), .val (.int (1 : Int32)), .val (.int (0 : Int32))]) (pc' := 48) d3_47 rfl rfl
          have A127 := A126.iloadN (v := (1 : Int32)) (pc' := 49) d3_48 rfl rfl
          have A129 := A127.ifYes (pc' := 60) d3_49 (feq (ine (x := (1 : Int32)) (y := (0 : Int32)) rfl rfl (by decide : ¬ ((1 : Int) = 0)))).2 (by decide) (by decide)
          have A130 := A129.iconst (z := (1 : Int32)) (pc' := 61) d3_60 rfl rfl
          have A131 := A130.goto (pc' := 65) d3_61 (by decide) (by decide)
          refine A131.retN (t := .boolean) (z' := (1 : Int32)) d3_65 (by decide) (by decide) (by simp) rfl ⟨_, rfl, ⟨rfl, ?_⟩⟩
          have elit : (1 : Int32).toInt = 1 := rfl
          omega
        · have A132 := A122.icmpNo (pc' := 36) d3_33 (flt (inlt (x := x) (y := (97 : Int32)) rfl rfl c123)).1 rfl
          have A133 := A132.iloadN (v := x) (pc' := 37) d3_36 rfl rfl
          have A134 := A133.bipush (z := (123 : Int32)) (pc' := 39) d3_37 rfl rfl
          by_cases c135 : x.toInt < 123
          · have A136 := A134.icmpNo (pc' := 42) d3_39 (tlt (ilt (x := x) (y := (123 : Int32)) rfl rfl c135)).2.1 rfl
            have A137 := A136.iconst (z := (1 : Int32)) (pc' := 43) d3_42 rfl rfl
            have A138 := A137.goto (pc' := 47) d3_43 (by decide) (by decide)
            have A139 := A138.istoreN (Ls' := #[.val (.int x), .val (.int (1 : Int32)), .val (.int (1 : Int32)), .val (.int (1 : Int32))]) (pc' := 48) d3_47 rfl rfl
            have A140 := A139.iloadN (v := (1 : Int32)) (pc' := 49) d3_48 rfl rfl
            have A142 := A140.ifYes (pc' := 60) d3_49 (feq (ine (x := (1 : Int32)) (y := (0 : Int32)) rfl rfl (by decide : ¬ ((1 : Int) = 0)))).2 (by decide) (by decide)
            have A143 := A142.iconst (z := (1 : Int32)) (pc' := 61) d3_60 rfl rfl
            have A144 := A143.goto (pc' := 65) d3_61 (by decide) (by decide)
            refine A144.retN (t := .boolean) (z' := (1 : Int32)) d3_65 (by decide) (by decide) (by simp) rfl ⟨_, rfl, ⟨rfl, ?_⟩⟩
            have elit : (1 : Int32).toInt = 1 := rfl
            omega
          · have A145 := A134.icmpYes (pc' := 46) d3_39 (flt (inlt (x := x) (y := (123 : Int32)) rfl rfl c135)).2.1 (by decide) (by decide)
            have A146 := A145.iconst (z := (0 : Int32)) (pc' := 47) d3_46 rfl rfl
            have A147 := A146.istoreN (Ls' := #[.val (.int x), .val (.int (1 : Int32)), .val (.int (1 : Int32)), .val (.int (0 : Int32))]) (pc' := 48) d3_47 rfl rfl
            have A148 := A147.iloadN (v := (1 : Int32)) (pc' := 49) d3_48 rfl rfl
            have A150 := A148.ifYes (pc' := 60) d3_49 (feq (ine (x := (1 : Int32)) (y := (0 : Int32)) rfl rfl (by decide : ¬ ((1 : Int) = 0)))).2 (by decide) (by decide)
            have A151 := A150.iconst (z := (1 : Int32)) (pc' := 61) d3_60 rfl rfl
            have A152 := A151.goto (pc' := 65) d3_61 (by decide) (by decide)
            refine A152.retN (t := .boolean) (z' := (1 : Int32)) d3_65 (by decide) (by decide) (by simp) rfl ⟨_, rfl, ⟨rfl, ?_⟩⟩
            have elit : (1 : Int32).toInt = 1 := rfl
            omega
      · have A153 := A115.icmpYes (pc' := 28) d3_21 (feq (ine (x := x) (y := (95 : Int32)) rfl rfl c116)).2 (by decide) (by decide)
        have A154 := A153.iconst (z := (0 : Int32)) (pc' := 29) d3_28 rfl rfl
        have A155 := A154.istoreN (Ls' := #[.val (.int x), .val (.int (1 : Int32)), .val (.int (0 : Int32)), .unset]) (pc' := 30) d3_29 rfl rfl
        have A156 := A155.iloadN (v := x) (pc' := 31) d3_30 rfl rfl
        have A157 := A156.bipush (z := (97 : Int32)) (pc' := 33) d3_31 rfl rfl
        by_cases c158 : x.toInt < 97
        · have A159 := A157.icmpYes (pc' := 46) d3_33 (tlt (ilt (x := x) (y := (97 : Int32)) rfl rfl c158)).1 (by decide) (by decide)
          have A160 := A159.iconst (z := (0 : Int32)) (pc' := 47) d3_46 rfl rfl
          have A161 := A160.istoreN (Ls' := #[.val (.int x), .val (.int (1 : Int32)), .val (.int (0 : Int32)), .val (.int (0 : Int32))]) (pc' := 48) d3_47 rfl rfl
          have A162 := A161.iloadN (v := (1 : Int32)) (pc' := 49) d3_48 rfl rfl
          have A164 := A162.ifYes (pc' := 60) d3_49 (feq (ine (x := (1 : Int32)) (y := (0 : Int32)) rfl rfl (by decide : ¬ ((1 : Int) = 0)))).2 (by decide) (by decide)
          have A165 := A164.iconst (z := (1 : Int32)) (pc' := 61) d3_60 rfl rfl
          have A166 := A165.goto (pc' := 65) d3_61 (by decide) (by decide)
          refine A166.retN (t := .boolean) (z' := (1 : Int32)) d3_65 (by decide) (by decide) (by simp) rfl ⟨_, rfl, ⟨rfl, ?_⟩⟩
          have elit : (1 : Int32).toInt = 1 := rfl
          omega
        · have A167 := A157.icmpNo (pc' := 36) d3_33 (flt (inlt (x := x) (y := (97 : Int32)) rfl rfl c158)).1 rfl
          have A168 := A167.iloadN (v := x) (pc' := 37) d3_36 rfl rfl
          have A169 := A168.bipush (z := (123 : Int32)) (pc' := 39) d3_37 rfl rfl
          by_cases c170 : x.toInt < 123
          · have A171 := A169.icmpNo (pc' := 42) d3_39 (tlt (ilt (x := x) (y := (123 : Int32)) rfl rfl c170)).2.1 rfl
            have A172 := A171.iconst (z := (1 : Int32)) (pc' := 43) d3_42 rfl rfl
            have A173 := A172.goto (pc' := 47) d3_43 (by decide) (by decide)
            have A174 := A173.istoreN (Ls' := #[.val (.int x), .val (.int (1 : Int32)), .val (.int (0 : Int32)), .val (.int (1 : Int32))]) (pc' := 48) d3_47 rfl rfl
            have A175 := A174.iloadN (v := (1 : Int32)) (pc' := 49) d3_48 rfl rfl
            have A177 := A175.ifYes (pc' := 60) d3_49 (feq (ine (x := (1 : Int32)) (y := (0 : Int32)) rfl rfl (by decide : ¬ ((1 : Int) = 0)))).2 (by decide) (by decide)
            have A178 := A177.iconst (z := (1 : Int32)) (pc' := 61) d3_60 rfl rfl
            have A179 := A178.goto (pc' := 65) d3_61 (by decide) (by decide)
            refine A179.retN (t := .boolean) (z' := (1 : Int32)) d3_65 (by decide) (by decide) (by simp) rfl ⟨_, rfl, ⟨rfl, ?_⟩⟩
            have elit : (1 : Int32).toInt = 1 := rfl
            omega
          · have A180 := A169.icmpYes (pc' := 46) d3_39 (flt (inlt (x := x) (y := (123 : Int32)) rfl rfl c170)).2.1 (by decide) (by decide)
            have A181 := A180.iconst (z := (0 : Int32)) (pc' := 47) d3_46 rfl rfl
            have A182 := A181.istoreN (Ls' := #[.val (.int x), .val (.int (1 : Int32)), .val (.int (0 : Int32)), .val (.int (0 : Int32))]) (pc' := 48) d3_47 rfl rfl
            have A183 := A182.iloadN (v := (1 : Int32)) (pc' := 49) d3_48 rfl rfl
            have A185 := A183.ifYes (pc' := 60) d3_49 (feq (ine (x := (1 : Int32)) (y := (0 : Int32)) rfl rfl (by decide : ¬ ((1 : Int) = 0)))).2 (by decide) (by decide)
            have A186 := A185.iconst (z := (1 : Int32)) (pc' := 61) d3_60 rfl rfl
            have A187 := A186.goto (pc' := 65) d3_61 (by decide) (by decide)
            refine A187.retN (t := .boolean) (z' := (1 : Int32)) d3_65 (by decide) (by decide) (by simp) rfl ⟨_, rfl, ⟨rfl, ?_⟩⟩
            have elit : (1 : Int32).toInt = 1 := rfl
            omega
    · have A188 := A108.icmpYes (pc' := 16) d3_9 (flt (inlt (x := x) (y := (58 : Int32)) rfl rfl c109)).2.1 (by decide) (by decide)
      have A189 := A188.iconst (z := (0 : Int32)) (pc' := 17) d3_16 rfl rfl
      have A190 := A189.istoreN (Ls' := #[.val (.int x), .val (.int (0 : Int32)), .unset, .unset]) (pc' := 18) d3_17 rfl rfl
      have A191 := A190.iloadN (v := x) (pc' := 19) d3_18 rfl rfl
      have A192 := A191.bipush (z := (95 : Int32)) (pc' := 21) d3_19 rfl rfl
      by_cases c193 : x.toInt = 95
      · have A194 := A192.icmpNo (pc' := 24) d3_21 (teq (ieq (x := x) (y := (95 : Int32)) rfl rfl c193)).2 rfl
        have A195 := A194.iconst (z := (1 : Int32)) (pc' := 25) d3_24 rfl rfl
        have A196 := A195.goto (pc' := 29) d3_25 (by decide) (by decide)
        have A197 := A196.istoreN (Ls' := #[.val (.int x), .val (.int (0 : Int32)), .val (.int (1 : Int32)), .unset]) (pc' := 30) d3_29 rfl rfl
        have A198 := A197.iloadN (v := x) (pc' := 31) d3_30 rfl rfl
        have A199 := A198.bipush (z := (97 : Int32)) (pc' := 33) d3_31 rfl rfl
        by_cases c200 : x.toInt < 97
        · have A201 := A199.icmpYes (pc' := 46) d3_33 (tlt (ilt (x := x) (y := (97 : Int32)) rfl rfl c200)).1 (by decide) (by decide)
          have A202 := A201.iconst (z := (0 : Int32)) (pc' := 47) d3_46 rfl rfl
          have A203 := A202.istoreN (Ls' := #[.val (.int x), .val (.int (0 : Int32)), .val (.int (1 : Int32)), .val (.int (0 : Int32))]) (pc' := 48) d3_47 rfl rfl
          have A204 := A203.iloadN (v := (0 : Int32)) (pc' := 49) d3_48 rfl rfl
          have A206 := A204.ifNo (pc' := 52) d3_49 (teq (ieq (x := (0 : Int32)) (y := (0 : Int32)) rfl rfl (by decide : (0 : Int) = 0))).2 rfl
          have A207 := A206.iloadN (v := (1 : Int32)) (pc' := 53) d3_52 rfl rfl
          have A209 := A207.ifYes (pc' := 60) d3_53 (feq (ine (x := (1 : Int32)) (y := (0 : Int32)) rfl rfl (by decide : ¬ ((1 : Int) = 0)))).2 (by decide) (by decide)
          have A210 := A209.iconst (z := (1 : Int32)) (pc' := 61) d3_60 rfl rfl
          have A211 := A210.goto (pc' := 65) d3_61 (by decide) (by decide)
          refine A211.retN (t := .boolean) (z' := (1 : Int32)) d3_65 (by decide) (by decide) (by simp) rfl ⟨_, rfl, ⟨rfl, ?_⟩⟩
          have elit : (1 : Int32).toInt = 1 := rfl
          omega
        · have A212 := A199.icmpNo (pc' := 36) d3_33 (flt (inlt (x := x) (y := (97 : Int32)) rfl rfl c200)).1 rfl
          have A213 := A212.iloadN (v := x) (pc' := 37) d3_36 rfl rfl
          have A214 := A213.bipush (z := (123 : Int32)) (pc' := 39) d3_37 rfl rfl
          by_cases c215 : x.toInt < 123
          · have A216 := A214.icmpNo (pc' := 42) d3_39 (tlt (ilt (x := x) (y := (123 : Int32)) rfl rfl c215)).2.1 rfl
            have A217 := A216.iconst (z := (1 : Int32)) (pc' := 43) d3_42 rfl rfl
            have A218 := A217.goto (pc' := 47) d3_43 (by decide) (by decide)
            have A219 := A218.istoreN (Ls' := #[.val (.int x), .val (.int (0 : Int32)), .val (.int (1 : Int32)), .val (.int (1 : Int32))]) (pc' := 48) d3_47 rfl rfl
            have A220 := A219.iloadN (v := (0 : Int32)) (pc' := 49) d3_48 rfl rfl
            have A222 := A220.ifNo (pc' := 52) d3_49 (teq (ieq (x := (0 : Int32)) (y := (0 : Int32)) rfl rfl (by decide : (0 : Int) = 0))).2 rfl
            have A223 := A222.iloadN (v := (1 : Int32)) (pc' := 53) d3_52 rfl rfl
            have A225 := A223.ifYes (pc' := 60) d3_53 (feq (ine (x := (1 : Int32)) (y := (0 : Int32)) rfl rfl (by decide : ¬ ((1 : Int) = 0)))).2 (by decide) (by decide)
            have A226 := A225.iconst (z := (1 : Int32)) (pc' := 61) d3_60 rfl rfl
            have A227 := A226.goto (pc' := 65) d3_61 (by decide) (by decide)
            refine A227.retN (t := .boolean) (z' := (1 : Int32)) d3_65 (by decide) (by decide) (by simp) rfl ⟨_, rfl, ⟨rfl, ?_⟩⟩
            have elit : (1 : Int32).toInt = 1 := rfl
            omega
          · have A228 := A214.icmpYes (pc' := 46) d3_39 (flt (inlt (x := x) (y := (123 : Int32)) rfl rfl c215)).2.1 (by decide) (by decide)
            have A229 := A228.iconst (z := (0 : Int32)) (pc' := 47) d3_46 rfl rfl
            have A230 := A229.istoreN (Ls' := #[.val (.int x), .val (.int (0 : Int32)), .val (.int (1 : Int32)), .val (.int (0 : Int32))]) (pc' := 48) d3_47 rfl rfl
            have A231 := A230.iloadN (v := (0 : Int32)) (pc' := 49) d3_48 rfl rfl
            have A233 := A231.ifNo (pc' := 52) d3_49 (teq (ieq (x := (0 : Int32)) (y := (0 : Int32)) rfl rfl (by decide : (0 : Int) = 0))).2 rfl
            have A234 := A233.iloadN (v := (1 : Int32)) (pc' := 53) d3_52 rfl rfl
            have A236 := A234.ifYes (pc' := 60) d3_53 (feq (ine (x := (1 : Int32)) (y := (0 : Int32)) rfl rfl (by decide : ¬ ((1 : Int) = 0)))).2 (by decide) (by decide)
            have A237 := A236.iconst (z := (1 : Int32)) (pc' := 61) d3_60 rfl rfl
            have A238 := A237.goto (pc' := 65) d3_61 (by decide) (by decide)
            refine A238.retN (t := .boolean) (z' := (1 : Int32)) d3_65 (by decide) (by decide) (by simp) rfl ⟨_, rfl, ⟨rfl, ?_⟩⟩
            have elit : (1 : Int32).toInt = 1 := rfl
            omega
      · have A239 := A192.icmpYes (pc' := 28) d3_21 (feq (ine (x := x) (y := (95 : Int32)) rfl rfl c193)).2 (by decide) (by decide)
        have A240 := A239.iconst (z := (0 : Int32)) (pc' := 29) d3_28 rfl rfl
        have A241 := A240.istoreN (Ls' := #[.val (.int x), .val (.int (0 : Int32)), .val (.int (0 : Int32)), .unset]) (pc' := 30) d3_29 rfl rfl
        have A242 := A241.iloadN (v := x) (pc' := 31) d3_30 rfl rfl
        have A243 := A242.bipush (z := (97 : Int32)) (pc' := 33) d3_31 rfl rfl
        by_cases c244 : x.toInt < 97
        · have A245 := A243.icmpYes (pc' := 46) d3_33 (tlt (ilt (x := x) (y := (97 : Int32)) rfl rfl c244)).1 (by decide) (by decide)
          have A246 := A245.iconst (z := (0 : Int32)) (pc' := 47) d3_46 rfl rfl
          have A247 := A246.istoreN (Ls' := #[.val (.int x), .val (.int (0 : Int32)), .val (.int (0 : Int32)), .val (.int (0 : Int32))]) (pc' := 48) d3_47 rfl rfl
          have A248 := A247.iloadN (v := (0 : Int32)) (pc' := 49) d3_48 rfl rfl
          have A250 := A248.ifNo (pc' := 52) d3_49 (teq (ieq (x := (0 : Int32)) (y := (0 : Int32)) rfl rfl (by decide : (0 : Int) = 0))).2 rfl
          have A251 := A250.iloadN (v := (0 : Int32)) (pc' := 53) d3_52 rfl rfl
          have A253 := A251.ifNo (pc' := 56) d3_53 (teq (ieq (x := (0 : Int32)) (y := (0 : Int32)) rfl rfl (by decide : (0 : Int) = 0))).2 rfl
          have A254 := A253.iloadN (v := (0 : Int32)) (pc' := 57) d3_56 rfl rfl
          have A256 := A254.ifYes (pc' := 64) d3_57 (teq (ieq (x := (0 : Int32)) (y := (0 : Int32)) rfl rfl (by decide : (0 : Int) = 0))).1 (by decide) (by decide)
          have A257 := A256.iconst (z := (0 : Int32)) (pc' := 65) d3_64 rfl rfl
          refine A257.retN (t := .boolean) (z' := (0 : Int32)) d3_65 (by decide) (by decide) (by simp) rfl ⟨_, rfl, ⟨rfl, ?_⟩⟩
          have elit : (0 : Int32).toInt = 0 := rfl
          omega
        · have A258 := A243.icmpNo (pc' := 36) d3_33 (flt (inlt (x := x) (y := (97 : Int32)) rfl rfl c244)).1 rfl
          have A259 := A258.iloadN (v := x) (pc' := 37) d3_36 rfl rfl
          have A260 := A259.bipush (z := (123 : Int32)) (pc' := 39) d3_37 rfl rfl
          by_cases c261 : x.toInt < 123
          · have A262 := A260.icmpNo (pc' := 42) d3_39 (tlt (ilt (x := x) (y := (123 : Int32)) rfl rfl c261)).2.1 rfl
            have A263 := A262.iconst (z := (1 : Int32)) (pc' := 43) d3_42 rfl rfl
            have A264 := A263.goto (pc' := 47) d3_43 (by decide) (by decide)
            have A265 := A264.istoreN (Ls' := #[.val (.int x), .val (.int (0 : Int32)), .val (.int (0 : Int32)), .val (.int (1 : Int32))]) (pc' := 48) d3_47 rfl rfl
            have A266 := A265.iloadN (v := (0 : Int32)) (pc' := 49) d3_48 rfl rfl
            have A268 := A266.ifNo (pc' := 52) d3_49 (teq (ieq (x := (0 : Int32)) (y := (0 : Int32)) rfl rfl (by decide : (0 : Int) = 0))).2 rfl
            have A269 := A268.iloadN (v := (0 : Int32)) (pc' := 53) d3_52 rfl rfl
            have A271 := A269.ifNo (pc' := 56) d3_53 (teq (ieq (x := (0 : Int32)) (y := (0 : Int32)) rfl rfl (by decide : (0 : Int) = 0))).2 rfl
            have A272 := A271.iloadN (v := (1 : Int32)) (pc' := 57) d3_56 rfl rfl
            have A274 := A272.ifNo (pc' := 60) d3_57 (feq (ine (x := (1 : Int32)) (y := (0 : Int32)) rfl rfl (by decide : ¬ ((1 : Int) = 0)))).1 rfl
            have A275 := A274.iconst (z := (1 : Int32)) (pc' := 61) d3_60 rfl rfl
            have A276 := A275.goto (pc' := 65) d3_61 (by decide) (by decide)
            refine A276.retN (t := .boolean) (z' := (1 : Int32)) d3_65 (by decide) (by decide) (by simp) rfl ⟨_, rfl, ⟨rfl, ?_⟩⟩
            have elit : (1 : Int32).toInt = 1 := rfl
            omega
          · have A277 := A260.icmpYes (pc' := 46) d3_39 (flt (inlt (x := x) (y := (123 : Int32)) rfl rfl c261)).2.1 (by decide) (by decide)
            have A278 := A277.iconst (z := (0 : Int32)) (pc' := 47) d3_46 rfl rfl
            have A279 := A278.istoreN (Ls' := #[.val (.int x), .val (.int (0 : Int32)), .val (.int (0 : Int32)), .val (.int (0 : Int32))]) (pc' := 48) d3_47 rfl rfl
            have A280 := A279.iloadN (v := (0 : Int32)) (pc' := 49) d3_48 rfl rfl
            have A282 := A280.ifNo (pc' := 52) d3_49 (teq (ieq (x := (0 : Int32)) (y := (0 : Int32)) rfl rfl (by decide : (0 : Int) = 0))).2 rfl
            have A283 := A282.iloadN (v := (0 : Int32)) (pc' := 53) d3_52 rfl rfl
            have A285 := A283.ifNo (pc' := 56) d3_53 (teq (ieq (x := (0 : Int32)) (y := (0 : Int32)) rfl rfl (by decide : (0 : Int) = 0))).2 rfl
            have A286 := A285.iloadN (v := (0 : Int32)) (pc' := 57) d3_56 rfl rfl
            have A288 := A286.ifYes (pc' := 64) d3_57 (teq (ieq (x := (0 : Int32)) (y := (0 : Int32)) rfl rfl (by decide : (0 : Int) = 0))).1 (by decide) (by decide)
            have A289 := A288.iconst (z := (0 : Int32)) (pc' := 65) d3_64 rfl rfl
            refine A289.retN (t := .boolean) (z' := (0 : Int32)) d3_65 (by decide) (by decide) (by simp) rfl ⟨_, rfl, ⟨rfl, ?_⟩⟩
            have elit : (0 : Int32).toInt = 0 := rfl
            omega
theorem pn16 : plainFor (⟨"jdk/internal/util/Preconditions", "checkIndex", "(IILjava/util/function/BiFunction;)I"⟩ : MethodName) = true := by first | exact plainFor_of_name (by first | (simp [plainName, overriddenIn]; done) | decide +kernel) | exact Jvm.Free.JP.mathPlain rfl (by decide +kernel) | decide +kernel
theorem d16_0 : decode jdk_41_method_11_code 0 = .ok (.iload_n 0, 1) := by decide +kernel
theorem d16_1 : decode jdk_41_method_11_code 1 = .ok (.ifCond .lt 8, 3) := by decide +kernel
theorem d16_4 : decode jdk_41_method_11_code 4 = .ok (.iload_n 0, 1) := by decide +kernel
theorem d16_5 : decode jdk_41_method_11_code 5 = .ok (.iload_n 1, 1) := by decide +kernel
theorem d16_6 : decode jdk_41_method_11_code 6 = .ok (.if_icmp .lt 10, 3) := by decide +kernel
theorem d16_16 : decode jdk_41_method_11_code 16 = .ok (.iload_n 0, 1) := by decide +kernel
theorem d16_17 : decode jdk_41_method_11_code 17 = .ok (.ireturn, 1) := by decide +kernel
abbrev y16_n0 : MethodName := (⟨"jdk/internal/util/Preconditions", "checkIndex", "(IILjava/util/function/BiFunction;)I"⟩ : MethodName)
abbrev R16_n0 : Room := { frames := 0, cells := 0, slots := 0, locals := 0 }
set_option maxRecDepth 65536 in
set_option maxHeartbeats 4000000 in
theorem ef16_n0   (mid : MethodId) : entryFrame mid #[(.int (0 : Int32)), (.int (2 : Int32)), .null] 3 = mkF mid 0 #[.val (.int (0 : Int32)), .val (.int (2 : Int32)), .val .null] [] := by first | (simp [entryFrame, mkF, argsToLocals, Value.category]; done) | rfl
set_option maxRecDepth 65536 in
set_option maxHeartbeats 40000000 in
theorem rm16_n0 (l : Launch) (Z : State) (a0 : Array Value) (hw : ∀ d ∈ tables_1, d.before a0 Z = true) (n0 : Nat) (ws : List Jvm.Cond)   (h0 : Heap) (hn0 : n0 ≤ h0.size)  :
    Ctr l Z n0 y16_n0 jdk_41_method_11_code 3 (some .int) ws R16_n0 #[(.int (0 : Int32)), (.int (2 : Int32)), .null] h0 (QI fun r h => (h0 = h) ∧ (r = (0 : Int32))) := by
  refine ctr_of pn16 hn0 (ef16_n0 ) fun G A0 => ?_
  have A1 := A0.iloadN (v := (0 : Int32)) (pc' := 1) d16_0 rfl rfl
  have A3 := A1.ifNo (pc' := 4) d16_1 (flt (inlt (x := (0 : Int32)) (y := (0 : Int32)) rfl rfl (by decide : ¬ ((0 : Int) < 0)))).1 rfl
  have A4 := A3.iloadN (v := (0 : Int32)) (pc' := 5) d16_4 rfl rfl
  have A5 := A4.iloadN (v := (2 : Int32)) (pc' := 6) d16_5 rfl rfl
  have A7 := A5.icmpYes (pc' := 16) d16_6 (tlt (ilt (x := (0 : Int32)) (y := (2 : Int32)) rfl rfl (by decide : (0 : Int) < 2))).1 (by decide) (by decide)
  have A8 := A7.iloadN (v := (0 : Int32)) (pc' := 17) d16_16 rfl rfl
  refine A8.retI d16_17 (by decide) (by decide) ⟨_, rfl, ⟨rfl, ?_⟩⟩
  have elit : (0 : Int32).toInt = 0 := rfl
  rfl
abbrev y16_r0 : MethodName := (⟨"jdk/internal/util/Preconditions", "checkIndex", "(IILjava/util/function/BiFunction;)I"⟩ : MethodName)
abbrev R16_r0 : Room := { frames := 0, cells := 0, slots := 0, locals := 0 }
set_option maxRecDepth 65536 in
set_option maxHeartbeats 4000000 in
theorem ef16_r0 (fm : Addr)  (mid : MethodId) : entryFrame mid #[(.int (0 : Int32)), (.int (2 : Int32)), (.ref fm)] 3 = mkF mid 0 #[.val (.int (0 : Int32)), .val (.int (2 : Int32)), .val (.ref fm)] [] := by first | (simp [entryFrame, mkF, argsToLocals, Value.category]; done) | rfl
set_option maxRecDepth 65536 in
set_option maxHeartbeats 40000000 in
theorem rm16_r0 (l : Launch) (Z : State) (a0 : Array Value) (hw : ∀ d ∈ tables_1, d.before a0 Z = true) (n0 : Nat) (ws : List Jvm.Cond) (fm : Addr)  (h0 : Heap) (hn0 : n0 ≤ h0.size)  :
    Ctr l Z n0 y16_r0 jdk_41_method_11_code 3 (some .int) ws R16_r0 #[(.int (0 : Int32)), (.int (2 : Int32)), (.ref fm)] h0 (QI fun r h => (h0 = h) ∧ (r = (0 : Int32))) := by
  refine ctr_of pn16 hn0 (ef16_r0 fm) fun G A0 => ?_
  have A1 := A0.iloadN (v := (0 : Int32)) (pc' := 1) d16_0 rfl rfl
  have A3 := A1.ifNo (pc' := 4) d16_1 (flt (inlt (x := (0 : Int32)) (y := (0 : Int32)) rfl rfl (by decide : ¬ ((0 : Int) < 0)))).1 rfl
  have A4 := A3.iloadN (v := (0 : Int32)) (pc' := 5) d16_4 rfl rfl
  have A5 := A4.iloadN (v := (2 : Int32)) (pc' := 6) d16_5 rfl rfl
  have A7 := A5.icmpYes (pc' := 16) d16_6 (tlt (ilt (x := (0 : Int32)) (y := (2 : Int32)) rfl rfl (by decide : (0 : Int) < 2))).1 (by decide) (by decide)
  have A8 := A7.iloadN (v := (0 : Int32)) (pc' := 17) d16_16 rfl rfl
  refine A8.retI d16_17 (by decide) (by decide) ⟨_, rfl, ⟨rfl, ?_⟩⟩
  have elit : (0 : Int32).toInt = 0 := rfl
  rfl
theorem pn15 : plainFor (⟨"java/lang/String", "checkIndex", "(II)V"⟩ : MethodName) = true := by first | exact plainFor_of_name (by first | (simp [plainName, overriddenIn]; done) | decide +kernel) | exact Jvm.Free.JP.mathPlain rfl (by decide +kernel) | decide +kernel
theorem d15_0 : decode jdk_42_method_155_code 0 = .ok (.iload_n 0, 1) := by decide +kernel
theorem d15_1 : decode jdk_42_method_155_code 1 = .ok (.iload_n 1, 1) := by decide +kernel
theorem d15_2 : decode jdk_42_method_155_code 2 = .ok (.getstatic 1053, 3) := by decide +kernel
theorem d15_5 : decode jdk_42_method_155_code 5 = .ok (.invokestatic 1059, 3) := by decide +kernel
theorem d15_8 : decode jdk_42_method_155_code 8 = .ok (.pop, 1) := by decide +kernel
theorem d15_9 : decode jdk_42_method_155_code 9 = .ok (.return_, 1) := by decide +kernel
abbrev y15_0 : MethodName := (⟨"java/lang/String", "checkIndex", "(II)V"⟩ : MethodName)
abbrev R15_0 : Room := { frames := 1, cells := 0, slots := 0, locals := 14 }
set_option maxRecDepth 65536 in
set_option maxHeartbeats 4000000 in
theorem ef15_0   (mid : MethodId) : entryFrame mid #[(.int (0 : Int32)), (.int (2 : Int32))] 2 = mkF mid 0 #[.val (.int (0 : Int32)), .val (.int (2 : Int32))] [] := by first | (simp [entryFrame, mkF, argsToLocals, Value.category]; done) | rfl
set_option maxRecDepth 65536 in
set_option maxHeartbeats 40000000 in
theorem rm15_0 (l : Launch) (Z : State) (a0 : Array Value) (hw : ∀ d ∈ tables_1, d.before a0 Z = true) (n0 : Nat) (ws : List Jvm.Cond)  (fm : Value) (h0 : Heap) (hn0 : n0 ≤ h0.size) (e0 : Old Z n0 h0) (e1 : Sta Z Z.heap "jdk/internal/util/Preconditions" "SIOOBE_FORMATTER" "Ljava/util/function/BiFunction;" fm) (e2 : fm.isRef = true) :
    Ctr l Z n0 y15_0 jdk_42_method_155_code 2 (none) ws R15_0 #[(.int (0 : Int32)), (.int (2 : Int32))] h0 (QV fun h => (h0 = h) ∧ (True)) := by
  refine ctr_of pn15 hn0 (ef15_0 ) fun G A0 => ?_
  have A1 := A0.iloadN (v := (0 : Int32)) (pc' := 1) d15_0 rfl rfl
  have A2 := A1.iloadN (v := (2 : Int32)) (pc' := 2) d15_1 rfl rfl
  rcases ref_cases e2 with rfl | ⟨q, rfl⟩
  · have f4 := e1.ext e0.2
    have A3 := A2.getS (pc' := 5) (host := "") d15_2 (Or.inl (hw _ (List.mem_of_getElem? (i := 67) rfl))) Via.refl f4 rfl
    obtain ⟨r6, _, ⟨rfl, q7⟩, A5⟩ := W.kI (A3.callS (argsL := [(.int (0 : Int32)), (.int (2 : Int32)), .null]) (rest := []) (C' := 0) (S' := 0) (pc' := 8) d15_5 (hw _ (List.mem_of_getElem? (i := 69) rfl)) (hw _ (List.mem_of_getElem? (i := 70) rfl)) (hw _ (List.mem_of_getElem? (i := 68) rfl)) (hw _ (List.mem_of_getElem? (i := 71) rfl)) (rm16_n0 l Z a0 hw n0 []   h0 A3.size ) rfl rfl pd_1 rfl rfl (by decide) (by decide) (Nat.le_of_ble_eq_true rfl) (by decide) (by decide) rfl rfl rfl)
    subst q7
    have A9 := A5.pop (pc' := 9) d15_8 rfl rfl
    refine A9.retV d15_9 (by decide) (by decide) ⟨rfl, ⟨rfl, ?_⟩⟩
    trivial
  · have f11 := e1.ext e0.2
    have A10 := A2.getS (pc' := 5) (host := "") d15_2 (Or.inl (hw _ (List.mem_of_getElem? (i := 67) rfl))) Via.refl f11 rfl
    obtain ⟨r13, _, ⟨rfl, q14⟩, A12⟩ := W.kI (A10.callS (argsL := [(.int (0 : Int32)), (.int (2 : Int32)), (.ref q)]) (rest := []) (C' := 0) (S' := 0) (pc' := 8) d15_5 (hw _ (List.mem_of_getElem? (i := 69) rfl)) (hw _ (List.mem_of_getElem? (i := 70) rfl)) (hw _ (List.mem_of_getElem? (i := 68) rfl)) (hw _ (List.mem_of_getElem? (i := 71) rfl)) (rm16_r0 l Z a0 hw n0 [] (q)  h0 A10.size ) rfl rfl pd_1 rfl rfl (by decide) (by decide) (Nat.le_of_ble_eq_true rfl) (by decide) (by decide) rfl rfl rfl)
    subst q14
    have A16 := A12.pop (pc' := 9) d15_8 rfl rfl
    refine A16.retV d15_9 (by decide) (by decide) ⟨rfl, ⟨rfl, ?_⟩⟩
    trivial
abbrev y16_n1 : MethodName := (⟨"jdk/internal/util/Preconditions", "checkIndex", "(IILjava/util/function/BiFunction;)I"⟩ : MethodName)
abbrev R16_n1 : Room := { frames := 0, cells := 0, slots := 0, locals := 0 }
set_option maxRecDepth 65536 in
set_option maxHeartbeats 4000000 in
theorem ef16_n1   (mid : MethodId) : entryFrame mid #[(.int (1 : Int32)), (.int (2 : Int32)), .null] 3 = mkF mid 0 #[.val (.int (1 : Int32)), .val (.int (2 : Int32)), .val .null] [] := by first | (simp [entryFrame, mkF, argsToLocals, Value.category]; done) | rfl
set_option maxRecDepth 65536 in
set_option maxHeartbeats 40000000 in
theorem rm16_n1 (l : Launch) (Z : State) (a0 : Array Value) (hw : ∀ d ∈ tables_1, d.before a0 Z = true) (n0 : Nat) (ws : List Jvm.Cond)   (h0 : Heap) (hn0 : n0 ≤ h0.size)  :
    Ctr l Z n0 y16_n1 jdk_41_method_11_code 3 (some .int) ws R16_n1 #[(.int (1 : Int32)), (.int (2 : Int32)), .null] h0 (QI fun r h => (h0 = h) ∧ (r = (1 : Int32))) := by
  refine ctr_of pn16 hn0 (ef16_n1 ) fun G A0 => ?_
  have A1 := A0.iloadN (v := (1 : Int32)) (pc' := 1) d16_0 rfl rfl
  have A3 := A1.ifNo (pc' := 4) d16_1 (flt (inlt (x := (1 : Int32)) (y := (0 : Int32)) rfl rfl (by decide : ¬ ((1 : Int) < 0)))).1 rfl
  have A4 := A3.iloadN (v := (1 : Int32)) (pc' := 5) d16_4 rfl rfl
  have A5 := A4.iloadN (v := (2 : Int32)) (pc' := 6) d16_5 rfl rfl
  have A7 := A5.icmpYes (pc' := 16) d16_6 (tlt (ilt (x := (1 : Int32)) (y := (2 : Int32)) rfl rfl (by decide : (1 : Int) < 2))).1 (by decide) (by decide)
  have A8 := A7.iloadN (v := (1 : Int32)) (pc' := 17) d16_16 rfl rfl
  refine A8.retI d16_17 (by decide) (by decide) ⟨_, rfl, ⟨rfl, ?_⟩⟩
  have elit : (1 : Int32).toInt = 1 := rfl
  rfl
abbrev y16_r1 : MethodName := (⟨"jdk/internal/util/Preconditions", "checkIndex", "(IILjava/util/function/BiFunction;)I"⟩ : MethodName)
abbrev R16_r1 : Room := { frames := 0, cells := 0, slots := 0, locals := 0 }
set_option maxRecDepth 65536 in
set_option maxHeartbeats 4000000 in
theorem ef16_r1 (fm : Addr)  (mid : MethodId) : entryFrame mid #[(.int (1 : Int32)), (.int (2 : Int32)), (.ref fm)] 3 = mkF mid 0 #[.val (.int (1 : Int32)), .val (.int (2 : Int32)), .val (.ref fm)] [] := by first | (simp [entryFrame, mkF, argsToLocals, Value.category]; done) | rfl
set_option maxRecDepth 65536 in
set_option maxHeartbeats 40000000 in
theorem rm16_r1 (l : Launch) (Z : State) (a0 : Array Value) (hw : ∀ d ∈ tables_1, d.before a0 Z = true) (n0 : Nat) (ws : List Jvm.Cond) (fm : Addr)  (h0 : Heap) (hn0 : n0 ≤ h0.size)  :
    Ctr l Z n0 y16_r1 jdk_41_method_11_code 3 (some .int) ws R16_r1 #[(.int (1 : Int32)), (.int (2 : Int32)), (.ref fm)] h0 (QI fun r h => (h0 = h) ∧ (r = (1 : Int32))) := by
  refine ctr_of pn16 hn0 (ef16_r1 fm) fun G A0 => ?_
  have A1 := A0.iloadN (v := (1 : Int32)) (pc' := 1) d16_0 rfl rfl
  have A3 := A1.ifNo (pc' := 4) d16_1 (flt (inlt (x := (1 : Int32)) (y := (0 : Int32)) rfl rfl (by decide : ¬ ((1 : Int) < 0)))).1 rfl
  have A4 := A3.iloadN (v := (1 : Int32)) (pc' := 5) d16_4 rfl rfl
  have A5 := A4.iloadN (v := (2 : Int32)) (pc' := 6) d16_5 rfl rfl
  have A7 := A5.icmpYes (pc' := 16) d16_6 (tlt (ilt (x := (1 : Int32)) (y := (2 : Int32)) rfl rfl (by decide : (1 : Int) < 2))).1 (by decide) (by decide)
  have A8 := A7.iloadN (v := (1 : Int32)) (pc' := 17) d16_16 rfl rfl
  refine A8.retI d16_17 (by decide) (by decide) ⟨_, rfl, ⟨rfl, ?_⟩⟩
  have elit : (1 : Int32).toInt = 1 := rfl
  rfl
abbrev y15_1 : MethodName := (⟨"java/lang/String", "checkIndex", "(II)V"⟩ : MethodName)
abbrev R15_1 : Room := { frames := 1, cells := 0, slots := 0, locals := 14 }
set_option maxRecDepth 65536 in
set_option maxHeartbeats 4000000 in
theorem ef15_1   (mid : MethodId) : entryFrame mid #[(.int (1 : Int32)), (.int (2 : Int32))] 2 = mkF mid 0 #[.val (.int (1 : Int32)), .val (.int (2 : Int32))] [] := by first | (simp [entryFrame, mkF, argsToLocals, Value.category]; done) | rfl
set_option maxRecDepth 65536 in
set_option maxHeartbeats 40000000 in
theorem rm15_1 (l : Launch) (Z : State) (a0 : Array Value) (hw : ∀ d ∈ tables_1, d.before a0 Z = true) (n0 : Nat) (ws : List Jvm.Cond)  (fm : Value) (h0 : Heap) (hn0 : n0 ≤ h0.size) (e0 : Old Z n0 h0) (e1 : Sta Z Z.heap "jdk/internal/util/Preconditions" "SIOOBE_FORMATTER" "Ljava/util/function/BiFunction;" fm) (e2 : fm.isRef = true) :
    Ctr l Z n0 y15_1 jdk_42_method_155_code 2 (none) ws R15_1 #[(.int (1 : Int32)), (.int (2 : Int32))] h0 (QV fun h => (h0 = h) ∧ (True)) := by
  refine ctr_of pn15 hn0 (ef15_1 ) fun G A0 => ?_
  have A1 := A0.iloadN (v := (1 : Int32)) (pc' := 1) d15_0 rfl rfl
  have A2 := A1.iloadN (v := (2 : Int32)) (pc' := 2) d15_1 rfl rfl
  rcases ref_cases e2 with rfl | ⟨q, rfl⟩
  · have f4 := e1.ext e0.2
    have A3 := A2.getS (pc' := 5) (host := "") d15_2 (Or.inl (hw _ (List.mem_of_getElem? (i := 67) rfl))) Via.refl f4 rfl
    obtain ⟨r6, _, ⟨rfl, q7⟩, A5⟩ := W.kI (A3.callS (argsL := [(.int (1 : Int32)), (.int (2 : Int32)), .null]) (rest := []) (C' := 0) (S' := 0) (pc' := 8) d15_5 (hw _ (List.mem_of_getElem? (i := 69) rfl)) (hw _ (List.mem_of_getElem? (i := 70) rfl)) (hw _ (List.mem_of_getElem? (i := 68) rfl)) (hw _ (List.mem_of_getElem? (i := 71) rfl)) (rm16_n1 l Z a0 hw n0 []   h0 A3.size ) rfl rfl pd_1 rfl rfl (by decide) (by decide) (Nat.le_of_ble_eq_true rfl) (by decide) (by decide) rfl rfl rfl)
    subst q7
    have A9 := A5.pop (pc' := 9) d15_8 rfl rfl
    refine A9.retV d15_9 (by decide) (by decide) ⟨rfl, ⟨rfl, ?_⟩⟩
    trivial
  · have f11 := e1.ext e0.2
    have A10 := A2.getS (pc' := 5) (host := "") d15_2 (Or.inl (hw _ (List.mem_of_getElem? (i := 67) rfl))) Via.refl f11 rfl
    obtain ⟨r13, _, ⟨rfl, q14⟩, A12⟩ := W.kI (A10.callS (argsL := [(.int (1 : Int32)), (.int (2 : Int32)), (.ref q)]) (rest := []) (C' := 0) (S' := 0) (pc' := 8) d15_5 (hw _ (List.mem_of_getElem? (i := 69) rfl)) (hw _ (List.mem_of_getElem? (i := 70) rfl)) (hw _ (List.mem_of_getElem? (i := 68) rfl)) (hw _ (List.mem_of_getElem? (i := 71) rfl)) (rm16_r1 l Z a0 hw n0 [] (q)  h0 A10.size ) rfl rfl pd_1 rfl rfl (by decide) (by decide) (Nat.le_of_ble_eq_true rfl) (by decide) (by decide) rfl rfl rfl)
    subst q14
    have A16 := A12.pop (pc' := 9) d15_8 rfl rfl
    refine A16.retV d15_9 (by decide) (by decide) ⟨rfl, ⟨rfl, ?_⟩⟩
    trivial
theorem pn14 : plainFor (⟨"java/lang/StringLatin1", "charAt", "([BI)C"⟩ : MethodName) = true := by first | exact plainFor_of_name (by first | (simp [plainName, overriddenIn]; done) | decide +kernel) | exact Jvm.Free.JP.mathPlain rfl (by decide +kernel) | decide +kernel
theorem d14_0 : decode jdk_43_method_2_code 0 = .ok (.iload_n 1, 1) := by decide +kernel
theorem d14_1 : decode jdk_43_method_2_code 1 = .ok (.aload_n 0, 1) := by decide +kernel
theorem d14_2 : decode jdk_43_method_2_code 2 = .ok (.arraylength, 1) := by decide +kernel
theorem d14_3 : decode jdk_43_method_2_code 3 = .ok (.invokestatic 9, 3) := by decide +kernel
theorem d14_6 : decode jdk_43_method_2_code 6 = .ok (.aload_n 0, 1) := by decide +kernel
theorem d14_7 : decode jdk_43_method_2_code 7 = .ok (.iload_n 1, 1) := by decide +kernel
theorem d14_8 : decode jdk_43_method_2_code 8 = .ok (.baload, 1) := by decide +kernel
theorem d14_9 : decode jdk_43_method_2_code 9 = .ok (.sipush 255, 3) := by decide +kernel
theorem d14_12 : decode jdk_43_method_2_code 12 = .ok (.iand, 1) := by decide +kernel
theorem d14_13 : decode jdk_43_method_2_code 13 = .ok (.i2c, 1) := by decide +kernel
theorem d14_14 : decode jdk_43_method_2_code 14 = .ok (.ireturn, 1) := by decide +kernel
abbrev y14_L0 : MethodName := (⟨"java/lang/StringLatin1", "charAt", "([BI)C"⟩ : MethodName)
abbrev R14_L0 : Room := { frames := 2, cells := 0, slots := 0, locals := 27 }
set_option maxRecDepth 65536 in
set_option maxHeartbeats 4000000 in
theorem ef14_L0 (b : Addr)  (mid : MethodId) : entryFrame mid #[(.ref b), (.int (0 : Int32))] 2 = mkF mid 0 #[.val (.ref b), .val (.int (0 : Int32))] [] := by first | (simp [entryFrame, mkF, argsToLocals, Value.category]; done) | rfl
set_option maxRecDepth 65536 in
set_option maxHeartbeats 40000000 in
theorem rm14_L0 (l : Launch) (Z : State) (a0 : Array Value) (hw : ∀ d ∈ tables_1, d.before a0 Z = true) (n0 : Nat) (ws : List Jvm.Cond) (b : Addr) (f : Nat → Value) (fm : Value) (h0 : Heap) (hn0 : n0 ≤ h0.size) (e0 : Ars Z h0 b .byte 2 f) (e1 : f 0 = .int (97 : Int32)) (e2 : Old Z n0 h0) (e3 : Sta Z Z.heap "jdk/internal/util/Preconditions" "SIOOBE_FORMATTER" "Ljava/util/function/BiFunction;" fm) (e4 : fm.isRef = true) :
    Ctr l Z n0 y14_L0 jdk_43_method_2_code 2 (some .char) ws R14_L0 #[(.ref b), (.int (0 : Int32))] h0 (QI fun r h => (h0 = h) ∧ (r = (97 : Int32))) := by
  refine ctr_of pn14 hn0 (ef14_L0 b) fun G A0 => ?_
  have A1 := A0.iloadN (v := (0 : Int32)) (pc' := 1) d14_0 rfl rfl
  have A2 := A1.aloadN (v := (.ref b)) (pc' := 2) d14_1 rfl rfl rfl
  have A3 := A2.alen (z := (2 : Int32)) (pc' := 3) d14_2 e0 rfl rfl
  obtain ⟨_, ⟨rfl, q6⟩, A4⟩ := W.kV (A3.callS (argsL := [(.int (0 : Int32)), (.int (2 : Int32))]) (rest := []) (C' := 0) (S' := 0) (pc' := 6) d14_3 (hw _ (List.mem_of_getElem? (i := 64) rfl)) (hw _ (List.mem_of_getElem? (i := 65) rfl)) (hw _ (List.mem_of_getElem? (i := 15) rfl)) (hw _ (List.mem_of_getElem? (i := 66) rfl)) (rm15_0 l Z a0 hw n0 []  (_) h0 A3.size e2 e3 (by assumption)) rfl rfl pd_2 rfl rfl (by decide) (by decide) (Nat.le_of_ble_eq_true rfl) (by decide) (by decide) rfl rfl rfl)
  have A8 := A4.aloadN (v := (.ref b)) (pc' := 7) d14_6 rfl rfl rfl
  have A9 := A8.iloadN (v := (0 : Int32)) (pc' := 8) d14_7 rfl rfl
  have A10 := A9.baload (i := 0) (v := (.int (97 : Int32))) (pc' := 9) d14_8 e0 rfl (by decide) e1 rfl
  have A11 := A10.sipush (z := (255 : Int32)) (pc' := 12) d14_9 rfl rfl
  have A12 := A11.iand (pc' := 13) d14_12 rfl
  have A13 := A12.topI (z := (97 : Int32)) (by decide)
  have A14 := A13.i2c (pc' := 14) d14_13 rfl
  have A15 := A14.topI (z := (97 : Int32)) (by decide)
  refine A15.retN (t := .char) (z' := (97 : Int32)) d14_14 (by decide) (by decide) (by simp) (by decide) ⟨_, rfl, ⟨rfl, ?_⟩⟩
  have elit : (97 : Int32).toInt = 97 := rfl
  rfl
abbrev y14_L1 : MethodName := (⟨"java/lang/StringLatin1", "charAt", "([BI)C"⟩ : MethodName)
abbrev R14_L1 : Room := { frames := 2, cells := 0, slots := 0, locals := 27 }
set_option maxRecDepth 65536 in
set_option maxHeartbeats 4000000 in
theorem ef14_L1 (b : Addr)  (mid : MethodId) : entryFrame mid #[(.ref b), (.int (1 : Int32))] 2 = mkF mid 0 #[.val (.ref b), .val (.int (1 : Int32))] [] := by first | (simp [entryFrame, mkF, argsToLocals, Value.category]; done) | rfl
set_option maxRecDepth 65536 in
set_option maxHeartbeats 40000000 in
theorem rm14_L1 (l : Launch) (Z : State) (a0 : Array Value) (hw : ∀ d ∈ tables_1, d.before a0 Z = true) (n0 : Nat) (ws : List Jvm.Cond) (b : Addr) (f : Nat → Value) (ch : Int32) (fm : Value) (h0 : Heap) (hn0 : n0 ≤ h0.size) (e0 : Ars Z h0 b .byte 2 f) (e1 : f 1 = .int ch.toInt8.toInt32) (e2 : 0 ≤ ch.toInt ∧ ch.toInt ≤ 255) (e3 : Old Z n0 h0) (e4 : Sta Z Z.heap "jdk/internal/util/Preconditions" "SIOOBE_FORMATTER" "Ljava/util/function/BiFunction;" fm) (e5 : fm.isRef = true) :
    Ctr l Z n0 y14_L1 jdk_43_method_2_code 2 (some .char) ws R14_L1 #[(.ref b), (.int (1 : Int32))] h0 (QI fun r h => (h0 = h) ∧ (r.toInt = ch.toInt)) := by
  refine ctr_of pn14 hn0 (ef14_L1 b) fun G A0 => ?_
  have A1 := A0.iloadN (v := (1 : Int32)) (pc' := 1) d14_0 rfl rfl
  have A2 := A1.aloadN (v := (.ref b)) (pc' := 2) d14_1 rfl rfl rfl
  have A3 := A2.alen (z := (2 : Int32)) (pc' := 3) d14_2 e0 rfl rfl
  obtain ⟨_, ⟨rfl, q6⟩, A4⟩ := W.kV (A3.callS (argsL := [(.int (1 : Int32)), (.int (2 : Int32))]) (rest := []) (C' := 0) (S' := 0) (pc' := 6) d14_3 (hw _ (List.mem_of_getElem? (i := 64) rfl)) (hw _ (List.mem_of_getElem? (i := 65) rfl)) (hw _ (List.mem_of_getElem? (i := 15) rfl)) (hw _ (List.mem_of_getElem? (i := 66) rfl)) (rm15_1 l Z a0 hw n0 []  (_) h0 A3.size e3 e4 (by assumption)) rfl rfl pd_2 rfl rfl (by decide) (by decide) (Nat.le_of_ble_eq_true rfl) (by decide) (by decide) rfl rfl rfl)
  have A8 := A4.aloadN (v := (.ref b)) (pc' := 7) d14_6 rfl rfl rfl
  have A9 := A8.iloadN (v := (1 : Int32)) (pc' := 8) d14_7 rfl rfl
  have A10 := A9.baload (i := 1) (v := (.int ch.toInt8.toInt32)) (pc' := 9) d14_8 e0 rfl (by decide) e1 rfl
  have A11 := A10.sipush (z := (255 : Int32)) (pc' := 12) d14_9 rfl rfl
  have A12 := A11.iand (pc' := 13) d14_12 rfl
  have A13 := A12.i2c (pc' := 14) d14_13 rfl
  refine A13.retN (t := .char) (z' := (ch.toInt8.toInt32 &&& (255 : Int32)).toUInt32.toUInt16.toUInt32.toInt32) d14_14 (by decide) (by decide) (by simp) (by exact own_nc _) ⟨_, rfl, ⟨rfl, ?_⟩⟩
  exact own_lc ch e2.1 e2.2
theorem pn26 : plainFor (⟨"java/lang/StringUTF16", "length", "([B)I"⟩ : MethodName) = true := by first | exact plainFor_of_name (by first | (simp [plainName, overriddenIn]; done) | decide +kernel) | exact Jvm.Free.JP.mathPlain rfl (by decide +kernel) | decide +kernel
theorem d26_0 : decode jdk_52_method_6_code 0 = .ok (.aload_n 0, 1) := by decide +kernel
theorem d26_1 : decode jdk_52_method_6_code 1 = .ok (.arraylength, 1) := by decide +kernel
theorem d26_2 : decode jdk_52_method_6_code 2 = .ok (.iconst 1, 1) := by decide +kernel
theorem d26_3 : decode jdk_52_method_6_code 3 = .ok (.ishr, 1) := by decide +kernel
theorem d26_4 : decode jdk_52_method_6_code 4 = .ok (.ireturn, 1) := by decide +kernel
abbrev y26 : MethodName := (⟨"java/lang/StringUTF16", "length", "([B)I"⟩ : MethodName)
abbrev R26 : Room := { frames := 0, cells := 0, slots := 0, locals := 0 }
set_option maxRecDepth 65536 in
set_option maxHeartbeats 4000000 in
theorem ef26 (b : Addr)  (mid : MethodId) : entryFrame mid #[(.ref b)] 1 = mkF mid 0 #[.val (.ref b)] [] := by first | (simp [entryFrame, mkF, argsToLocals, Value.category]; done) | rfl
set_option maxRecDepth 65536 in
set_option maxHeartbeats 40000000 in
theorem rm26 (l : Launch) (Z : State) (a0 : Array Value) (hw : ∀ d ∈ tables_1, d.before a0 Z = true) (n0 : Nat) (ws : List Jvm.Cond) (b : Addr) (f : Nat → Value) (h0 : Heap) (hn0 : n0 ≤ h0.size) (e0 : Ars Z h0 b .byte 4 f) :
    Ctr l Z n0 y26 jdk_52_method_6_code 1 (some .int) ws R26 #[(.ref b)] h0 (QI fun r h => (h0 = h) ∧ (r = (2 : Int32))) := by
  refine ctr_of pn26 hn0 (ef26 b) fun G A0 => ?_
  have A1 := A0.aloadN (v := (.ref b)) (pc' := 1) d26_0 rfl rfl rfl
  have A2 := A1.alen (z := (4 : Int32)) (pc' := 2) d26_1 e0 rfl rfl
  have A3 := A2.iconst (z := (1 : Int32)) (pc' := 3) d26_2 rfl rfl
  have A4 := A3.ishr (pc' := 4) d26_3 rfl
  have A5 := A4.topI (z := (2 : Int32)) (by decide)
  refine A5.retI d26_4 (by decide) (by decide) ⟨_, rfl, ⟨rfl, ?_⟩⟩
  have elit : (2 : Int32).toInt = 2 := rfl
  rfl
theorem pn25 : plainFor (⟨"java/lang/StringUTF16", "checkIndex", "(I[B)V"⟩ : MethodName) = true := by first | exact plainFor_of_name (by first | (simp [plainName, overriddenIn]; done) | decide +kernel) | exact Jvm.Free.JP.mathPlain rfl (by decide +kernel) | decide +kernel
theorem d25_0 : decode jdk_52_method_91_code 0 = .ok (.iload_n 0, 1) := by decide +kernel
theorem d25_1 : decode jdk_52_method_91_code 1 = .ok (.aload_n 1, 1) := by decide +kernel
theorem d25_2 : decode jdk_52_method_91_code 2 = .ok (.invokestatic 48, 3) := by decide +kernel
theorem d25_5 : decode jdk_52_method_91_code 5 = .ok (.invokestatic 414, 3) := by decide +kernel
theorem d25_8 : decode jdk_52_method_91_code 8 = .ok (.return_, 1) := by decide +kernel
abbrev y25_0 : MethodName := (⟨"java/lang/StringUTF16", "checkIndex", "(I[B)V"⟩ : MethodName)
abbrev R25_0 : Room := { frames := 2, cells := 0, slots := 0, locals := 27 }
set_option maxRecDepth 65536 in
set_option maxHeartbeats 4000000 in
theorem ef25_0 (b : Addr)  (mid : MethodId) : entryFrame mid #[(.int (0 : Int32)), (.ref b)] 2 = mkF mid 0 #[.val (.int (0 : Int32)), .val (.ref b)] [] := by first | (simp [entryFrame, mkF, argsToLocals, Value.category]; done) | rfl
set_option maxRecDepth 65536 in
set_option maxHeartbeats 40000000 in
theorem rm25_0 (l : Launch) (Z : State) (a0 : Array Value) (hw : ∀ d ∈ tables_1, d.before a0 Z = true) (n0 : Nat) (ws : List Jvm.Cond) (b : Addr) (f : Nat → Value) (fm : Value) (h0 : Heap) (hn0 : n0 ≤ h0.size) (e0 : Ars Z h0 b .byte 4 f) (e1 : Old Z n0 h0) (e2 : Sta Z Z.heap "jdk/internal/util/Preconditions" "SIOOBE_FORMATTER" "Ljava/util/function/BiFunction;" fm) (e3 : fm.isRef = true) :
    Ctr l Z n0 y25_0 jdk_52_method_91_code 2 (none) ws R25_0 #[(.int (0 : Int32)), (.ref b)] h0 (QV fun h => (h0 = h) ∧ (True)) := by
  refine ctr_of pn25 hn0 (ef25_0 b) fun G A0 => ?_
  have A1 := A0.iloadN (v := (0 : Int32)) (pc' := 1) d25_0 rfl rfl
  have A2 := A1.aloadN (v := (.ref b)) (pc' := 2) d25_1 rfl rfl rfl
  obtain ⟨r4, _, ⟨rfl, q5⟩, A3⟩ := W.kI (A2.callS (argsL := [(.ref b)]) (rest := [(.int (0 : Int32))]) (C' := 0) (S' := 0) (pc' := 5) d25_2 (hw _ (List.mem_of_getElem? (i := 108) rfl)) (hw _ (List.mem_of_getElem? (i := 109) rfl)) (hw _ (List.mem_of_getElem? (i := 29) rfl)) (hw _ (List.mem_of_getElem? (i := 110) rfl)) (rm26 l Z a0 hw n0 [] (b) (f) h0 A2.size e0) rfl rfl pd_3 rfl rfl (by decide) (by decide) (Nat.le_of_ble_eq_true rfl) (by decide) (by decide) rfl rfl rfl)
  subst q5
  obtain ⟨_, ⟨rfl, q9⟩, A7⟩ := W.kV (A3.callS (argsL := [(.int (0 : Int32)), (.int (2 : Int32))]) (rest := []) (C' := 0) (S' := 0) (pc' := 8) d25_5 (hw _ (List.mem_of_getElem? (i := 111) rfl)) (hw _ (List.mem_of_getElem? (i := 65) rfl)) (hw _ (List.mem_of_getElem? (i := 15) rfl)) (hw _ (List.mem_of_getElem? (i := 66) rfl)) (rm15_0 l Z a0 hw n0 []  (_) h0 A3.size e1 e2 (by assumption)) rfl rfl pd_2 rfl rfl (by decide) (by decide) (Nat.le_of_ble_eq_true rfl) (by decide) (by decide) rfl rfl rfl)
  refine A7.retV d25_8 (by decide) (by decide) ⟨rfl, ⟨rfl, ?_⟩⟩
  trivial
theorem pn23 : plainFor (⟨"java/lang/StringUTF16", "getChar", "([BI)C"⟩ : MethodName) = true := by first | exact plainFor_of_name (by first | (simp [plainName, overriddenIn]; done) | decide +kernel) | exact Jvm.Free.JP.mathPlain rfl (by decide +kernel) | decide +kernel
theorem d23_0 : decode jdk_52_method_5_code 0 = .ok (.getstatic 44, 3) := by decide +kernel
theorem d23_3 : decode jdk_52_method_5_code 3 = .ok (.ifCond .ne 25, 3) := by decide +kernel
theorem d23_28 : decode jdk_52_method_5_code 28 = .ok (.iload_n 1, 1) := by decide +kernel
theorem d23_29 : decode jdk_52_method_5_code 29 = .ok (.iconst 1, 1) := by decide +kernel
theorem d23_30 : decode jdk_52_method_5_code 30 = .ok (.ishl, 1) := by decide +kernel
theorem d23_31 : decode jdk_52_method_5_code 31 = .ok (.istore_n 1, 1) := by decide +kernel
theorem d23_32 : decode jdk_52_method_5_code 32 = .ok (.aload_n 0, 1) := by decide +kernel
theorem d23_33 : decode jdk_52_method_5_code 33 = .ok (.iload_n 1, 1) := by decide +kernel
theorem d23_34 : decode jdk_52_method_5_code 34 = .ok (.iinc 1 1, 3) := by decide +kernel
theorem d23_37 : decode jdk_52_method_5_code 37 = .ok (.baload, 1) := by decide +kernel
theorem d23_38 : decode jdk_52_method_5_code 38 = .ok (.sipush 255, 3) := by decide +kernel
theorem d23_41 : decode jdk_52_method_5_code 41 = .ok (.iand, 1) := by decide +kernel
theorem d23_42 : decode jdk_52_method_5_code 42 = .ok (.getstatic 59, 3) := by decide +kernel
theorem d23_45 : decode jdk_52_method_5_code 45 = .ok (.ishl, 1) := by decide +kernel
theorem d23_46 : decode jdk_52_method_5_code 46 = .ok (.aload_n 0, 1) := by decide +kernel
theorem d23_47 : decode jdk_52_method_5_code 47 = .ok (.iload_n 1, 1) := by decide +kernel
theorem d23_48 : decode jdk_52_method_5_code 48 = .ok (.baload, 1) := by decide +kernel
theorem d23_49 : decode jdk_52_method_5_code 49 = .ok (.sipush 255, 3) := by decide +kernel
theorem d23_52 : decode jdk_52_method_5_code 52 = .ok (.iand, 1) := by decide +kernel
theorem d23_53 : decode jdk_52_method_5_code 53 = .ok (.getstatic 63, 3) := by decide +kernel
theorem d23_56 : decode jdk_52_method_5_code 56 = .ok (.ishl, 1) := by decide +kernel
theorem d23_57 : decode jdk_52_method_5_code 57 = .ok (.ior, 1) := by decide +kernel
theorem d23_58 : decode jdk_52_method_5_code 58 = .ok (.i2c, 1) := by decide +kernel
theorem d23_59 : decode jdk_52_method_5_code 59 = .ok (.ireturn, 1) := by decide +kernel
abbrev y23_0 : MethodName := (⟨"java/lang/StringUTF16", "getChar", "([BI)C"⟩ : MethodName)
abbrev R23_0 : Room := { frames := 0, cells := 0, slots := 0, locals := 0 }
set_option maxRecDepth 65536 in
set_option maxHeartbeats 4000000 in
theorem ef23_0 (b : Addr)  (mid : MethodId) : entryFrame mid #[(.ref b), (.int (0 : Int32))] 2 = mkF mid 0 #[.val (.ref b), .val (.int (0 : Int32))] [] := by first | (simp [entryFrame, mkF, argsToLocals, Value.category]; done) | rfl
set_option maxRecDepth 65536 in
set_option maxHeartbeats 40000000 in
theorem rm23_0 (l : Launch) (Z : State) (a0 : Array Value) (hw : ∀ d ∈ tables_1, d.before a0 Z = true) (n0 : Nat) (ws : List Jvm.Cond) (b : Addr) (f : Nat → Value) (x : Int32) (h0 : Heap) (hn0 : n0 ≤ h0.size) (e0 : Ars Z h0 b .byte 4 f) (e1 : f 0 = .int (own_hi x)) (e2 : f 1 = .int (own_lo x)) (e3 : 0 ≤ x.toInt ∧ x.toInt ≤ 65535) (e4 : Old Z n0 h0) (e5 : Sta Z Z.heap "java/lang/StringUTF16" "$assertionsDisabled" "Z" (.int (1 : Int32))) (e6 : Sta Z Z.heap "java/lang/StringUTF16" "HI_BYTE_SHIFT" "I" (.int (0 : Int32))) (e7 : Sta Z Z.heap "java/lang/StringUTF16" "LO_BYTE_SHIFT" "I" (.int (8 : Int32))) :
    Ctr l Z n0 y23_0 jdk_52_method_5_code 2 (some .char) ws R23_0 #[(.ref b), (.int (0 : Int32))] h0 (QI fun r h => (h0 = h) ∧ (r = x)) := by
  refine ctr_of pn23 hn0 (ef23_0 b) fun G A0 => ?_
  have f2 := e5.ext e4.2
  have A1 := A0.getS (pc' := 3) (host := "") d23_0 (Or.inl (hw _ (List.mem_of_getElem? (i := 96) rfl))) Via.refl f2 rfl
  have A4 := A1.ifYes (pc' := 28) d23_3 (feq (ine (x := (1 : Int32)) (y := (0 : Int32)) rfl rfl (by decide : ¬ ((1 : Int) = 0)))).2 (by decide) (by decide)
  have A5 := A4.iloadN (v := (0 : Int32)) (pc' := 29) d23_28 rfl rfl
  have A6 := A5.iconst (z := (1 : Int32)) (pc' := 30) d23_29 rfl rfl
  have A7 := A6.ishl (pc' := 31) d23_30 rfl
  have A8 := A7.topI (z := (0 : Int32)) (by decide)
  have A9 := A8.istoreN (Ls' := #[.val (.ref b), .val (.int (0 : Int32))]) (pc' := 32) d23_31 rfl rfl
  have A10 := A9.aloadN (v := (.ref b)) (pc' := 33) d23_32 rfl rfl rfl
  have A11 := A10.iloadN (v := (0 : Int32)) (pc' := 34) d23_33 rfl rfl
  have A12 := A11.iinc (v := (0 : Int32)) (z := (1 : Int32)) (Ls' := #[.val (.ref b), .val (.int (1 : Int32))]) (pc' := 37) d23_34 rfl (by decide) rfl rfl
  have A13 := A12.baload (i := 0) (v := (.int (own_hi x))) (pc' := 38) d23_37 e0 rfl (by decide) e1 rfl
  have A14 := A13.sipush (z := (255 : Int32)) (pc' := 41) d23_38 rfl rfl
  have A15 := A14.iand (pc' := 42) d23_41 rfl
  have f17 := e6.ext e4.2
  have A16 := A15.getS (pc' := 45) (host := "") d23_42 (Or.inl (hw _ (List.mem_of_getElem? (i := 97) rfl))) Via.refl f17 rfl
  have A18 := A16.ishl (pc' := 46) d23_45 rfl
  have A19 := A18.aloadN (v := (.ref b)) (pc' := 47) d23_46 rfl rfl rfl
  have A20 := A19.iloadN (v := (1 : Int32)) (pc' := 48) d23_47 rfl rfl
  have A21 := A20.baload (i := 1) (v := (.int (own_lo x))) (pc' := 49) d23_48 e0 rfl (by decide) e2 rfl
  have A22 := A21.sipush (z := (255 : Int32)) (pc' := 52) d23_49 rfl rfl
  have A23 := A22.iand (pc' := 53) d23_52 rfl
  have f25 := e7.ext e4.2
  have A24 := A23.getS (pc' := 56) (host := "") d23_53 (Or.inl (hw _ (List.mem_of_getElem? (i := 98) rfl))) Via.refl f25 rfl
  have A26 := A24.ishl (pc' := 57) d23_56 rfl
  have A27 := A26.ior (pc' := 58) d23_57 rfl
  have A28 := A27.i2c (pc' := 59) d23_58 rfl
  refine A28.retN (t := .char) (z' := ((((own_hi x) &&& (255 : Int32)) <<< ((0 : Int32) &&& 31)) ||| (((own_lo x) &&& (255 : Int32)) <<< ((8 : Int32) &&& 31))).toUInt32.toUInt16.toUInt32.toInt32) d23_59 (by decide) (by decide) (by simp) (by exact own_nc _) ⟨_, rfl, ⟨rfl, ?_⟩⟩
  exact own_gc x e3.1 e3.2
theorem pn24 : plainFor (⟨"java/lang/StringUTF16", "charAt", "([BI)C"⟩ : MethodName) = true := by first | exact plainFor_of_name (by first | (simp [plainName, overriddenIn]; done) | decide +kernel) | exact Jvm.Free.JP.mathPlain rfl (by decide +kernel) | decide +kernel
theorem d24_0 : decode jdk_52_method_83_code 0 = .ok (.iload_n 1, 1) := by decide +kernel
theorem d24_1 : decode jdk_52_method_83_code 1 = .ok (.aload_n 0, 1) := by decide +kernel
theorem d24_2 : decode jdk_52_method_83_code 2 = .ok (.invokestatic 67, 3) := by decide +kernel
theorem d24_5 : decode jdk_52_method_83_code 5 = .ok (.aload_n 0, 1) := by decide +kernel
theorem d24_6 : decode jdk_52_method_83_code 6 = .ok (.iload_n 1, 1) := by decide +kernel
theorem d24_7 : decode jdk_52_method_83_code 7 = .ok (.invokestatic 71, 3) := by decide +kernel
theorem d24_10 : decode jdk_52_method_83_code 10 = .ok (.ireturn, 1) := by decide +kernel
abbrev y24_0 : MethodName := (⟨"java/lang/StringUTF16", "charAt", "([BI)C"⟩ : MethodName)
abbrev R24_0 : Room := { frames := 3, cells := 0, slots := 0, locals := 40 }
set_option maxRecDepth 65536 in
set_option maxHeartbeats 4000000 in
theorem ef24_0 (b : Addr)  (mid : MethodId) : entryFrame mid #[(.ref b), (.int (0 : Int32))] 2 = mkF mid 0 #[.val (.ref b), .val (.int (0 : Int32))] [] := by first | (simp [entryFrame, mkF, argsToLocals, Value.category]; done) | rfl
set_option maxRecDepth 65536 in
set_option maxHeartbeats 40000000 in
theorem rm24_0 (l : Launch) (Z : State) (a0 : Array Value) (hw : ∀ d ∈ tables_1, d.before a0 Z = true) (n0 : Nat) (ws : List Jvm.Cond) (b : Addr) (f : Nat → Value) (x : Int32) (fm : Value) (h0 : Heap) (hn0 : n0 ≤ h0.size) (e0 : Ars Z h0 b .byte 4 f) (e1 : f 0 = .int (own_hi x)) (e2 : f 1 = .int (own_lo x)) (e3 : 0 ≤ x.toInt ∧ x.toInt ≤ 65535) (e4 : Old Z n0 h0) (e5 : Sta Z Z.heap "java/lang/StringUTF16" "$assertionsDisabled" "Z" (.int (1 : Int32))) (e6 : Sta Z Z.heap "java/lang/StringUTF16" "HI_BYTE_SHIFT" "I" (.int (0 : Int32))) (e7 : Sta Z Z.heap "java/lang/StringUTF16" "LO_BYTE_SHIFT" "I" (.int (8 : Int32))) (e8 : Sta Z Z.heap "jdk/internal/util/Preconditions" "SIOOBE_FORMATTER" "Ljava/util/function/BiFunction;" fm) (e9 : fm.isRef = true) :
    Ctr l Z n0 y24_0 jdk_52_method_83_code 2 (some .char) ws R24_0 #[(.ref b), (.int (0 : Int32))] h0 (QI fun r h => (h0 = h) ∧ (r = x)) := by
  refine ctr_of pn24 hn0 (ef24_0 b) fun G A0 => ?_
  have A1 := A0.iloadN (v := (0 : Int32)) (pc' := 1) d24_0 rfl rfl
  have A2 := A1.aloadN (v := (.ref b)) (pc' := 2) d24_1 rfl rfl rfl
  obtain ⟨_, ⟨rfl, q5⟩, A3⟩ := W.kV (A2.callS (argsL := [(.int (0 : Int32)), (.ref b)]) (rest := []) (C' := 0) (S' := 0) (pc' := 5) d24_2 (hw _ (List.mem_of_getElem? (i := 105) rfl)) (hw _ (List.mem_of_getElem? (i := 106) rfl)) (hw _ (List.mem_of_getElem? (i := 29) rfl)) (hw _ (List.mem_of_getElem? (i := 107) rfl)) (rm25_0 l Z a0 hw n0 [] (b) (f) (_) h0 A2.size e0 e4 e8 (by assumption)) rfl rfl pd_4 rfl rfl (by decide) (by decide) (Nat.le_of_ble_eq_true rfl) (by decide) (by decide) rfl rfl rfl)
  have A7 := A3.aloadN (v := (.ref b)) (pc' := 6) d24_5 rfl rfl rfl
  have A8 := A7.iloadN (v := (0 : Int32)) (pc' := 7) d24_6 rfl rfl
  obtain ⟨r10, _, ⟨rfl, q11⟩, A9⟩ := W.kI (A8.callS (argsL := [(.ref b), (.int (0 : Int32))]) (rest := []) (C' := 0) (S' := 0) (pc' := 10) d24_7 (hw _ (List.mem_of_getElem? (i := 99) rfl)) (hw _ (List.mem_of_getElem? (i := 100) rfl)) (hw _ (List.mem_of_getElem? (i := 29) rfl)) (hw _ (List.mem_of_getElem? (i := 101) rfl)) (rm23_0 l Z a0 hw n0 [] (b) (f) (x) h0 A8.size e0 (by assumption) (by assumption) (by assumption) e4 e5 e6 e7) rfl rfl pd_5 rfl rfl (by decide) (by decide) (Nat.le_of_ble_eq_true rfl) (by decide) (by decide) rfl rfl rfl)
  have tq := congrArg Int32.toInt q11
  refine A9.retN (t := .char) (z' := r10) d24_10 (by decide) (by decide) (by simp) (by exact own_nch _ (by omega) (by omega)) ⟨_, rfl, ⟨rfl, ?_⟩⟩
  first | assumption | omega
theorem pn22 : plainFor (⟨"java/lang/StringUTF16", "putChar", "([BII)V"⟩ : MethodName) = true := by first | exact plainFor_of_name (by first | (simp [plainName, overriddenIn]; done) | decide +kernel) | exact Jvm.Free.JP.mathPlain rfl (by decide +kernel) | decide +kernel
theorem d22_0 : decode jdk_52_method_4_code 0 = .ok (.getstatic 44, 3) := by decide +kernel
theorem d22_3 : decode jdk_52_method_4_code 3 = .ok (.ifCond .ne 25, 3) := by decide +kernel
theorem d22_28 : decode jdk_52_method_4_code 28 = .ok (.iload_n 1, 1) := by decide +kernel
theorem d22_29 : decode jdk_52_method_4_code 29 = .ok (.iconst 1, 1) := by decide +kernel
theorem d22_30 : decode jdk_52_method_4_code 30 = .ok (.ishl, 1) := by decide +kernel
theorem d22_31 : decode jdk_52_method_4_code 31 = .ok (.istore_n 1, 1) := by decide +kernel
theorem d22_32 : decode jdk_52_method_4_code 32 = .ok (.aload_n 0, 1) := by decide +kernel
theorem d22_33 : decode jdk_52_method_4_code 33 = .ok (.iload_n 1, 1) := by decide +kernel
theorem d22_34 : decode jdk_52_method_4_code 34 = .ok (.iinc 1 1, 3) := by decide +kernel
theorem d22_37 : decode jdk_52_method_4_code 37 = .ok (.iload_n 2, 1) := by decide +kernel
theorem d22_38 : decode jdk_52_method_4_code 38 = .ok (.getstatic 59, 3) := by decide +kernel
theorem d22_41 : decode jdk_52_method_4_code 41 = .ok (.ishr, 1) := by decide +kernel
theorem d22_42 : decode jdk_52_method_4_code 42 = .ok (.i2b, 1) := by decide +kernel
theorem d22_43 : decode jdk_52_method_4_code 43 = .ok (.bastore, 1) := by decide +kernel
theorem d22_44 : decode jdk_52_method_4_code 44 = .ok (.aload_n 0, 1) := by decide +kernel
theorem d22_45 : decode jdk_52_method_4_code 45 = .ok (.iload_n 1, 1) := by decide +kernel
theorem d22_46 : decode jdk_52_method_4_code 46 = .ok (.iload_n 2, 1) := by decide +kernel
theorem d22_47 : decode jdk_52_method_4_code 47 = .ok (.getstatic 63, 3) := by decide +kernel
theorem d22_50 : decode jdk_52_method_4_code 50 = .ok (.ishr, 1) := by decide +kernel
theorem d22_51 : decode jdk_52_method_4_code 51 = .ok (.i2b, 1) := by decide +kernel
theorem d22_52 : decode jdk_52_method_4_code 52 = .ok (.bastore, 1) := by decide +kernel
theorem d22_53 : decode jdk_52_method_4_code 53 = .ok (.return_, 1) := by decide +kernel
abbrev y22_0 : MethodName := (⟨"java/lang/StringUTF16", "putChar", "([BII)V"⟩ : MethodName)
abbrev R22_0 : Room := { frames := 0, cells := 0, slots := 0, locals := 0 }
set_option maxRecDepth 65536 in
set_option maxHeartbeats 4000000 in
theorem ef22_0 (b : Addr) (x : Int32)  (mid : MethodId) : entryFrame mid #[(.ref b), (.int (0 : Int32)), (.int x)] 3 = mkF mid 0 #[.val (.ref b), .val (.int (0 : Int32)), .val (.int x)] [] := by first | (simp [entryFrame, mkF, argsToLocals, Value.category]; done) | rfl
set_option maxRecDepth 65536 in
set_option maxHeartbeats 40000000 in
theorem rm22_0 (l : Launch) (Z : State) (a0 : Array Value) (hw : ∀ d ∈ tables_1, d.before a0 Z = true) (n0 : Nat) (ws : List Jvm.Cond) (b : Addr) (x : Int32) (f : Nat → Value) (h0 : Heap) (hn0 : n0 ≤ h0.size) (e0 : Ars Z h0 b .byte 4 f) (e1 : n0 ≤ b) (e2 : Old Z n0 h0) (e3 : Sta Z Z.heap "java/lang/StringUTF16" "$assertionsDisabled" "Z" (.int (1 : Int32))) (e4 : Sta Z Z.heap "java/lang/StringUTF16" "HI_BYTE_SHIFT" "I" (.int (0 : Int32))) (e5 : Sta Z Z.heap "java/lang/StringUTF16" "LO_BYTE_SHIFT" "I" (.int (8 : Int32))) :
    Ctr l Z n0 y22_0 jdk_52_method_4_code 3 (none) ws R22_0 #[(.ref b), (.int (0 : Int32)), (.int x)] h0 (QV fun h => (Keep h0 h [b]) ∧ (Ars Z h b .byte 4 (upd (upd f 0 (.int (own_hi x))) 1 (.int (own_lo x)))) ∧ (True)) := by
  refine ctr_of pn22 hn0 (ef22_0 b x) fun G A0 => ?_
  have f2 := e3.ext e2.2
  have A1 := A0.getS (pc' := 3) (host := "") d22_0 (Or.inl (hw _ (List.mem_of_getElem? (i := 96) rfl))) Via.refl f2 rfl
  have A4 := A1.ifYes (pc' := 28) d22_3 (feq (ine (x := (1 : Int32)) (y := (0 : Int32)) rfl rfl (by decide : ¬ ((1 : Int) = 0)))).2 (by decide) (by decide)
  have A5 := A4.iloadN (v := (0 : Int32)) (pc' := 29) d22_28 rfl rfl
  have A6 := A5.iconst (z := (1 : Int32)) (pc' := 30) d22_29 rfl rfl
  have A7 := A6.ishl (pc' := 31) d22_30 rfl
  have A8 := A7.topI (z := (0 : Int32)) (by decide)
  have A9 := A8.istoreN (Ls' := #[.val (.ref b), .val (.int (0 : Int32)), .val (.int x)]) (pc' := 32) d22_31 rfl rfl
  have A10 := A9.aloadN (v := (.ref b)) (pc' := 33) d22_32 rfl rfl rfl
  have A11 := A10.iloadN (v := (0 : Int32)) (pc' := 34) d22_33 rfl rfl
  have A12 := A11.iinc (v := (0 : Int32)) (z := (1 : Int32)) (Ls' := #[.val (.ref b), .val (.int (1 : Int32)), .val (.int x)]) (pc' := 37) d22_34 rfl (by decide) rfl rfl
  have A13 := A12.iloadN (v := x) (pc' := 38) d22_37 rfl rfl
  have f15 := e4.ext e2.2
  have A14 := A13.getS (pc' := 41) (host := "") d22_38 (Or.inl (hw _ (List.mem_of_getElem? (i := 97) rfl))) Via.refl f15 rfl
  have A16 := A14.ishr (pc' := 42) d22_41 rfl
  have A17 := A16.i2b (pc' := 43) d22_42 rfl
  obtain ⟨h18, w19, X20, A21⟩ := A17.bastore (i := 0) (pc' := 44) d22_43 e0 rfl (by decide) e1 rfl
  have A22 := A21.aloadN (v := (.ref b)) (pc' := 45) d22_44 rfl rfl rfl
  have A23 := A22.iloadN (v := (1 : Int32)) (pc' := 46) d22_45 rfl rfl
  have A24 := A23.iloadN (v := x) (pc' := 47) d22_46 rfl rfl
  have f26 := (e2.wr w19 e1)
  have f27 := e5.ext f26.2
  have A25 := A24.getS (pc' := 50) (host := "") d22_47 (Or.inl (hw _ (List.mem_of_getElem? (i := 98) rfl))) Via.refl f27 rfl
  have A28 := A25.ishr (pc' := 51) d22_50 rfl
  have A29 := A28.i2b (pc' := 52) d22_51 rfl
  obtain ⟨h30, w31, X32, A33⟩ := A29.bastore (i := 1) (pc' := 53) d22_52 X20 rfl (by decide) e1 rfl
  have K34 : Keep h0 h30 [b] := (((Keep.refl h0 [b]).wr w19 (Or.inl (List.mem_of_getElem? (i := 0) rfl))).wr w31 (Or.inl (List.mem_of_getElem? (i := 0) rfl)))
  refine A33.retV d22_53 (by decide) (by decide) ⟨rfl, ⟨K34, X32, ?_⟩⟩
  trivial
abbrev y25_1 : MethodName := (⟨"java/lang/StringUTF16", "checkIndex", "(I[B)V"⟩ : MethodName)
abbrev R25_1 : Room := { frames := 2, cells := 0, slots := 0, locals := 27 }
set_option maxRecDepth 65536 in
set_option maxHeartbeats 4000000 in
theorem ef25_1 (b : Addr)  (mid : MethodId) : entryFrame mid #[(.int (1 : Int32)), (.ref b)] 2 = mkF mid 0 #[.val (.int (1 : Int32)), .val (.ref b)] [] := by first | (simp [entryFrame, mkF, argsToLocals, Value.category]; done) | rfl
set_option maxRecDepth 65536 in
set_option maxHeartbeats 40000000 in
theorem rm25_1 (l : Launch) (Z : State) (a0 : Array Value) (hw : ∀ d ∈ tables_1, d.before a0 Z = true) (n0 : Nat) (ws : List Jvm.Cond) (b : Addr) (f : Nat → Value) (fm : Value) (h0 : Heap) (hn0 : n0 ≤ h0.size) (e0 : Ars Z h0 b .byte 4 f) (e1 : Old Z n0 h0) (e2 : Sta Z Z.heap "jdk/internal/util/Preconditions" "SIOOBE_FORMATTER" "Ljava/util/function/BiFunction;" fm) (e3 : fm.isRef = true) :
    Ctr l Z n0 y25_1 jdk_52_method_91_code 2 (none) ws R25_1 #[(.int (1 : Int32)), (.ref b)] h0 (QV fun h => (h0 = h) ∧ (True)) := by
  refine ctr_of pn25 hn0 (ef25_1 b) fun G A0 => ?_
  have A1 := A0.iloadN (v := (1 : Int32)) (pc' := 1) d25_0 rfl rfl
  have A2 := A1.aloadN (v := (.ref b)) (pc' := 2) d25_1 rfl rfl rfl
  obtain ⟨r4, _, ⟨rfl, q5⟩, A3⟩ := W.kI (A2.callS (argsL := [(.ref b)]) (rest := [(.int (1 : Int32))]) (C' := 0) (S' := 0) (pc' := 5) d25_2 (hw _ (List.mem_of_getElem? (i := 108) rfl)) (hw _ (List.mem_of_getElem? (i := 109) rfl)) (hw _ (List.mem_of_getElem? (i := 29) rfl)) (hw _ (List.mem_of_getElem? (i := 110) rfl)) (rm26 l Z a0 hw n0 [] (b) (f) h0 A2.size e0) rfl rfl pd_3 rfl rfl (by decide) (by decide) (Nat.le_of_ble_eq_true rfl) (by decide) (by decide) rfl rfl rfl)
  subst q5
  obtain ⟨_, ⟨rfl, q9⟩, A7⟩ := W.kV (A3.callS (argsL := [(.int (1 : Int32)), (.int (2 : Int32))]) (rest := []) (C' := 0) (S' := 0) (pc' := 8) d25_5 (hw _ (List.mem_of_getElem? (i := 111) rfl)) (hw _ (List.mem_of_getElem? (i := 65) rfl)) (hw _ (List.mem_of_getElem? (i := 15) rfl)) (hw _ (List.mem_of_getElem? (i := 66) rfl)) (rm15_1 l Z a0 hw n0 []  (_) h0 A3.size e1 e2 (by assumption)) rfl rfl pd_2 rfl rfl (by decide) (by decide) (Nat.le_of_ble_eq_true rfl) (by decide) (by decide) rfl rfl rfl)
  refine A7.retV d25_8 (by decide) (by decide) ⟨rfl, ⟨rfl, ?_⟩⟩
  trivial
abbrev y23_1 : MethodName := (⟨"java/lang/StringUTF16", "getChar", "([BI)C"⟩ : MethodName)
abbrev R23_1 : Room := { frames := 0, cells := 0, slots := 0, locals := 0 }
set_option maxRecDepth 65536 in
set_option maxHeartbeats 4000000 in
theorem ef23_1 (b : Addr)  (mid : MethodId) : entryFrame mid #[(.ref b), (.int (1 : Int32))] 2 = mkF mid 0 #[.val (.ref b), .val (.int (1 : Int32))] [] := by first | (simp [entryFrame, mkF, argsToLocals, Value.category]; done) | rfl
set_option maxRecDepth 65536 in
set_option maxHeartbeats 40000000 in
theorem rm23_1 (l : Launch) (Z : State) (a0 : Array Value) (hw : ∀ d ∈ tables_1, d.before a0 Z = true) (n0 : Nat) (ws : List Jvm.Cond) (b : Addr) (f : Nat → Value) (x : Int32) (h0 : Heap) (hn0 : n0 ≤ h0.size) (e0 : Ars Z h0 b .byte 4 f) (e1 : f 2 = .int (own_hi x)) (e2 : f 3 = .int (own_lo x)) (e3 : 0 ≤ x.toInt ∧ x.toInt ≤ 65535) (e4 : Old Z n0 h0) (e5 : Sta Z Z.heap "java/lang/StringUTF16" "$assertionsDisabled" "Z" (.int (1 : Int32))) (e6 : Sta Z Z.heap "java/lang/StringUTF16" "HI_BYTE_SHIFT" "I" (.int (0 : Int32))) (e7 : Sta Z Z.heap "java/lang/StringUTF16" "LO_BYTE_SHIFT" "I" (.int (8 : Int32))) :
    Ctr l Z n0 y23_1 jdk_52_method_5_code 2 (some .char) ws R23_1 #[(.ref b), (.int (1 : Int32))] h0 (QI fun r h => (h0 = h) ∧ (r = x)) := by
  refine ctr_of pn23 hn0 (ef23_1 b) fun G A0 => ?_
  have f2 := e5.ext e4.2
  have A1 := A0.getS (pc' := 3) (host := "") d23_0 (Or.inl (hw _ (List.mem_of_getElem? (i := 96) rfl))) Via.refl f2 rfl
  have A4 := A1.ifYes (pc' := 28) d23_3 (feq (ine (x := (1 : Int32)) (y := (0 : Int32)) rfl rfl (by decide : ¬ ((1 : Int) = 0)))).2 (by decide) (by decide)
  have A5 := A4.iloadN (v := (1 : Int32)) (pc' := 29) d23_28 rfl rfl
  have A6 := A5.iconst (z := (1 : Int32)) (pc' := 30) d23_29 rfl rfl
  have A7 := A6.ishl (pc' := 31) d23_30 rfl
  have A8 := A7.topI (z := (2 : Int32)) (by decide)
  have A9 := A8.istoreN (Ls' := #[.val (.ref b), .val (.int (2 : Int32))]) (pc' := 32) d23_31 rfl rfl
  have A10 := A9.aloadN (v := (.ref b)) (pc' := 33) d23_32 rfl rfl rfl
  have A11 := A10.iloadN (v := (2 : Int32)) (pc' := 34) d23_33 rfl rfl
  have A12 := A11.iinc (v := (2 : Int32)) (z := (3 : Int32)) (Ls' := #[.val (.ref b), .val (.int (3 : Int32))]) (pc' := 37) d23_34 rfl (by decide) rfl rfl
  have A13 := A12.baload (i := 2) (v := (.int (own_hi x))) (pc' := 38) d23_37 e0 rfl (by decide) e1 rfl
  have A14 := A13.sipush (z := (255 : Int32)) (pc' := 41) d23_38 rfl rfl
  have A15 := A14.iand (pc' := 42) d23_41 rfl
  have f17 := e6.ext e4.2
  have A16 := A15.getS (pc' := 45) (host := "") d23_42 (Or.inl (hw _ (List.mem_of_getElem? (i := 97) rfl))) Via.refl f17 rfl
  have A18 := A16.ishl (pc' := 46) d23_45 rfl
  have A19 := A18.aloadN (v := (.ref b)) (pc' := 47) d23_46 rfl rfl rfl
  have A20 := A19.iloadN (v := (3 : Int32)) (pc' := 48) d23_47 rfl rfl
  have A21 := A20.baload (i := 3) (v := (.int (own_lo x))) (pc' := 49) d23_48 e0 rfl (by decide) e2 rfl
  have A22 := A21.sipush (z := (255 : Int32)) (pc' := 52) d23_49 rfl rfl
  have A23 := A22.iand (pc' := 53) d23_52 rfl
  have f25 := e7.ext e4.2
  have A24 := A23.getS (pc' := 56) (host := "") d23_53 (Or.inl (hw _ (List.mem_of_getElem? (i := 98) rfl))) Via.refl f25 rfl
  have A26 := A24.ishl (pc' := 57) d23_56 rfl
  have A27 := A26.ior (pc' := 58) d23_57 rfl
  have A28 := A27.i2c (pc' := 59) d23_58 rfl
  refine A28.retN (t := .char) (z' := ((((own_hi x) &&& (255 : Int32)) <<< ((0 : Int32) &&& 31)) ||| (((own_lo x) &&& (255 : Int32)) <<< ((8 : Int32) &&& 31))).toUInt32.toUInt16.toUInt32.toInt32) d23_59 (by decide) (by decide) (by simp) (by exact own_nc _) ⟨_, rfl, ⟨rfl, ?_⟩⟩
  exact own_gc x e3.1 e3.2
abbrev y24_1 : MethodName := (⟨"java/lang/StringUTF16", "charAt", "([BI)C"⟩ : MethodName)
abbrev R24_1 : Room := { frames := 3, cells := 0, slots := 0, locals := 40 }
set_option maxRecDepth 65536 in
set_option maxHeartbeats 4000000 in
theorem ef24_1 (b : Addr)  (mid : MethodId) : entryFrame mid #[(.ref b), (.int (1 : Int32))] 2 = mkF mid 0 #[.val (.ref b), .val (.int (1 : Int32))] [] := by first | (simp [entryFrame, mkF, argsToLocals, Value.category]; done) | rfl
set_option maxRecDepth 65536 in
set_option maxHeartbeats 40000000 in
theorem rm24_1 (l : Launch) (Z : State) (a0 : Array Value) (hw : ∀ d ∈ tables_1, d.before a0 Z = true) (n0 : Nat) (ws : List Jvm.Cond) (b : Addr) (f : Nat → Value) (x : Int32) (fm : Value) (h0 : Heap) (hn0 : n0 ≤ h0.size) (e0 : Ars Z h0 b .byte 4 f) (e1 : f 2 = .int (own_hi x)) (e2 : f 3 = .int (own_lo x)) (e3 : 0 ≤ x.toInt ∧ x.toInt ≤ 65535) (e4 : Old Z n0 h0) (e5 : Sta Z Z.heap "java/lang/StringUTF16" "$assertionsDisabled" "Z" (.int (1 : Int32))) (e6 : Sta Z Z.heap "java/lang/StringUTF16" "HI_BYTE_SHIFT" "I" (.int (0 : Int32))) (e7 : Sta Z Z.heap "java/lang/StringUTF16" "LO_BYTE_SHIFT" "I" (.int (8 : Int32))) (e8 : Sta Z Z.heap "jdk/internal/util/Preconditions" "SIOOBE_FORMATTER" "Ljava/util/function/BiFunction;" fm) (e9 : fm.isRef = true) :
    Ctr l Z n0 y24_1 jdk_52_method_83_code 2 (some .char) ws R24_1 #[(.ref b), (.int (1 : Int32))] h0 (QI fun r h => (h0 = h) ∧ (r = x)) := by
  refine ctr_of pn24 hn0 (ef24_1 b) fun G A0 => ?_
  have A1 := A0.iloadN (v := (1 : Int32)) (pc' := 1) d24_0 rfl rfl
  have A2 := A1.aloadN (v := (.ref b)) (pc' := 2) d24_1 rfl rfl rfl
  obtain ⟨_, ⟨rfl, q5⟩, A3⟩ := W.kV (A2.callS (argsL := [(.int (1 : Int32)), (.ref b)]) (rest := []) (C' := 0) (S' := 0) (pc' := 5) d24_2 (hw _ (List.mem_of_getElem? (i := 105) rfl)) (hw _ (List.mem_of_getElem? (i := 106) rfl)) (hw _ (List.mem_of_getElem? (i := 29) rfl)) (hw _ (List.mem_of_getElem? (i := 107) rfl)) (rm25_1 l Z a0 hw n0 [] (b) (f) (_) h0 A2.size e0 e4 e8 (by assumption)) rfl rfl pd_4 rfl rfl (by decide) (by decide) (Nat.le_of_ble_eq_true rfl) (by decide) (by decide) rfl rfl rfl)
  have A7 := A3.aloadN (v := (.ref b)) (pc' := 6) d24_5 rfl rfl rfl
  have A8 := A7.iloadN (v := (1 : Int32)) (pc' := 7) d24_6 rfl rfl
  obtain ⟨r10, _, ⟨rfl, q11⟩, A9⟩ := W.kI (A8.callS (argsL := [(.ref b), (.int (1 : Int32))]) (rest := []) (C' := 0) (S' := 0) (pc' := 10) d24_7 (hw _ (List.mem_of_getElem? (i := 99) rfl)) (hw _ (List.mem_of_getElem? (i := 100) rfl)) (hw _ (List.mem_of_getElem? (i := 29) rfl)) (hw _ (List.mem_of_getElem? (i := 101) rfl)) (rm23_1 l Z a0 hw n0 [] (b) (f) (x) h0 A8.size e0 (by assumption) (by assumption) (by assumption) e4 e5 e6 e7) rfl rfl pd_5 rfl rfl (by decide) (by decide) (Nat.le_of_ble_eq_true rfl) (by decide) (by decide) rfl rfl rfl)
  have tq := congrArg Int32.toInt q11
  refine A9.retN (t := .char) (z' := r10) d24_10 (by decide) (by decide) (by simp) (by exact own_nch _ (by omega) (by omega)) ⟨_, rfl, ⟨rfl, ?_⟩⟩
  first | assumption | omega
abbrev y22_1 : MethodName := (⟨"java/lang/StringUTF16", "putChar", "([BII)V"⟩ : MethodName)
abbrev R22_1 : Room := { frames := 0, cells := 0, slots := 0, locals := 0 }
set_option maxRecDepth 65536 in
set_option maxHeartbeats 4000000 in
theorem ef22_1 (b : Addr) (x : Int32)  (mid : MethodId) : entryFrame mid #[(.ref b), (.int (1 : Int32)), (.int x)] 3 = mkF mid 0 #[.val (.ref b), .val (.int (1 : Int32)), .val (.int x)] [] := by first | (simp [entryFrame, mkF, argsToLocals, Value.category]; done) | rfl
set_option maxRecDepth 65536 in
set_option maxHeartbeats 40000000 in
theorem rm22_1 (l : Launch) (Z : State) (a0 : Array Value) (hw : ∀ d ∈ tables_1, d.before a0 Z = true) (n0 : Nat) (ws : List Jvm.Cond) (b : Addr) (x : Int32) (f : Nat → Value) (h0 : Heap) (hn0 : n0 ≤ h0.size) (e0 : Ars Z h0 b .byte 4 f) (e1 : n0 ≤ b) (e2 : Old Z n0 h0) (e3 : Sta Z Z.heap "java/lang/StringUTF16" "$assertionsDisabled" "Z" (.int (1 : Int32))) (e4 : Sta Z Z.heap "java/lang/StringUTF16" "HI_BYTE_SHIFT" "I" (.int (0 : Int32))) (e5 : Sta Z Z.heap "java/lang/StringUTF16" "LO_BYTE_SHIFT" "I" (.int (8 : Int32))) :
    Ctr l Z n0 y22_1 jdk_52_method_4_code 3 (none) ws R22_1 #[(.ref b), (.int (1 : Int32)), (.int x)] h0 (QV fun h => (Keep h0 h [b]) ∧ (Ars Z h b .byte 4 (upd (upd f 2 (.int (own_hi x))) 3 (.int (own_lo x)))) ∧ (True)) := by
  refine ctr_of pn22 hn0 (ef22_1 b x) fun G A0 => ?_
  have f2 := e3.ext e2.2
  have A1 := A0.getS (pc' := 3) (host := "") d22_0 (Or.inl (hw _ (List.mem_of_getElem? (i := 96) rfl))) Via.refl f2 rfl
  have A4 := A1.ifYes (pc' := 28) d22_3 (feq (ine (x := (1 : Int32)) (y := (0 : Int32)) rfl rfl (by decide : ¬ ((1 : Int) = 0)))).2 (by decide) (by decide)
  have A5 := A4.iloadN (v := (1 : Int32)) (pc' := 29) d22_28 rfl rfl
  have A6 := A5.iconst (z := (1 : Int32)) (pc' := 30) d22_29 rfl rfl
  have A7 := A6.ishl (pc' := 31) d22_30 rfl
  have A8 := A7.topI (z := (2 : Int32)) (by decide)
  have A9 := A8.istoreN (Ls' := #[.val (.ref b), .val (.int (2 : Int32)), .val (.int x)]) (pc' := 32) d22_31 rfl rfl
  have A10 := A9.aloadN (v := (.ref b)) (pc' := 33) d22_32 rfl rfl rfl
  have A11 := A10.iloadN (v := (2 : Int32)) (pc' := 34) d22_33 rfl rfl
  have A12 := A11.iinc (v := (2 : Int32)) (z := (3 : Int32)) (Ls' := #[.val (.ref b), .val (.int (3 : Int32)), .val (.int x)]) (pc' := 37) d22_34 rfl (by decide) rfl rfl
  have A13 := A12.iloadN (v := x) (pc' := 38) d22_37 rfl rfl
  have f15 := e4.ext e2.2
  have A14 := A13.getS (pc' := 41) (host := "") d22_38 (Or.inl (hw _ (List.mem_of_getElem? (i := 97) rfl))) Via.refl f15 rfl
  have A16 := A14.ishr (pc' := 42) d22_41 rfl
  have A17 := A16.i2b (pc' := 43) d22_42 rfl
  obtain ⟨h18, w19, X20, A21⟩ := A17.bastore (i := 2) (pc' := 44) d22_43 e0 rfl (by decide) e1 rfl
  have A22 := A21.aloadN (v := (.ref b)) (pc' := 45) d22_44 rfl rfl rfl
  have A23 := A22.iloadN (v := (3 : Int32)) (pc' := 46) d22_45 rfl rfl
  have A24 := A23.iloadN (v := x) (pc' := 47) d22_46 rfl rfl
  have f26 := (e2.wr w19 e1)
  have f27 := e5.ext f26.2
  have A25 := A24.getS (pc' := 50) (host := "") d22_47 (Or.inl (hw _ (List.mem_of_getElem? (i := 98) rfl))) Via.refl f27 rfl
  have A28 := A25.ishr (pc' := 51) d22_50 rfl
  have A29 := A28.i2b (pc' := 52) d22_51 rfl
  obtain ⟨h30, w31, X32, A33⟩ := A29.bastore (i := 3) (pc' := 53) d22_52 X20 rfl (by decide) e1 rfl
  have K34 : Keep h0 h30 [b] := (((Keep.refl h0 [b]).wr w19 (Or.inl (List.mem_of_getElem? (i := 0) rfl))).wr w31 (Or.inl (List.mem_of_getElem? (i := 0) rfl)))
  refine A33.retV d22_53 (by decide) (by decide) ⟨rfl, ⟨K34, X32, ?_⟩⟩
  trivial
theorem pn21 : plainFor (⟨"java/lang/StringUTF16", "newBytesLength", "(I)I"⟩ : MethodName) = true := by first | exact plainFor_of_name (by first | (simp [plainName, overriddenIn]; done) | decide +kernel) | exact Jvm.Free.JP.mathPlain rfl (by decide +kernel) | decide +kernel
theorem d21_0 : decode jdk_52_method_3_code 0 = .ok (.iload_n 0, 1) := by decide +kernel
theorem d21_1 : decode jdk_52_method_3_code 1 = .ok (.ifCond .ge 11, 3) := by decide +kernel
theorem d21_12 : decode jdk_52_method_3_code 12 = .ok (.iload_n 0, 1) := by decide +kernel
theorem d21_13 : decode jdk_52_method_3_code 13 = .ok (.ldc 20, 2) := by decide +kernel
theorem d21_15 : decode jdk_52_method_3_code 15 = .ok (.if_icmp .lt 40, 3) := by decide +kernel
theorem d21_55 : decode jdk_52_method_3_code 55 = .ok (.iload_n 0, 1) := by decide +kernel
theorem d21_56 : decode jdk_52_method_3_code 56 = .ok (.iconst 1, 1) := by decide +kernel
theorem d21_57 : decode jdk_52_method_3_code 57 = .ok (.ishl, 1) := by decide +kernel
theorem d21_58 : decode jdk_52_method_3_code 58 = .ok (.ireturn, 1) := by decide +kernel
abbrev y21 : MethodName := (⟨"java/lang/StringUTF16", "newBytesLength", "(I)I"⟩ : MethodName)
abbrev R21 : Room := { frames := 0, cells := 0, slots := 0, locals := 0 }
set_option maxRecDepth 65536 in
set_option maxHeartbeats 4000000 in
theorem ef21   (mid : MethodId) : entryFrame mid #[(.int (2 : Int32))] 1 = mkF mid 0 #[.val (.int (2 : Int32))] [] := by first | (simp [entryFrame, mkF, argsToLocals, Value.category]; done) | rfl
set_option maxRecDepth 65536 in
set_option maxHeartbeats 40000000 in
theorem rm21 (l : Launch) (Z : State) (a0 : Array Value) (hw : ∀ d ∈ tables_1, d.before a0 Z = true) (n0 : Nat) (ws : List Jvm.Cond)   (h0 : Heap) (hn0 : n0 ≤ h0.size)  :
    Ctr l Z n0 y21 jdk_52_method_3_code 1 (some .int) ws R21 #[(.int (2 : Int32))] h0 (QI fun r h => (h0 = h) ∧ (r = (4 : Int32))) := by
  refine ctr_of pn21 hn0 (ef21 ) fun G A0 => ?_
  have A1 := A0.iloadN (v := (2 : Int32)) (pc' := 1) d21_0 rfl rfl
  have A3 := A1.ifYes (pc' := 12) d21_1 (flt (inlt (x := (2 : Int32)) (y := (0 : Int32)) rfl rfl (by decide : ¬ ((2 : Int) < 0)))).2.1 (by decide) (by decide)
  have A4 := A3.iloadN (v := (2 : Int32)) (pc' := 13) d21_12 rfl rfl
  have A5 := A4.ldc (z := (1073741823 : Int32)) (pc' := 15) d21_13 (hw _ (List.mem_of_getElem? (i := 92) rfl)) rfl
  have A7 := A5.icmpYes (pc' := 55) d21_15 (tlt (ilt (x := (2 : Int32)) (y := (1073741823 : Int32)) rfl rfl (by decide : (2 : Int) < 1073741823))).1 (by decide) (by decide)
  have A8 := A7.iloadN (v := (2 : Int32)) (pc' := 56) d21_55 rfl rfl
  have A9 := A8.iconst (z := (1 : Int32)) (pc' := 57) d21_56 rfl rfl
  have A10 := A9.ishl (pc' := 58) d21_57 rfl
  have A11 := A10.topI (z := (4 : Int32)) (by decide)
  refine A11.retI d21_58 (by decide) (by decide) ⟨_, rfl, ⟨rfl, ?_⟩⟩
  have elit : (4 : Int32).toInt = 4 := rfl
  rfl
theorem pn20 : plainFor (⟨"java/lang/StringUTF16", "newBytesFor", "(I)[B"⟩ : MethodName) = true := by first | exact plainFor_of_name (by first | (simp [plainName, overriddenIn]; done) | decide +kernel) | exact Jvm.Free.JP.mathPlain rfl (by decide +kernel) | decide +kernel
theorem d20_0 : decode jdk_52_method_2_code 0 = .ok (.iload_n 0, 1) := by decide +kernel
theorem d20_1 : decode jdk_52_method_2_code 1 = .ok (.invokestatic 11, 3) := by decide +kernel
theorem d20_4 : decode jdk_52_method_2_code 4 = .ok (.newarray .byte, 2) := by decide +kernel
theorem d20_6 : decode jdk_52_method_2_code 6 = .ok (.areturn, 1) := by decide +kernel
abbrev y20 : MethodName := (⟨"java/lang/StringUTF16", "newBytesFor", "(I)[B"⟩ : MethodName)
abbrev R20 : Room := { frames := 1, cells := 1, slots := 4, locals := 12 }
set_option maxRecDepth 65536 in
set_option maxHeartbeats 4000000 in
theorem ef20   (mid : MethodId) : entryFrame mid #[(.int (2 : Int32))] 1 = mkF mid 0 #[.val (.int (2 : Int32))] [] := by first | (simp [entryFrame, mkF, argsToLocals, Value.category]; done) | rfl
set_option maxRecDepth 65536 in
set_option maxHeartbeats 40000000 in
theorem rm20 (l : Launch) (Z : State) (a0 : Array Value) (hw : ∀ d ∈ tables_1, d.before a0 Z = true) (n0 : Nat) (ws : List Jvm.Cond)   (h0 : Heap) (hn0 : n0 ≤ h0.size)  :
    Ctr l Z n0 y20 jdk_52_method_2_code 1 (some (.array .byte)) ws R20 #[(.int (2 : Int32))] h0 (QA fun r h => (Keep h0 h []) ∧ (n0 ≤ r) ∧ (h0.size ≤ r) ∧ (Ars Z h r .byte 4 (fun _ => (.int (0 : Int32)))) ∧ (True)) := by
  refine ctr_of pn20 hn0 (ef20 ) fun G A0 => ?_
  have A1 := A0.iloadN (v := (2 : Int32)) (pc' := 1) d20_0 rfl rfl
  obtain ⟨r3, _, ⟨rfl, q4⟩, A2⟩ := W.kI (A1.callS (argsL := [(.int (2 : Int32))]) (rest := []) (C' := 0) (S' := 0) (pc' := 4) d20_1 (hw _ (List.mem_of_getElem? (i := 89) rfl)) (hw _ (List.mem_of_getElem? (i := 90) rfl)) (hw _ (List.mem_of_getElem? (i := 29) rfl)) (hw _ (List.mem_of_getElem? (i := 91) rfl)) (rm21 l Z a0 hw n0 []   h0 A1.size ) rfl rfl pd_6 rfl rfl (by decide) (by decide) (Nat.le_of_ble_eq_true rfl) (by decide) (by decide) rfl rfl rfl)
  subst q4
  obtain ⟨h6, b7, eb8, g9, E10, X11, XE13, A12⟩ := A2.newP (z := (4 : Int32)) (N := 4) (cap := 4) (C' := 1) (S' := 4) (pc' := 6) d20_4 (hw _ (List.mem_of_getElem? (i := 31) rfl)) rfl (by decide) (by decide) (by decide) (by decide) rfl rfl rfl rfl
  change Exa Z h6 b7 "[B" at XE13
  change Ars Z h6 b7 .byte 4 (fun _ => (.int (0 : Int32))) at X11
  have K14 : Keep h0 h6 [] := ((Keep.refl h0 []).ext E10)
  have z15 : h0.size ≤ b7 := Nat.le_trans (Nat.le_refl _) (Nat.le_of_eq eb8.symm)
  refine A12.retA d20_6 (by decide) (by decide) rfl rfl rfl ⟨_, rfl, ⟨K14, g9, z15, X11, ?_⟩⟩
  trivial
theorem pn19 : plainFor (⟨"java/lang/StringUTF16", "toBytes", "([CII)[B"⟩ : MethodName) = true := by first | exact plainFor_of_name (by first | (simp [plainName, overriddenIn]; done) | decide +kernel) | exact Jvm.Free.JP.mathPlain rfl (by decide +kernel) | decide +kernel
theorem d19_0 : decode jdk_52_method_14_code 0 = .ok (.iload_n 2, 1) := by decide +kernel
theorem d19_1 : decode jdk_52_method_14_code 1 = .ok (.invokestatic 107, 3) := by decide +kernel
theorem d19_4 : decode jdk_52_method_14_code 4 = .ok (.astore_n 3, 1) := by decide +kernel
theorem d19_5 : decode jdk_52_method_14_code 5 = .ok (.iconst 0, 1) := by decide +kernel
theorem d19_6 : decode jdk_52_method_14_code 6 = .ok (.istore 4, 2) := by decide +kernel
theorem d19_8 : decode jdk_52_method_14_code 8 = .ok (.iload 4, 2) := by decide +kernel
theorem d19_10 : decode jdk_52_method_14_code 10 = .ok (.iload_n 2, 1) := by decide +kernel
theorem d19_11 : decode jdk_52_method_14_code 11 = .ok (.if_icmp .ge 21, 3) := by decide +kernel
theorem d19_14 : decode jdk_52_method_14_code 14 = .ok (.aload_n 3, 1) := by decide +kernel
theorem d19_15 : decode jdk_52_method_14_code 15 = .ok (.iload 4, 2) := by decide +kernel
theorem d19_17 : decode jdk_52_method_14_code 17 = .ok (.aload_n 0, 1) := by decide +kernel
theorem d19_18 : decode jdk_52_method_14_code 18 = .ok (.iload_n 1, 1) := by decide +kernel
theorem d19_19 : decode jdk_52_method_14_code 19 = .ok (.caload, 1) := by decide +kernel
theorem d19_20 : decode jdk_52_method_14_code 20 = .ok (.invokestatic 111, 3) := by decide +kernel
theorem d19_23 : decode jdk_52_method_14_code 23 = .ok (.iinc 1 1, 3) := by decide +kernel
theorem d19_26 : decode jdk_52_method_14_code 26 = .ok (.iinc 4 1, 3) := by decide +kernel
theorem d19_29 : decode jdk_52_method_14_code 29 = .ok (.goto (-21), 3) := by decide +kernel
theorem d19_32 : decode jdk_52_method_14_code 32 = .ok (.aload_n 3, 1) := by decide +kernel
theorem d19_33 : decode jdk_52_method_14_code 33 = .ok (.areturn, 1) := by decide +kernel
abbrev y19 : MethodName := (⟨"java/lang/StringUTF16", "toBytes", "([CII)[B"⟩ : MethodName)
abbrev R19 : Room := { frames := 2, cells := 1, slots := 4, locals := 24 }
set_option maxRecDepth 65536 in
set_option maxHeartbeats 4000000 in
theorem ef19 (a : Addr)  (mid : MethodId) : entryFrame mid #[(.ref a), (.int (0 : Int32)), (.int (2 : Int32))] 5 = mkF mid 0 #[.val (.ref a), .val (.int (0 : Int32)), .val (.int (2 : Int32)), .unset, .unset] [] := by first | (simp [entryFrame, mkF, argsToLocals, Value.category]; done) | rfl
set_option maxRecDepth 65536 in
set_option maxHeartbeats 40000000 in
theorem rm19 (l : Launch) (Z : State) (a0 : Array Value) (hw : ∀ d ∈ tables_1, d.before a0 Z = true) (n0 : Nat) (ws : List Jvm.Cond) (a : Addr) (f : Nat → Value) (ch : Int32) (h0 : Heap) (hn0 : n0 ≤ h0.size) (e0 : Ars Z h0 a .char 2 f) (e1 : f 0 = .int (97 : Int32)) (e2 : f 1 = .int ch) (e3 : 256 ≤ ch.toInt ∧ ch.toInt ≤ 65535) (e4 : Old Z n0 h0) (e5 : Sta Z Z.heap "java/lang/StringUTF16" "$assertionsDisabled" "Z" (.int (1 : Int32))) (e6 : Sta Z Z.heap "java/lang/StringUTF16" "HI_BYTE_SHIFT" "I" (.int (0 : Int32))) (e7 : Sta Z Z.heap "java/lang/StringUTF16" "LO_BYTE_SHIFT" "I" (.int (8 : Int32))) :
    Ctr l Z n0 y19 jdk_52_method_14_code 5 (some (.array .byte)) ws R19 #[(.ref a), (.int (0 : Int32)), (.int (2 : Int32))] h0 (QA fun r h => (Keep h0 h []) ∧ (n0 ≤ r) ∧ (h0.size ≤ r) ∧ (Ars Z h r .byte 4 (upd (upd (upd (upd (fun _ => (.int (0 : Int32))) 0 (.int (own_hi (97 : Int32)))) 1 (.int (own_lo (97 : Int32)))) 2 (.int (own_hi ch))) 3 (.int (own_lo ch)))) ∧ (True)) := by
  refine ctr_of pn19 hn0 (ef19 a) fun G A0 => ?_
  have A1 := A0.iloadN (v := (2 : Int32)) (pc' := 1) d19_0 rfl rfl
  obtain ⟨r3, h5, ⟨K6, g7, z8, f9, q4⟩, A2⟩ := W.kA (A1.callS (argsL := [(.int (2 : Int32))]) (rest := []) (C' := 1) (S' := 4) (pc' := 4) d19_1 (hw _ (List.mem_of_getElem? (i := 86) rfl)) (hw _ (List.mem_of_getElem? (i := 87) rfl)) (hw _ (List.mem_of_getElem? (i := 29) rfl)) (hw _ (List.mem_of_getElem? (i := 88) rfl)) (rm20 l Z a0 hw n0 []   h0 A1.size ) rfl rfl pd_7 rfl rfl (by decide) (by decide) (Nat.le_of_ble_eq_true rfl) (by decide) (by decide) rfl rfl rfl)
  have ne10 : a ≠ r3 := Nat.ne_of_lt (Nat.lt_of_lt_of_le e0.lt z8)
  have A11 := A2.astoreN (Ls' := #[.val (.ref a), .val (.int (0 : Int32)), .val (.int (2 : Int32)), .val (.ref r3), .unset]) (pc' := 5) d19_4 rfl rfl rfl
  have A12 := A11.iconst (z := (0 : Int32)) (pc' := 6) d19_5 rfl rfl
  have A13 := A12.istore (Ls' := #[.val (.ref a), .val (.int (0 : Int32)), .val (.int (2 : Int32)), .val (.ref r3), .val (.int (0 : Int32))]) (pc' := 8) d19_6 rfl rfl
  have A14 := A13.iload (v := (0 : Int32)) (pc' := 10) d19_8 rfl rfl
  have A15 := A14.iloadN (v := (2 : Int32)) (pc' := 11) d19_10 rfl rfl
  have A17 := A15.icmpNo (pc' := 14) d19_11 (tlt (ilt (x := (0 : Int32)) (y := (2 : Int32)) rfl rfl (by decide : (0 : Int) < 2))).2.1 rfl
  have A18 := A17.aloadN (v := (.ref r3)) (pc' := 15) d19_14 rfl rfl rfl
  have A19 := A18.iload (v := (0 : Int32)) (pc' := 17) d19_15 rfl rfl
  have A20 := A19.aloadN (v := (.ref a)) (pc' := 18) d19_17 rfl rfl rfl
  have A21 := A20.iloadN (v := (0 : Int32)) (pc' := 19) d19_18 rfl rfl
  have f22 := (e0.keep K6 nin0)
  have A23 := A21.caload (i := 0) (v := (.int (97 : Int32))) (pc' := 20) d19_19 f22 rfl (by decide) e1 rfl
  have f24 := (e4.keep K6 all0)
  obtain ⟨h28, ⟨K29, f30, q27⟩, A25⟩ := W.kV (A23.callS (argsL := [(.ref r3), (.int (0 : Int32)), (.int (97 : Int32))]) (rest := []) (C' := 1) (S' := 4) (pc' := 23) d19_20 (hw _ (List.mem_of_getElem? (i := 93) rfl)) (hw _ (List.mem_of_getElem? (i := 94) rfl)) (hw _ (List.mem_of_getElem? (i := 29) rfl)) (hw _ (List.mem_of_getElem? (i := 95) rfl)) (rm22_0 l Z a0 hw n0 [] (r3) ((97 : Int32)) ((fun _ => (.int (0 : Int32)))) h5 A23.size f9 g7 f24 e5 e6 e7) rfl rfl pd_8 rfl rfl (by decide) (by decide) (Nat.le_of_ble_eq_true rfl) (by decide) (by decide) rfl rfl rfl)
  have A31 := A25.iinc (v := (0 : Int32)) (z := (1 : Int32)) (Ls' := #[.val (.ref a), .val (.int (1 : Int32)), .val (.int (2 : Int32)), .val (.ref r3), .val (.int (0 : Int32))]) (pc' := 26) d19_23 rfl (by decide) rfl rfl
  have A32 := A31.iinc (v := (0 : Int32)) (z := (1 : Int32)) (Ls' := #[.val (.ref a), .val (.int (1 : Int32)), .val (.int (2 : Int32)), .val (.ref r3), .val (.int (1 : Int32))]) (pc' := 29) d19_26 rfl (by decide) rfl rfl
  have A33 := A32.goto (pc' := 8) d19_29 (by decide) (by decide)
  have A34 := A33.iload (v := (1 : Int32)) (pc' := 10) d19_8 rfl rfl
  have A35 := A34.iloadN (v := (2 : Int32)) (pc' := 11) d19_10 rfl rfl
  have A37 := A35.icmpNo (pc' := 14) d19_11 (tlt (ilt (x := (1 : Int32)) (y := (2 : Int32)) rfl rfl (by decide : (1 : Int) < 2))).2.1 rfl
  have A38 := A37.aloadN (v := (.ref r3)) (pc' := 15) d19_14 rfl rfl rfl
  have A39 := A38.iload (v := (1 : Int32)) (pc' := 17) d19_15 rfl rfl
  have A40 := A39.aloadN (v := (.ref a)) (pc' := 18) d19_17 rfl rfl rfl
  have A41 := A40.iloadN (v := (1 : Int32)) (pc' := 19) d19_18 rfl rfl
  have f42 := (f22.keep K29 (ninS ne10 nin0))
  have A43 := A41.caload (i := 1) (v := (.int ch)) (pc' := 20) d19_19 f42 rfl (by decide) e2 rfl
  have f44 := (f24.keep K29 (allS g7 all0))
  obtain ⟨h48, ⟨K49, f50, q47⟩, A45⟩ := W.kV (A43.callS (argsL := [(.ref r3), (.int (1 : Int32)), (.int ch)]) (rest := []) (C' := 1) (S' := 4) (pc' := 23) d19_20 (hw _ (List.mem_of_getElem? (i := 93) rfl)) (hw _ (List.mem_of_getElem? (i := 94) rfl)) (hw _ (List.mem_of_getElem? (i := 29) rfl)) (hw _ (List.mem_of_getElem? (i := 95) rfl)) (rm22_1 l Z a0 hw n0 [] (r3) (ch) ((upd (upd (fun _ => (.int (0 : Int32))) 0 (.int (own_hi (97 : Int32)))) 1 (.int (own_lo (97 : Int32))))) h28 A43.size f30 g7 f44 e5 e6 e7) rfl rfl pd_8 rfl rfl (by decide) (by decide) (Nat.le_of_ble_eq_true rfl) (by decide) (by decide) rfl rfl rfl)
  have A51 := A45.iinc (v := (1 : Int32)) (z := (2 : Int32)) (Ls' := #[.val (.ref a), .val (.int (2 : Int32)), .val (.int (2 : Int32)), .val (.ref r3), .val (.int (1 : Int32))]) (pc' := 26) d19_23 rfl (by decide) rfl rfl
  have A52 := A51.iinc (v := (1 : Int32)) (z := (2 : Int32)) (Ls' := #[.val (.ref a), .val (.int (2 : Int32)), .val (.int (2 : Int32)), .val (.ref r3), .val (.int (2 : Int32))]) (pc' := 29) d19_26 rfl (by decide) rfl rfl
  have A53 := A52.goto (pc' := 8) d19_29 (by decide) (by decide)
  have A54 := A53.iload (v := (2 : Int32)) (pc' := 10) d19_8 rfl rfl
  have A55 := A54.iloadN (v := (2 : Int32)) (pc' := 11) d19_10 rfl rfl
  have A57 := A55.icmpYes (pc' := 32) d19_11 (flt (inlt (x := (2 : Int32)) (y := (2 : Int32)) rfl rfl (by decide : ¬ ((2 : Int) < 2)))).2.1 (by decide) (by decide)
  have A58 := A57.aloadN (v := (.ref r3)) (pc' := 33) d19_32 rfl rfl rfl
  have z59 : h0.size ≤ r3 := Nat.le_trans (Nat.le_refl _) z8
  have K60 : Keep h0 h48 [] := ((((Keep.refl h0 []).trans K6 all0).trans K29 (allS (Or.inr z59) all0)).trans K49 (allS (Or.inr z59) all0))
  refine A58.retA d19_33 (by decide) (by decide) rfl rfl rfl ⟨_, rfl, ⟨K60, g7, z59, f50, ?_⟩⟩
  trivial
theorem pn8 : plainFor (⟨"java/lang/StringUTF16", "compress", "([CI[BII)I"⟩ : MethodName) = true := by first | exact plainFor_of_name (by first | (simp [plainName, overriddenIn]; done) | decide +kernel) | exact Jvm.Free.JP.mathPlain rfl (by decide +kernel) | decide +kernel
theorem d8_0 : decode jdk_52_method_21_code 0 = .ok (.iconst 0, 1) := by decide +kernel
theorem d8_1 : decode jdk_52_method_21_code 1 = .ok (.istore 5, 2) := by decide +kernel
theorem d8_3 : decode jdk_52_method_21_code 3 = .ok (.iload 5, 2) := by decide +kernel
theorem d8_5 : decode jdk_52_method_21_code 5 = .ok (.iload 4, 2) := by decide +kernel
theorem d8_7 : decode jdk_52_method_21_code 7 = .ok (.if_icmp .ge 37, 3) := by decide +kernel
theorem d8_10 : decode jdk_52_method_21_code 10 = .ok (.aload_n 0, 1) := by decide +kernel
theorem d8_11 : decode jdk_52_method_21_code 11 = .ok (.iload_n 1, 1) := by decide +kernel
theorem d8_12 : decode jdk_52_method_21_code 12 = .ok (.caload, 1) := by decide +kernel
theorem d8_13 : decode jdk_52_method_21_code 13 = .ok (.istore 6, 2) := by decide +kernel
theorem d8_15 : decode jdk_52_method_21_code 15 = .ok (.iload 6, 2) := by decide +kernel
theorem d8_17 : decode jdk_52_method_21_code 17 = .ok (.sipush 255, 3) := by decide +kernel
theorem d8_20 : decode jdk_52_method_21_code 20 = .ok (.if_icmp .le 6, 3) := by decide +kernel
theorem d8_26 : decode jdk_52_method_21_code 26 = .ok (.aload_n 2, 1) := by decide +kernel
theorem d8_27 : decode jdk_52_method_21_code 27 = .ok (.iload_n 3, 1) := by decide +kernel
theorem d8_28 : decode jdk_52_method_21_code 28 = .ok (.iload 6, 2) := by decide +kernel
theorem d8_30 : decode jdk_52_method_21_code 30 = .ok (.i2b, 1) := by decide +kernel
theorem d8_31 : decode jdk_52_method_21_code 31 = .ok (.bastore, 1) := by decide +kernel
theorem d8_32 : decode jdk_52_method_21_code 32 = .ok (.iinc 1 1, 3) := by decide +kernel
theorem d8_35 : decode jdk_52_method_21_code 35 = .ok (.iinc 3 1, 3) := by decide +kernel
theorem d8_38 : decode jdk_52_method_21_code 38 = .ok (.iinc 5 1, 3) := by decide +kernel
theorem d8_41 : decode jdk_52_method_21_code 41 = .ok (.goto (-38), 3) := by decide +kernel
theorem d8_44 : decode jdk_52_method_21_code 44 = .ok (.iload 4, 2) := by decide +kernel
theorem d8_46 : decode jdk_52_method_21_code 46 = .ok (.ireturn, 1) := by decide +kernel
abbrev y8_L : MethodName := (⟨"java/lang/StringUTF16", "compress", "([CI[BII)I"⟩ : MethodName)
abbrev R8_L : Room := { frames := 0, cells := 0, slots := 0, locals := 0 }
set_option maxRecDepth 65536 in
set_option maxHeartbeats 4000000 in
theorem ef8_L (a : Addr) (b : Addr)  (mid : MethodId) : entryFrame mid #[(.ref a), (.int (0 : Int32)), (.ref b), (.int (0 : Int32)), (.int (2 : Int32))] 7 = mkF mid 0 #[.val (.ref a), .val (.int (0 : Int32)), .val (.ref b), .val (.int (0 : Int32)), .val (.int (2 : Int32)), .unset, .unset] [] := by first | (simp [entryFrame, mkF, argsToLocals, Value.category]; done) | rfl
set_option maxRecDepth 65536 in
set_option maxHeartbeats 40000000 in
theorem rm8_L (l : Launch) (Z : State) (a0 : Array Value) (hw : ∀ d ∈ tables_1, d.before a0 Z = true) (n0 : Nat) (ws : List Jvm.Cond) (a : Addr) (b : Addr) (f : Nat → Value) (ch : Int32) (h0 : Heap) (hn0 : n0 ≤ h0.size) (e0 : Ars Z h0 a .char 2 f) (e1 : f 0 = .int (97 : Int32)) (e2 : f 1 = .int ch) (e3 : 0 ≤ ch.toInt ∧ ch.toInt ≤ 255) (e4 : Ars Z h0 b .byte 2 (fun _ => (.int (0 : Int32)))) (e5 : n0 ≤ b) (e6 : a ≠ b) :
    Ctr l Z n0 y8_L jdk_52_method_21_code 7 (some .int) ws R8_L #[(.ref a), (.int (0 : Int32)), (.ref b), (.int (0 : Int32)), (.int (2 : Int32))] h0 (QI fun r h => (Keep h0 h [b]) ∧ (Ars Z h b .byte 2 (upd (upd (fun _ => (.int (0 : Int32))) 0 (.int (97 : Int32).toInt8.toInt32)) 1 (.int ch.toInt8.toInt32.toInt8.toInt32))) ∧ (r = (2 : Int32))) := by
  refine ctr_of pn8 hn0 (ef8_L a b) fun G A0 => ?_
  have A1 := A0.iconst (z := (0 : Int32)) (pc' := 1) d8_0 rfl rfl
  have A2 := A1.istore (Ls' := #[.val (.ref a), .val (.int (0 : Int32)), .val (.ref b), .val (.int (0 : Int32)), .val (.int (2 : Int32)), .val (.int (0 : Int32)), .unset]) (pc' := 3) d8_1 rfl rfl
  have A3 := A2.iload (v := (0 : Int32)) (pc' := 5) d8_3 rfl rfl
  have A4 := A3.iload (v := (2 : Int32)) (pc' := 7) d8_5 rfl rfl
  have A6 := A4.icmpNo (pc' := 10) d8_7 (tlt (ilt (x := (0 : Int32)) (y := (2 : Int32)) rfl rfl (by decide : (0 : Int) < 2))).2.1 rfl
  have A7 := A6.aloadN (v := (.ref a)) (pc' := 11) d8_10 rfl rfl rfl
  have A8 := A7.iloadN (v := (0 : Int32)) (pc' := 12) d8_11 rfl rfl
  have A9 := A8.caload (i := 0) (v := (.int (97 : Int32))) (pc' := 13) d8_12 e0 rfl (by decide) e1 rfl
  have A10 := A9.istore (Ls' := #[.val (.ref a), .val (.int (0 : Int32)), .val (.ref b), .val (.int (0 : Int32)), .val (.int (2 : Int32)), .val (.int (0 : Int32)), .val (.int (97 : Int32))]) (pc' := 15) d8_13 rfl rfl
  have A11 := A10.iload (v := (97 : Int32)) (pc' := 17) d8_15 rfl rfl
  have A12 := A11.sipush (z := (255 : Int32)) (pc' := 20) d8_17 rfl rfl
  have A14 := A12.icmpYes (pc' := 26) d8_20 (flt (ingt (x := (97 : Int32)) (y := (255 : Int32)) rfl rfl (by decide : ¬ ((255 : Int) < 97)))).2.2.2 (by decide) (by decide)
  have A15 := A14.aloadN (v := (.ref b)) (pc' := 27) d8_26 rfl rfl rfl
  have A16 := A15.iloadN (v := (0 : Int32)) (pc' := 28) d8_27 rfl rfl
  have A17 := A16.iload (v := (97 : Int32)) (pc' := 30) d8_28 rfl rfl
  have A18 := A17.i2b (pc' := 31) d8_30 rfl
  have A19 := A18.topI (z := (97 : Int32)) (by decide)
  obtain ⟨h20, w21, X22, A23⟩ := A19.bastore (i := 0) (pc' := 32) d8_31 e4 rfl (by decide) e5 rfl
  have A24 := A23.iinc (v := (0 : Int32)) (z := (1 : Int32)) (Ls' := #[.val (.ref a), .val (.int (1 : Int32)), .val (.ref b), .val (.int (0 : Int32)), .val (.int (2 : Int32)), .val (.int (0 : Int32)), .val (.int (97 : Int32))]) (pc' := 35) d8_32 rfl (by decide) rfl rfl
  have A25 := A24.iinc (v := (0 : Int32)) (z := (1 : Int32)) (Ls' := #[.val (.ref a), .val (.int (1 : Int32)), .val (.ref b), .val (.int (1 : Int32)), .val (.int (2 : Int32)), .val (.int (0 : Int32)), .val (.int (97 : Int32))]) (pc' := 38) d8_35 rfl (by decide) rfl rfl
  have A26 := A25.iinc (v := (0 : Int32)) (z := (1 : Int32)) (Ls' := #[.val (.ref a), .val (.int (1 : Int32)), .val (.ref b), .val (.int (1 : Int32)), .val (.int (2 : Int32)), .val (.int (1 : Int32)), .val (.int (97 : Int32))]) (pc' := 41) d8_38 rfl (by decide) rfl rfl
  have A27 := A26.goto (pc' := 3) d8_41 (by decide) (by decide)
  have A28 := A27.iload (v := (1 : Int32)) (pc' := 5) d8_3 rfl rfl
  have A29 := A28.iload (v := (2 : Int32)) (pc' := 7) d8_5 rfl rfl
  have A31 := A29.icmpNo (pc' := 10) d8_7 (tlt (ilt (x := (1 : Int32)) (y := (2 : Int32)) rfl rfl (by decide : (1 : Int) < 2))).2.1 rfl
  have A32 := A31.aloadN (v := (.ref a)) (pc' := 11) d8_10 rfl rfl rfl
  have A33 := A32.iloadN (v := (1 : Int32)) (pc' := 12) d8_11 rfl rfl
  have f34 := (e0.other w21 e6)
  have A35 := A33.caload (i := 1) (v := (.int ch)) (pc' := 13) d8_12 f34 rfl (by decide) e2 rfl
  have A36 := A35.istore (Ls' := #[.val (.ref a), .val (.int (1 : Int32)), .val (.ref b), .val (.int (1 : Int32)), .val (.int (2 : Int32)), .val (.int (1 : Int32)), .val (.int ch)]) (pc' := 15) d8_13 rfl rfl
  have A37 := A36.iload (v := ch) (pc' := 17) d8_15 rfl rfl
  have A38 := A37.sipush (z := (255 : Int32)) (pc' := 20) d8_17 rfl rfl
  by_cases c39 : 255 < ch.toInt
  · exfalso
    omega
  · have A41 := A38.icmpYes (pc' := 26) d8_20 (flt (ingt (x := ch) (y := (255 : Int32)) rfl rfl c39)).2.2.2 (by decide) (by decide)
    have A42 := A41.aloadN (v := (.ref b)) (pc' := 27) d8_26 rfl rfl rfl
    have A43 := A42.iloadN (v := (1 : Int32)) (pc' := 28) d8_27 rfl rfl
    have A44 := A43.iload (v := ch) (pc' := 30) d8_28 rfl rfl
    have A45 := A44.i2b (pc' := 31) d8_30 rfl
    obtain ⟨h46, w47, X48, A49⟩ := A45.bastore (i := 1) (pc' := 32) d8_31 X22 rfl (by decide) e5 rfl
    have A50 := A49.iinc (v := (1 : Int32)) (z := (2 : Int32)) (Ls' := #[.val (.ref a), .val (.int (2 : Int32)), .val (.ref b), .val (.int (1 : Int32)), .val (.int (2 : Int32)), .val (.int (1 : Int32)), .val (.int ch)]) (pc' := 35) d8_32 rfl (by decide) rfl rfl
    have A51 := A50.iinc (v := (1 : Int32)) (z := (2 : Int32)) (Ls' := #[.val (.ref a), .val (.int (2 : Int32)), .val (.ref b), .val (.int (2 : Int32)), .val (.int (2 : Int32)), .val (.int (1 : Int32)), .val (.int ch)]) (pc' := 38) d8_35 rfl (by decide) rfl rfl
    have A52 := A51.iinc (v := (1 : Int32)) (z := (2 : Int32)) (Ls' := #[.val (.ref a), .val (.int (2 : Int32)), .val (.ref b), .val (.int (2 : Int32)), .val (.int (2 : Int32)), .val (.int (2 : Int32)), .val (.int ch)]) (pc' := 41) d8_38 rfl (by decide) rfl rfl
    have A53 := A52.goto (pc' := 3) d8_41 (by decide) (by decide)
    have A54 := A53.iload (v := (2 : Int32)) (pc' := 5) d8_3 rfl rfl
    have A55 := A54.iload (v := (2 : Int32)) (pc' := 7) d8_5 rfl rfl
    have A57 := A55.icmpYes (pc' := 44) d8_7 (flt (inlt (x := (2 : Int32)) (y := (2 : Int32)) rfl rfl (by decide : ¬ ((2 : Int) < 2)))).2.1 (by decide) (by decide)
    have A58 := A57.iload (v := (2 : Int32)) (pc' := 46) d8_44 rfl rfl
    have K59 : Keep h0 h46 [b] := (((Keep.refl h0 [b]).wr w21 (Or.inl (List.mem_of_getElem? (i := 0) rfl))).wr w47 (Or.inl (List.mem_of_getElem? (i := 0) rfl)))
    refine A58.retI d8_46 (by decide) (by decide) ⟨_, rfl, ⟨K59, X48, ?_⟩⟩
    have elit : (2 : Int32).toInt = 2 := rfl
    rfl
theorem d8_23 : decode jdk_52_method_21_code 23 = .ok (.iload 5, 2) := by decide +kernel
theorem d8_25 : decode jdk_52_method_21_code 25 = .ok (.ireturn, 1) := by decide +kernel
abbrev y8_U : MethodName := (⟨"java/lang/StringUTF16", "compress", "([CI[BII)I"⟩ : MethodName)
abbrev R8_U : Room := { frames := 0, cells := 0, slots := 0, locals := 0 }
set_option maxRecDepth 65536 in
set_option maxHeartbeats 4000000 in
theorem ef8_U (a : Addr) (b : Addr)  (mid : MethodId) : entryFrame mid #[(.ref a), (.int (0 : Int32)), (.ref b), (.int (0 : Int32)), (.int (2 : Int32))] 7 = mkF mid 0 #[.val (.ref a), .val (.int (0 : Int32)), .val (.ref b), .val (.int (0 : Int32)), .val (.int (2 : Int32)), .unset, .unset] [] := by first | (simp [entryFrame, mkF, argsToLocals, Value.category]; done) | rfl
set_option maxRecDepth 65536 in
set_option maxHeartbeats 40000000 in
theorem rm8_U (l : Launch) (Z : State) (a0 : Array Value) (hw : ∀ d ∈ tables_1, d.before a0 Z = true) (n0 : Nat) (ws : List Jvm.Cond) (a : Addr) (b : Addr) (f : Nat → Value) (ch : Int32) (h0 : Heap) (hn0 : n0 ≤ h0.size) (e0 : Ars Z h0 a .char 2 f) (e1 : f 0 = .int (97 : Int32)) (e2 : f 1 = .int ch) (e3 : 256 ≤ ch.toInt ∧ ch.toInt ≤ 65535) (e4 : Ars Z h0 b .byte 2 (fun _ => (.int (0 : Int32)))) (e5 : n0 ≤ b) (e6 : a ≠ b) :
    Ctr l Z n0 y8_U jdk_52_method_21_code 7 (some .int) ws R8_U #[(.ref a), (.int (0 : Int32)), (.ref b), (.int (0 : Int32)), (.int (2 : Int32))] h0 (QI fun r h => (Keep h0 h [b]) ∧ (r = (1 : Int32))) := by
  refine ctr_of pn8 hn0 (ef8_U a b) fun G A0 => ?_
  have A1 := A0.iconst (z := (0 : Int32)) (pc' := 1) d8_0 rfl rfl
  have A2 := A1.istore (Ls' := #[.val (.ref a), .val (.int (0 : Int32)), .val (.ref b), .val (.int (0 : Int32)), .val (.int (2 : Int32)), .val (.int (0 : Int32)), .unset]) (pc' := 3) d8_1 rfl rfl
  have A3 := A2.iload (v := (0 : Int32)) (pc' := 5) d8_3 rfl rfl
  have A4 := A3.iload (v := (2 : Int32)) (pc' := 7) d8_5 rfl rfl
  have A6 := A4.icmpNo (pc' := 10) d8_7 (tlt (ilt (x := (0 : Int32)) (y := (2 : Int32)) rfl rfl (by decide : (0 : Int) < 2))).2.1 rfl
  have A7 := A6.aloadN (v := (.ref a)) (pc' := 11) d8_10 rfl rfl rfl
  have A8 := A7.iloadN (v := (0 : Int32)) (pc' := 12) d8_11 rfl rfl
  have A9 := A8.caload (i := 0) (v := (.int (97 : Int32))) (pc' := 13) d8_12 e0 rfl (by decide) e1 rfl
  have A10 := A9.istore (Ls' := #[.val (.ref a), .val (.int (0 : Int32)), .val (.ref b), .val (.int (0 : Int32)), .val (.int (2 : Int32)), .val (.int (0 : Int32)), .val (.int (97 : Int32))]) (pc' := 15) d8_13 rfl rfl
  have A11 := A10.iload (v := (97 : Int32)) (pc' := 17) d8_15 rfl rfl
  have A12 := A11.sipush (z := (255 : Int32)) (pc' := 20) d8_17 rfl rfl
  have A14 := A12.icmpYes (pc' := 26) d8_20 (flt (ingt (x := (97 : Int32)) (y := (255 : Int32)) rfl rfl (by decide : ¬ ((255 : Int) < 97)))).2.2.2 (by decide) (by decide)
  have A15 := A14.aloadN (v := (.ref b)) (pc' := 27) d8_26 rfl rfl rfl
  have A16 := A15.iloadN (v := (0 : Int32)) (pc' := 28) d8_27 rfl rfl
  have A17 := A16.iload (v := (97 : Int32)) (pc' := 30) d8_28 rfl rfl
  have A18 := A17.i2b (pc' := 31) d8_30 rfl
  have A19 := A18.topI (z := (97 : Int32)) (by decide)
  obtain ⟨h20, w21, X22, A23⟩ := A19.bastore (i := 0) (pc' := 32) d8_31 e4 rfl (by decide) e5 rfl
  have A24 := A23.iinc (v := (0 : Int32)) (z := (1 : Int32)) (Ls' := #[.val (.ref a), .val (.int (1 : Int32)), .val (.ref b), .val (.int (0 : Int32)), .val (.int (2 : Int32)), .val (.int (0 : Int32)), .val (.int (97 : Int32))]) (pc' := 35) d8_32 rfl (by decide) rfl rfl
  have A25 := A24.iinc (v := (0 : Int32)) (z := (1 : Int32)) (Ls' := #[.val (.ref a), .val (.int (1 : Int32)), .val (.ref b), .val (.int (1 : Int32)), .val (.int (2 : Int32)), .val (.int (0 : Int32)), .val (.int (97 : Int32))]) (pc' := 38) d8_35 rfl (by decide) rfl rfl
  have A26 := A25.iinc (v := (0 : Int32)) (z := (1 : Int32)) (Ls' := #[.val (.ref a), .val (.int (1 : Int32)), .val (.ref b), .val (.int (1 : Int32)), .val (.int (2 : Int32)), .val (.int (1 : Int32)), .val (.int (97 : Int32))]) (pc' := 41) d8_38 rfl (by decide) rfl rfl
  have A27 := A26.goto (pc' := 3) d8_41 (by decide) (by decide)
  have A28 := A27.iload (v := (1 : Int32)) (pc' := 5) d8_3 rfl rfl
  have A29 := A28.iload (v := (2 : Int32)) (pc' := 7) d8_5 rfl rfl
  have A31 := A29.icmpNo (pc' := 10) d8_7 (tlt (ilt (x := (1 : Int32)) (y := (2 : Int32)) rfl rfl (by decide : (1 : Int) < 2))).2.1 rfl
  have A32 := A31.aloadN (v := (.ref a)) (pc' := 11) d8_10 rfl rfl rfl
  have A33 := A32.iloadN (v := (1 : Int32)) (pc' := 12) d8_11 rfl rfl
  have f34 := (e0.other w21 e6)
  have A35 := A33.caload (i := 1) (v := (.int ch)) (pc' := 13) d8_12 f34 rfl (by decide) e2 rfl
  have A36 := A35.istore (Ls' := #[.val (.ref a), .val (.int (1 : Int32)), .val (.ref b), .val (.int (1 : Int32)), .val (.int (2 : Int32)), .val (.int (1 : Int32)), .val (.int ch)]) (pc' := 15) d8_13 rfl rfl
  have A37 := A36.iload (v := ch) (pc' := 17) d8_15 rfl rfl
  have A38 := A37.sipush (z := (255 : Int32)) (pc' := 20) d8_17 rfl rfl
  by_cases c39 : 255 < ch.toInt
  · have A40 := A38.icmpNo (pc' := 23) d8_20 (tlt (igt (x := ch) (y := (255 : Int32)) rfl rfl c39)).2.2.2 rfl
    have A41 := A40.iload (v := (1 : Int32)) (pc' := 25) d8_23 rfl rfl
    have K42 : Keep h0 h20 [b] := ((Keep.refl h0 [b]).wr w21 (Or.inl (List.mem_of_getElem? (i := 0) rfl)))
    refine A41.retI d8_25 (by decide) (by decide) ⟨_, rfl, ⟨K42, ?_⟩⟩
    have elit : (1 : Int32).toInt = 1 := rfl
    rfl
  · exfalso
    omega
theorem pn7 : plainFor (⟨"java/lang/StringUTF16", "compress", "([CII)[B"⟩ : MethodName) = true := by first | exact plainFor_of_name (by first | (simp [plainName, overriddenIn]; done) | decide +kernel) | exact Jvm.Free.JP.mathPlain rfl (by decide +kernel) | decide +kernel
theorem d7_0 : decode jdk_52_method_16_code 0 = .ok (.iload_n 2, 1) := by decide +kernel
theorem d7_1 : decode jdk_52_method_16_code 1 = .ok (.newarray .byte, 2) := by decide +kernel
theorem d7_3 : decode jdk_52_method_16_code 3 = .ok (.astore_n 3, 1) := by decide +kernel
theorem d7_4 : decode jdk_52_method_16_code 4 = .ok (.aload_n 0, 1) := by decide +kernel
theorem d7_5 : decode jdk_52_method_16_code 5 = .ok (.iload_n 1, 1) := by decide +kernel
theorem d7_6 : decode jdk_52_method_16_code 6 = .ok (.aload_n 3, 1) := by decide +kernel
theorem d7_7 : decode jdk_52_method_16_code 7 = .ok (.iconst 0, 1) := by decide +kernel
theorem d7_8 : decode jdk_52_method_16_code 8 = .ok (.iload_n 2, 1) := by decide +kernel
theorem d7_9 : decode jdk_52_method_16_code 9 = .ok (.invokestatic 115, 3) := by decide +kernel
theorem d7_12 : decode jdk_52_method_16_code 12 = .ok (.istore 4, 2) := by decide +kernel
theorem d7_14 : decode jdk_52_method_16_code 14 = .ok (.iload 4, 2) := by decide +kernel
theorem d7_16 : decode jdk_52_method_16_code 16 = .ok (.iload_n 2, 1) := by decide +kernel
theorem d7_17 : decode jdk_52_method_16_code 17 = .ok (.if_icmp .eq 40, 3) := by decide +kernel
theorem d7_57 : decode jdk_52_method_16_code 57 = .ok (.aload_n 3, 1) := by decide +kernel
theorem d7_58 : decode jdk_52_method_16_code 58 = .ok (.areturn, 1) := by decide +kernel
abbrev y7_L : MethodName := (⟨"java/lang/StringUTF16", "compress", "([CII)[B"⟩ : MethodName)
abbrev R7_L : Room := { frames := 1, cells := 1, slots := 2, locals := 18 }
set_option maxRecDepth 65536 in
set_option maxHeartbeats 4000000 in
theorem ef7_L (a : Addr)  (mid : MethodId) : entryFrame mid #[(.ref a), (.int (0 : Int32)), (.int (2 : Int32))] 6 = mkF mid 0 #[.val (.ref a), .val (.int (0 : Int32)), .val (.int (2 : Int32)), .unset, .unset, .unset] [] := by first | (simp [entryFrame, mkF, argsToLocals, Value.category]; done) | rfl
set_option maxRecDepth 65536 in
set_option maxHeartbeats 40000000 in
theorem rm7_L (l : Launch) (Z : State) (a0 : Array Value) (hw : ∀ d ∈ tables_1, d.before a0 Z = true) (n0 : Nat) (ws : List Jvm.Cond) (a : Addr) (f : Nat → Value) (ch : Int32) (h0 : Heap) (hn0 : n0 ≤ h0.size) (e0 : Ars Z h0 a .char 2 f) (e1 : f 0 = .int (97 : Int32)) (e2 : f 1 = .int ch) (e3 : 0 ≤ ch.toInt ∧ ch.toInt ≤ 255) :
    Ctr l Z n0 y7_L jdk_52_method_16_code 6 (some (.array .byte)) ws R7_L #[(.ref a), (.int (0 : Int32)), (.int (2 : Int32))] h0 (QA fun r h => (Keep h0 h []) ∧ (n0 ≤ r) ∧ (h0.size ≤ r) ∧ (Ars Z h r .byte 2 (upd (upd (fun _ => (.int (0 : Int32))) 0 (.int (97 : Int32).toInt8.toInt32)) 1 (.int ch.toInt8.toInt32.toInt8.toInt32))) ∧ (True)) := by
  refine ctr_of pn7 hn0 (ef7_L a) fun G A0 => ?_
  have A1 := A0.iloadN (v := (2 : Int32)) (pc' := 1) d7_0 rfl rfl
  obtain ⟨h2, b3, eb4, g5, E6, X7, XE9, A8⟩ := A1.newP (z := (2 : Int32)) (N := 2) (cap := 2) (C' := 1) (S' := 2) (pc' := 3) d7_1 (hw _ (List.mem_of_getElem? (i := 31) rfl)) rfl (by decide) (by decide) (by decide) (by decide) rfl rfl rfl rfl
  have ne10 : a ≠ b3 := Nat.ne_of_lt (Nat.lt_of_lt_of_le e0.lt (Nat.le_of_eq eb4.symm))
  change Exa Z h2 b3 "[B" at XE9
  change Ars Z h2 b3 .byte 2 (fun _ => (.int (0 : Int32))) at X7
  have A11 := A8.astoreN (Ls' := #[.val (.ref a), .val (.int (0 : Int32)), .val (.int (2 : Int32)), .val (.ref b3), .unset, .unset]) (pc' := 4) d7_3 rfl rfl rfl
  have A12 := A11.aloadN (v := (.ref a)) (pc' := 5) d7_4 rfl rfl rfl
  have A13 := A12.iloadN (v := (0 : Int32)) (pc' := 6) d7_5 rfl rfl
  have A14 := A13.aloadN (v := (.ref b3)) (pc' := 7) d7_6 rfl rfl rfl
  have A15 := A14.iconst (z := (0 : Int32)) (pc' := 8) d7_7 rfl rfl
  have A16 := A15.iloadN (v := (2 : Int32)) (pc' := 9) d7_8 rfl rfl
  have f17 := (e0.ext E6)
  obtain ⟨r19, h21, ⟨K22, f23, q20⟩, A18⟩ := W.kI (A16.callS (argsL := [(.ref a), (.int (0 : Int32)), (.ref b3), (.int (0 : Int32)), (.int (2 : Int32))]) (rest := []) (C' := 1) (S' := 2) (pc' := 12) d7_9 (hw _ (List.mem_of_getElem? (i := 32) rfl)) (hw _ (List.mem_of_getElem? (i := 33) rfl)) (hw _ (List.mem_of_getElem? (i := 29) rfl)) (hw _ (List.mem_of_getElem? (i := 34) rfl)) (rm8_L l Z a0 hw n0 [] (a) (b3) (f) (_) h2 A16.size f17 (by assumption) (by assumption) (by assumption) X7 g5 ne10) rfl rfl pd_9 rfl rfl (by decide) (by decide) (Nat.le_of_ble_eq_true rfl) (by decide) (by decide) rfl rfl rfl)
  have A24 := A18.topI (z := (2 : Int32)) q20
  have A25 := A24.istore (Ls' := #[.val (.ref a), .val (.int (0 : Int32)), .val (.int (2 : Int32)), .val (.ref b3), .val (.int (2 : Int32)), .unset]) (pc' := 14) d7_12 rfl rfl
  have A26 := A25.iload (v := (2 : Int32)) (pc' := 16) d7_14 rfl rfl
  have A27 := A26.iloadN (v := (2 : Int32)) (pc' := 17) d7_16 rfl rfl
  have A29 := A27.icmpYes (pc' := 57) d7_17 (teq (ieq (x := (2 : Int32)) (y := (2 : Int32)) rfl rfl (by decide : (2 : Int) = 2))).1 (by decide) (by decide)
  have A30 := A29.aloadN (v := (.ref b3)) (pc' := 58) d7_57 rfl rfl rfl
  have z31 : h0.size ≤ b3 := Nat.le_trans (Nat.le_refl _) (Nat.le_of_eq eb4.symm)
  have K32 : Keep h0 h21 [] := (((Keep.refl h0 []).ext E6).trans K22 (allS (Or.inr z31) all0))
  refine A30.retA d7_58 (by decide) (by decide) rfl rfl rfl ⟨_, rfl, ⟨K32, g5, z31, f23, ?_⟩⟩
  trivial
theorem d7_20 : decode jdk_52_method_16_code 20 = .ok (.aload_n 0, 1) := by decide +kernel
theorem d7_21 : decode jdk_52_method_16_code 21 = .ok (.iload_n 1, 1) := by decide +kernel
theorem d7_22 : decode jdk_52_method_16_code 22 = .ok (.iload_n 2, 1) := by decide +kernel
theorem d7_23 : decode jdk_52_method_16_code 23 = .ok (.invokestatic 119, 3) := by decide +kernel
theorem d7_26 : decode jdk_52_method_16_code 26 = .ok (.astore 5, 2) := by decide +kernel
theorem d7_28 : decode jdk_52_method_16_code 28 = .ok (.aload 5, 2) := by decide +kernel
theorem d7_30 : decode jdk_52_method_16_code 30 = .ok (.iload 4, 2) := by decide +kernel
theorem d7_32 : decode jdk_52_method_16_code 32 = .ok (.invokestatic 71, 3) := by decide +kernel
theorem d7_35 : decode jdk_52_method_16_code 35 = .ok (.sipush 255, 3) := by decide +kernel
theorem d7_38 : decode jdk_52_method_16_code 38 = .ok (.if_icmp .gt 16, 3) := by decide +kernel
theorem d7_54 : decode jdk_52_method_16_code 54 = .ok (.aload 5, 2) := by decide +kernel
theorem d7_56 : decode jdk_52_method_16_code 56 = .ok (.areturn, 1) := by decide +kernel
abbrev y7_U : MethodName := (⟨"java/lang/StringUTF16", "compress", "([CII)[B"⟩ : MethodName)
abbrev R7_U : Room := { frames := 3, cells := 2, slots := 6, locals := 40 }
set_option maxRecDepth 65536 in
set_option maxHeartbeats 4000000 in
theorem ef7_U (a : Addr)  (mid : MethodId) : entryFrame mid #[(.ref a), (.int (0 : Int32)), (.int (2 : Int32))] 6 = mkF mid 0 #[.val (.ref a), .val (.int (0 : Int32)), .val (.int (2 : Int32)), .unset, .unset, .unset] [] := by first | (simp [entryFrame, mkF, argsToLocals, Value.category]; done) | rfl
set_option maxRecDepth 65536 in
set_option maxHeartbeats 40000000 in
theorem rm7_U (l : Launch) (Z : State) (a0 : Array Value) (hw : ∀ d ∈ tables_1, d.before a0 Z = true) (n0 : Nat) (ws : List Jvm.Cond) (a : Addr) (f : Nat → Value) (ch : Int32) (h0 : Heap) (hn0 : n0 ≤ h0.size) (e0 : Ars Z h0 a .char 2 f) (e1 : f 0 = .int (97 : Int32)) (e2 : f 1 = .int ch) (e3 : 256 ≤ ch.toInt ∧ ch.toInt ≤ 65535) (e4 : Old Z n0 h0) (e5 : Sta Z Z.heap "java/lang/StringUTF16" "$assertionsDisabled" "Z" (.int (1 : Int32))) (e6 : Sta Z Z.heap "java/lang/StringUTF16" "HI_BYTE_SHIFT" "I" (.int (0 : Int32))) (e7 : Sta Z Z.heap "java/lang/StringUTF16" "LO_BYTE_SHIFT" "I" (.int (8 : Int32))) :
    Ctr l Z n0 y7_U jdk_52_method_16_code 6 (some (.array .byte)) ws R7_U #[(.ref a), (.int (0 : Int32)), (.int (2 : Int32))] h0 (QA fun r h => (Keep h0 h []) ∧ (n0 ≤ r) ∧ (h0.size ≤ r) ∧ (Ars Z h r .byte 4 (upd (upd (upd (upd (fun _ => (.int (0 : Int32))) 0 (.int (own_hi (97 : Int32)))) 1 (.int (own_lo (97 : Int32)))) 2 (.int (own_hi ch))) 3 (.int (own_lo ch)))) ∧ (True)) := by
  refine ctr_of pn7 hn0 (ef7_U a) fun G A0 => ?_
  have A1 := A0.iloadN (v := (2 : Int32)) (pc' := 1) d7_0 rfl rfl
  obtain ⟨h2, b3, eb4, g5, E6, X7, XE9, A8⟩ := A1.newP (z := (2 : Int32)) (N := 2) (cap := 2) (C' := 1) (S' := 2) (pc' := 3) d7_1 (hw _ (List.mem_of_getElem? (i := 31) rfl)) rfl (by decide) (by decide) (by decide) (by decide) rfl rfl rfl rfl
  have ne10 : a ≠ b3 := Nat.ne_of_lt (Nat.lt_of_lt_of_le e0.lt (Nat.le_of_eq eb4.symm))
  change Exa Z h2 b3 "[B" at XE9
  change Ars Z h2 b3 .byte 2 (fun _ => (.int (0 : Int32))) at X7
  have A11 := A8.astoreN (Ls' := #[.val (.ref a), .val (.int (0 : Int32)), .val (.int (2 : Int32)), .val (.ref b3), .unset, .unset]) (pc' := 4) d7_3 rfl rfl rfl
  have A12 := A11.aloadN (v := (.ref a)) (pc' := 5) d7_4 rfl rfl rfl
  have A13 := A12.iloadN (v := (0 : Int32)) (pc' := 6) d7_5 rfl rfl
  have A14 := A13.aloadN (v := (.ref b3)) (pc' := 7) d7_6 rfl rfl rfl
  have A15 := A14.iconst (z := (0 : Int32)) (pc' := 8) d7_7 rfl rfl
  have A16 := A15.iloadN (v := (2 : Int32)) (pc' := 9) d7_8 rfl rfl
  have f17 := (e0.ext E6)
  obtain ⟨r19, h21, ⟨K22, q20⟩, A18⟩ := W.kI (A16.callS (argsL := [(.ref a), (.int (0 : Int32)), (.ref b3), (.int (0 : Int32)), (.int (2 : Int32))]) (rest := []) (C' := 1) (S' := 2) (pc' := 12) d7_9 (hw _ (List.mem_of_getElem? (i := 32) rfl)) (hw _ (List.mem_of_getElem? (i := 33) rfl)) (hw _ (List.mem_of_getElem? (i := 29) rfl)) (hw _ (List.mem_of_getElem? (i := 34) rfl)) (rm8_U l Z a0 hw n0 [] (a) (b3) (f) (_) h2 A16.size f17 (by assumption) (by assumption) (by assumption) X7 g5 ne10) rfl rfl pd_9 rfl rfl (by decide) (by decide) (Nat.le_of_ble_eq_true rfl) (by decide) (by decide) rfl rfl rfl)
  have A23 := A18.topI (z := (1 : Int32)) q20
  have A24 := A23.istore (Ls' := #[.val (.ref a), .val (.int (0 : Int32)), .val (.int (2 : Int32)), .val (.ref b3), .val (.int (1 : Int32)), .unset]) (pc' := 14) d7_12 rfl rfl
  have A25 := A24.iload (v := (1 : Int32)) (pc' := 16) d7_14 rfl rfl
  have A26 := A25.iloadN (v := (2 : Int32)) (pc' := 17) d7_16 rfl rfl
  have A28 := A26.icmpNo (pc' := 20) d7_17 (feq (ine (x := (1 : Int32)) (y := (2 : Int32)) rfl rfl (by decide : ¬ ((1 : Int) = 2)))).1 rfl
  have A29 := A28.aloadN (v := (.ref a)) (pc' := 21) d7_20 rfl rfl rfl
  have A30 := A29.iloadN (v := (0 : Int32)) (pc' := 22) d7_21 rfl rfl
  have A31 := A30.iloadN (v := (2 : Int32)) (pc' := 23) d7_22 rfl rfl
  have f32 := (f17.keep K22 (ninS ne10 nin0))
  have f33 := ((e4.ext E6).keep K22 (allS g5 all0))
  obtain ⟨r35, h37, ⟨K38, g39, z40, f41, q36⟩, A34⟩ := W.kA (A31.callS (argsL := [(.ref a), (.int (0 : Int32)), (.int (2 : Int32))]) (rest := []) (C' := 2) (S' := 6) (pc' := 26) d7_23 (hw _ (List.mem_of_getElem? (i := 83) rfl)) (hw _ (List.mem_of_getElem? (i := 84) rfl)) (hw _ (List.mem_of_getElem? (i := 29) rfl)) (hw _ (List.mem_of_getElem? (i := 85) rfl)) (rm19 l Z a0 hw n0 [] (a) (f) (_) h21 A31.size f32 (by assumption) (by assumption) (by assumption) f33 e5 e6 e7) rfl rfl pd_10 rfl rfl (by decide) (by decide) (Nat.le_of_ble_eq_true rfl) (by decide) (by decide) rfl rfl rfl)
  have ne42 : a ≠ r35 := Nat.ne_of_lt (Nat.lt_of_lt_of_le f32.lt z40)
  have f43 := (XE9.keep K22)
  have ne44 : b3 ≠ r35 := Nat.ne_of_lt (Nat.lt_of_lt_of_le f43.lt z40)
  have A45 := A34.astore (Ls' := #[.val (.ref a), .val (.int (0 : Int32)), .val (.int (2 : Int32)), .val (.ref b3), .val (.int (1 : Int32)), .val (.ref r35)]) (pc' := 28) d7_26 rfl rfl rfl
  have A46 := A45.aload (v := (.ref r35)) (pc' := 30) d7_28 rfl rfl rfl
  have A47 := A46.iload (v := (1 : Int32)) (pc' := 32) d7_30 rfl rfl
  have f48 := (f33.keep K38 all0)
  obtain ⟨r50, _, ⟨rfl, q51⟩, A49⟩ := W.kI (A47.callS (argsL := [(.ref r35), (.int (1 : Int32))]) (rest := []) (C' := 2) (S' := 6) (pc' := 35) d7_32 (hw _ (List.mem_of_getElem? (i := 99) rfl)) (hw _ (List.mem_of_getElem? (i := 100) rfl)) (hw _ (List.mem_of_getElem? (i := 29) rfl)) (hw _ (List.mem_of_getElem? (i := 101) rfl)) (rm23_1 l Z a0 hw n0 [] (r35) ((upd (upd (upd (upd (fun _ => (.int (0 : Int32))) 0 (.int (own_hi (97 : Int32)))) 1 (.int (own_lo (97 : Int32)))) 2 (.int (own_hi ch))) 3 (.int (own_lo ch)))) (ch) h37 A47.size f41 (by first | rfl | omega) (by first | rfl | omega) (by first | rfl | omega) f48 e5 e6 e7) rfl rfl pd_5 rfl rfl (by decide) (by decide) (Nat.le_of_ble_eq_true rfl) (by decide) (by decide) rfl rfl rfl)
  have tq := congrArg Int32.toInt q51
  have A53 := A49.sipush (z := (255 : Int32)) (pc' := 38) d7_35 rfl rfl
  by_cases c54 : 255 < r50.toInt
  · have A55 := A53.icmpYes (pc' := 54) d7_38 (tlt (igt (x := r50) (y := (255 : Int32)) rfl rfl c54)).2.2.1 (by decide) (by decide)
    have A56 := A55.aload (v := (.ref r35)) (pc' := 56) d7_54 rfl rfl rfl
    have z57 : h0.size ≤ b3 := Nat.le_trans (Nat.le_refl _) (Nat.le_of_eq eb4.symm)
    have K58 : Keep h0 h37 [] := ((((Keep.refl h0 []).ext E6).trans K22 (allS (Or.inr z57) all0)).trans K38 all0)
    have z59 : h0.size ≤ r35 := Nat.le_trans (Nat.le_trans (Nat.le_trans (Nat.le_refl _) E6.1) K22.1) z40
    refine A56.retA d7_56 (by decide) (by decide) rfl rfl rfl ⟨_, rfl, ⟨K58, g39, z59, f41, ?_⟩⟩
    trivial
  · exfalso
    omega
theorem pn9 : plainFor (⟨"java/lang/StringUTF16", "coderFromArrayLen", "([BI)B"⟩ : MethodName) = true := by first | exact plainFor_of_name (by first | (simp [plainName, overriddenIn]; done) | decide +kernel) | exact Jvm.Free.JP.mathPlain rfl (by decide +kernel) | decide +kernel
theorem d9_0 : decode jdk_52_method_15_code 0 = .ok (.iload_n 1, 1) := by decide +kernel
theorem d9_1 : decode jdk_52_method_15_code 1 = .ok (.aload_n 0, 1) := by decide +kernel
theorem d9_2 : decode jdk_52_method_15_code 2 = .ok (.arraylength, 1) := by decide +kernel
theorem d9_3 : decode jdk_52_method_15_code 3 = .ok (.isub, 1) := by decide +kernel
theorem d9_4 : decode jdk_52_method_15_code 4 = .ok (.bipush 31, 2) := by decide +kernel
theorem d9_6 : decode jdk_52_method_15_code 6 = .ok (.iushr, 1) := by decide +kernel
theorem d9_7 : decode jdk_52_method_15_code 7 = .ok (.i2b, 1) := by decide +kernel
theorem d9_8 : decode jdk_52_method_15_code 8 = .ok (.ireturn, 1) := by decide +kernel
abbrev y9_L : MethodName := (⟨"java/lang/StringUTF16", "coderFromArrayLen", "([BI)B"⟩ : MethodName)
abbrev R9_L : Room := { frames := 0, cells := 0, slots := 0, locals := 0 }
set_option maxRecDepth 65536 in
set_option maxHeartbeats 4000000 in
theorem ef9_L (b : Addr)  (mid : MethodId) : entryFrame mid #[(.ref b), (.int (2 : Int32))] 2 = mkF mid 0 #[.val (.ref b), .val (.int (2 : Int32))] [] := by first | (simp [entryFrame, mkF, argsToLocals, Value.category]; done) | rfl
set_option maxRecDepth 65536 in
set_option maxHeartbeats 40000000 in
theorem rm9_L (l : Launch) (Z : State) (a0 : Array Value) (hw : ∀ d ∈ tables_1, d.before a0 Z = true) (n0 : Nat) (ws : List Jvm.Cond) (b : Addr) (f : Nat → Value) (h0 : Heap) (hn0 : n0 ≤ h0.size) (e0 : Ars Z h0 b .byte 2 f) :
    Ctr l Z n0 y9_L jdk_52_method_15_code 2 (some .byte) ws R9_L #[(.ref b), (.int (2 : Int32))] h0 (QI fun r h => (h0 = h) ∧ (r = (0 : Int32))) := by
  refine ctr_of pn9 hn0 (ef9_L b) fun G A0 => ?_
  have A1 := A0.iloadN (v := (2 : Int32)) (pc' := 1) d9_0 rfl rfl
  have A2 := A1.aloadN (v := (.ref b)) (pc' := 2) d9_1 rfl rfl rfl
  have A3 := A2.alen (z := (2 : Int32)) (pc' := 3) d9_2 e0 rfl rfl
  have A4 := A3.isub (pc' := 4) d9_3 rfl
  have A5 := A4.topI (z := (0 : Int32)) (by decide)
  have A6 := A5.bipush (z := (31 : Int32)) (pc' := 6) d9_4 rfl rfl
  have A7 := A6.iushr (pc' := 7) d9_6 rfl
  have A8 := A7.topI (z := (0 : Int32)) (by decide)
  have A9 := A8.i2b (pc' := 8) d9_7 rfl
  have A10 := A9.topI (z := (0 : Int32)) (by decide)
  refine A10.retN (t := .byte) (z' := (0 : Int32)) d9_8 (by decide) (by decide) (by simp) rfl ⟨_, rfl, ⟨rfl, ?_⟩⟩
  have elit : (0 : Int32).toInt = 0 := rfl
  rfl
theorem pn5 : plainFor (⟨"java/lang/String", "<init>", "([CIILjava/lang/Void;)V"⟩ : MethodName) = true := by first | exact plainFor_of_name (by first | (simp [plainName, overriddenIn]; done) | decide +kernel) | exact Jvm.Free.JP.mathPlain rfl (by decide +kernel) | decide +kernel
theorem d5_0 : decode jdk_42_method_149_code 0 = .ok (.aload_n 0, 1) := by decide +kernel
theorem d5_1 : decode jdk_42_method_149_code 1 = .ok (.invokespecial 1, 3) := by decide +kernel
theorem d5_4 : decode jdk_42_method_149_code 4 = .ok (.iload_n 3, 1) := by decide +kernel
theorem d5_5 : decode jdk_42_method_149_code 5 = .ok (.ifCond .ne 22, 3) := by decide +kernel
theorem d5_27 : decode jdk_42_method_149_code 27 = .ok (.getstatic 38, 3) := by decide +kernel
theorem d5_30 : decode jdk_42_method_149_code 30 = .ok (.ifCond .eq 28, 3) := by decide +kernel
theorem d5_33 : decode jdk_42_method_149_code 33 = .ok (.aload_n 1, 1) := by decide +kernel
theorem d5_34 : decode jdk_42_method_149_code 34 = .ok (.iload_n 2, 1) := by decide +kernel
theorem d5_35 : decode jdk_42_method_149_code 35 = .ok (.iload_n 3, 1) := by decide +kernel
theorem d5_36 : decode jdk_42_method_149_code 36 = .ok (.invokestatic 177, 3) := by decide +kernel
theorem d5_39 : decode jdk_42_method_149_code 39 = .ok (.astore 5, 2) := by decide +kernel
theorem d5_41 : decode jdk_42_method_149_code 41 = .ok (.aload_n 0, 1) := by decide +kernel
theorem d5_42 : decode jdk_42_method_149_code 42 = .ok (.aload 5, 2) := by decide +kernel
theorem d5_44 : decode jdk_42_method_149_code 44 = .ok (.iload_n 3, 1) := by decide +kernel
theorem d5_45 : decode jdk_42_method_149_code 45 = .ok (.invokestatic 47, 3) := by decide +kernel
theorem d5_48 : decode jdk_42_method_149_code 48 = .ok (.putfield 15, 3) := by decide +kernel
theorem d5_51 : decode jdk_42_method_149_code 51 = .ok (.aload_n 0, 1) := by decide +kernel
theorem d5_52 : decode jdk_42_method_149_code 52 = .ok (.aload 5, 2) := by decide +kernel
theorem d5_54 : decode jdk_42_method_149_code 54 = .ok (.putfield 9, 3) := by decide +kernel
theorem d5_57 : decode jdk_42_method_149_code 57 = .ok (.return_, 1) := by decide +kernel
abbrev y5_L : MethodName := (⟨"java/lang/String", "<init>", "([CIILjava/lang/Void;)V"⟩ : MethodName)
abbrev R5_L : Room := { frames := 2, cells := 1, slots := 2, locals := 35 }
set_option maxRecDepth 65536 in
set_option maxHeartbeats 4000000 in
theorem ef5_L (s : Addr) (a : Addr)  (mid : MethodId) : entryFrame mid #[(.ref s), (.ref a), (.int (0 : Int32)), (.int (2 : Int32)), .null] 6 = mkF mid 0 #[.val (.ref s), .val (.ref a), .val (.int (0 : Int32)), .val (.int (2 : Int32)), .val .null, .unset] [] := by first | (simp [entryFrame, mkF, argsToLocals, Value.category]; done) | rfl
set_option maxRecDepth 65536 in
set_option maxHeartbeats 40000000 in
theorem rm5_L (l : Launch) (Z : State) (a0 : Array Value) (hw : ∀ d ∈ tables_1, d.before a0 Z = true) (n0 : Nat) (ws : List Jvm.Cond) (s : Addr) (a : Addr) (f : Nat → Value) (ch : Int32) (cs : Int32) (h0 : Heap) (hn0 : n0 ≤ h0.size) (e0 : Ars Z h0 a .char 2 f) (e1 : f 0 = .int (97 : Int32)) (e2 : f 1 = .int ch) (e3 : 0 ≤ ch.toInt ∧ ch.toInt ≤ 255) (e4 : Exa Z h0 s "java/lang/String") (e5 : n0 ≤ s) (e6 : Fld Z h0 s "java/lang/String" "value" "[B" .null) (e7 : Fld Z h0 s "java/lang/String" "coder" "B" (.int (0 : Int32))) (e8 : s ≠ a) (e9 : Old Z n0 h0) (e10 : Sta Z Z.heap "java/lang/String" "COMPACT_STRINGS" "Z" (.int cs)) (e11 : cs.toInt ≠ 0) :
    Ctr l Z n0 y5_L jdk_42_method_149_code 6 (none) ws R5_L #[(.ref s), (.ref a), (.int (0 : Int32)), (.int (2 : Int32)), .null] h0 (QV fun h => ∃ b1 : Addr, (Keep h0 h [s]) ∧ (n0 ≤ b1) ∧ (h0.size ≤ b1) ∧ (Fld Z h s "java/lang/String" "coder" "B" (.int (0 : Int32))) ∧ (Fld Z h s "java/lang/String" "value" "[B" (.ref b1)) ∧ (Ars Z h b1 .byte 2 (upd (upd (fun _ => (.int (0 : Int32))) 0 (.int (97 : Int32).toInt8.toInt32)) 1 (.int ch.toInt8.toInt32.toInt8.toInt32))) ∧ (True)) := by
  refine ctr_of pn5 hn0 (ef5_L s a) fun G A0 => ?_
  have A1 := A0.aloadN (v := (.ref s)) (pc' := 1) d5_0 rfl rfl rfl
  have A2 := A1.initO (pc' := 4) d5_1 (hw _ (List.mem_of_getElem? (i := 23) rfl)) (hw _ (List.mem_of_getElem? (i := 24) rfl)) (hw _ (List.mem_of_getElem? (i := 25) rfl)) rfl (by decide) (Nat.le_of_ble_eq_true rfl) rfl
  have A3 := A2.iloadN (v := (2 : Int32)) (pc' := 5) d5_4 rfl rfl
  have A5 := A3.ifYes (pc' := 27) d5_5 (feq (ine (x := (2 : Int32)) (y := (0 : Int32)) rfl rfl (by decide : ¬ ((2 : Int) = 0)))).2 (by decide) (by decide)
  have f7 := e10.ext e9.2
  have A6 := A5.getS (pc' := 30) (host := "") d5_27 (Or.inl (hw _ (List.mem_of_getElem? (i := 26) rfl))) Via.refl f7 rfl
  by_cases c8 : cs.toInt = 0
  · exfalso
    omega
  · have A10 := A6.ifNo (pc' := 33) d5_30 (feq (ine (x := cs) (y := (0 : Int32)) rfl rfl c8)).1 rfl
    have A11 := A10.aloadN (v := (.ref a)) (pc' := 34) d5_33 rfl rfl rfl
    have A12 := A11.iloadN (v := (0 : Int32)) (pc' := 35) d5_34 rfl rfl
    have A13 := A12.iloadN (v := (2 : Int32)) (pc' := 36) d5_35 rfl rfl
    obtain ⟨r15, h17, ⟨K18, g19, z20, f21, q16⟩, A14⟩ := W.kA (A13.callS (argsL := [(.ref a), (.int (0 : Int32)), (.int (2 : Int32))]) (rest := []) (C' := 1) (S' := 2) (pc' := 39) d5_36 (hw _ (List.mem_of_getElem? (i := 27) rfl)) (hw _ (List.mem_of_getElem? (i := 28) rfl)) (hw _ (List.mem_of_getElem? (i := 29) rfl)) (hw _ (List.mem_of_getElem? (i := 30) rfl)) (rm7_L l Z a0 hw n0 [] (a) (f) (_) h0 A13.size e0 (by assumption) (by assumption) (by assumption)) rfl rfl pd_10 rfl rfl (by decide) (by decide) (Nat.le_of_ble_eq_true rfl) (by decide) (by decide) rfl rfl rfl)
    have ne22 : a ≠ r15 := Nat.ne_of_lt (Nat.lt_of_lt_of_le e0.lt z20)
    have ne23 : s ≠ r15 := Nat.ne_of_lt (Nat.lt_of_lt_of_le e4.lt z20)
    have A24 := A14.astore (Ls' := #[.val (.ref s), .val (.ref a), .val (.int (0 : Int32)), .val (.int (2 : Int32)), .val .null, .val (.ref r15)]) (pc' := 41) d5_39 rfl rfl rfl
    have A25 := A24.aloadN (v := (.ref s)) (pc' := 42) d5_41 rfl rfl rfl
    have A26 := A25.aload (v := (.ref r15)) (pc' := 44) d5_42 rfl rfl rfl
    have A27 := A26.iloadN (v := (2 : Int32)) (pc' := 45) d5_44 rfl rfl
    obtain ⟨r29, _, ⟨rfl, q30⟩, A28⟩ := W.kI (A27.callS (argsL := [(.ref r15), (.int (2 : Int32))]) (rest := [(.ref s)]) (C' := 1) (S' := 2) (pc' := 48) d5_45 (hw _ (List.mem_of_getElem? (i := 35) rfl)) (hw _ (List.mem_of_getElem? (i := 36) rfl)) (hw _ (List.mem_of_getElem? (i := 29) rfl)) (hw _ (List.mem_of_getElem? (i := 37) rfl)) (rm9_L l Z a0 hw n0 [] (r15) ((upd (upd (fun _ => (.int (0 : Int32))) 0 (.int (97 : Int32).toInt8.toInt32)) 1 (.int ch.toInt8.toInt32.toInt8.toInt32))) h17 A27.size f21) rfl rfl pd_11 rfl rfl (by decide) (by decide) (Nat.le_of_ble_eq_true rfl) (by decide) (by decide) rfl rfl rfl)
    subst q30
    have f32 := (e7.keep K18 nin0)
    have f33 := (e4.keep K18)
    obtain ⟨h35, w36, A34⟩ := A28.putFN (pc' := 51) (ty := .byte) (v' := (.int (0 : Int32))) d5_48 (hw _ (List.mem_of_getElem? (i := 38) rfl)) Via.refl f32 f33 (Or.inr ⟨(hw _ (List.mem_of_getElem? (i := 39) rfl)), rfl, rfl⟩) (hw _ (List.mem_of_getElem? (i := 14) rfl)) (by decide) rfl rfl e5 rfl
    have f37 := f32.same w36
    have A38 := A34.aloadN (v := (.ref s)) (pc' := 52) d5_51 rfl rfl rfl
    have A39 := A38.aload (v := (.ref r15)) (pc' := 54) d5_52 rfl rfl rfl
    have f40 := ((e6.keep K18 nin0).other w36 (Or.inr (slot_ne (Or.inr (hw _ (List.mem_of_getElem? (i := 41) rfl))) (Or.inr (hw _ (List.mem_of_getElem? (i := 39) rfl))) (by decide) (t := (.array .byte)) (t' := .byte) (by decide) (by decide))))
    have f41 := (f33.wr w36)
    obtain ⟨h43, w44, A42⟩ := A39.putF (pc' := 57) (ty := (.array .byte)) (host := "") d5_54 (Or.inl (hw _ (List.mem_of_getElem? (i := 40) rfl))) Via.refl f40 f41 (Or.inr ⟨(hw _ (List.mem_of_getElem? (i := 41) rfl)), rfl, rfl⟩) (hw _ (List.mem_of_getElem? (i := 14) rfl)) (by decide) rfl rfl e5 rfl
    have f45 := f40.same w44
    have K46 : Keep h0 h43 [s] := ((((Keep.refl h0 [s]).trans K18 all0).wr w36 (Or.inl (List.mem_of_getElem? (i := 0) rfl))).wr w44 (Or.inl (List.mem_of_getElem? (i := 0) rfl)))
    have z47 : h0.size ≤ r15 := Nat.le_trans (Nat.le_refl _) z20
    have f48 := (f37.other w44 (Or.inr (slot_ne (Or.inr (hw _ (List.mem_of_getElem? (i := 39) rfl))) (Or.inr (hw _ (List.mem_of_getElem? (i := 41) rfl))) (by decide) (t := .byte) (t' := (.array .byte)) (by decide) (by decide))))
    have f49 := ((f21.other w36 (Ne.symm ne23)).other w44 (Ne.symm ne23))
    refine A42.retV d5_57 (by decide) (by decide) ⟨rfl, ⟨r15, K46, g19, z47, f48, f45, f49, ?_⟩⟩
    trivial
theorem pn4 : plainFor (⟨"java/lang/String", "<init>", "([C)V"⟩ : MethodName) = true := by first | exact plainFor_of_name (by first | (simp [plainName, overriddenIn]; done) | decide +kernel) | exact Jvm.Free.JP.mathPlain rfl (by decide +kernel) | decide +kernel
theorem d4_0 : decode jdk_42_method_3_code 0 = .ok (.aload_n 0, 1) := by decide +kernel
theorem d4_1 : decode jdk_42_method_3_code 1 = .ok (.aload_n 1, 1) := by decide +kernel
theorem d4_2 : decode jdk_42_method_3_code 2 = .ok (.iconst 0, 1) := by decide +kernel
theorem d4_3 : decode jdk_42_method_3_code 3 = .ok (.aload_n 1, 1) := by decide +kernel
theorem d4_4 : decode jdk_42_method_3_code 4 = .ok (.arraylength, 1) := by decide +kernel
theorem d4_5 : decode jdk_42_method_3_code 5 = .ok (.aconst_null, 1) := by decide +kernel
theorem d4_6 : decode jdk_42_method_3_code 6 = .ok (.invokespecial 27, 3) := by decide +kernel
theorem d4_9 : decode jdk_42_method_3_code 9 = .ok (.return_, 1) := by decide +kernel
abbrev y4_L : MethodName := (⟨"java/lang/String", "<init>", "([C)V"⟩ : MethodName)
abbrev R4_L : Room := { frames := 3, cells := 1, slots := 2, locals := 52 }
set_option maxRecDepth 65536 in
set_option maxHeartbeats 4000000 in
theorem ef4_L (s : Addr) (a : Addr)  (mid : MethodId) : entryFrame mid #[(.ref s), (.ref a)] 2 = mkF mid 0 #[.val (.ref s), .val (.ref a)] [] := by first | (simp [entryFrame, mkF, argsToLocals, Value.category]; done) | rfl
set_option maxRecDepth 65536 in
set_option maxHeartbeats 40000000 in
theorem rm4_L (l : Launch) (Z : State) (a0 : Array Value) (hw : ∀ d ∈ tables_1, d.before a0 Z = true) (n0 : Nat) (ws : List Jvm.Cond) (s : Addr) (a : Addr) (f : Nat → Value) (ch : Int32) (cs : Int32) (h0 : Heap) (hn0 : n0 ≤ h0.size) (e0 : Ars Z h0 a .char 2 f) (e1 : f 0 = .int (97 : Int32)) (e2 : f 1 = .int ch) (e3 : 0 ≤ ch.toInt ∧ ch.toInt ≤ 255) (e4 : Exa Z h0 s "java/lang/String") (e5 : n0 ≤ s) (e6 : Fld Z h0 s "java/lang/String" "value" "[B" .null) (e7 : Fld Z h0 s "java/lang/String" "coder" "B" (.int (0 : Int32))) (e8 : s ≠ a) (e9 : Old Z n0 h0) (e10 : Sta Z Z.heap "java/lang/String" "COMPACT_STRINGS" "Z" (.int cs)) (e11 : cs.toInt ≠ 0) :
    Ctr l Z n0 y4_L jdk_42_method_3_code 2 (none) ws R4_L #[(.ref s), (.ref a)] h0 (QV fun h => ∃ b1 : Addr, (Keep h0 h [s]) ∧ (n0 ≤ b1) ∧ (h0.size ≤ b1) ∧ (Fld Z h s "java/lang/String" "coder" "B" (.int (0 : Int32))) ∧ (Fld Z h s "java/lang/String" "value" "[B" (.ref b1)) ∧ (Ars Z h b1 .byte 2 (upd (upd (fun _ => (.int (0 : Int32))) 0 (.int (97 : Int32).toInt8.toInt32)) 1 (.int ch.toInt8.toInt32.toInt8.toInt32))) ∧ (True)) := by
  refine ctr_of pn4 hn0 (ef4_L s a) fun G A0 => ?_
  have A1 := A0.aloadN (v := (.ref s)) (pc' := 1) d4_0 rfl rfl rfl
  have A2 := A1.aloadN (v := (.ref a)) (pc' := 2) d4_1 rfl rfl rfl
  have A3 := A2.iconst (z := (0 : Int32)) (pc' := 3) d4_2 rfl rfl
  have A4 := A3.aloadN (v := (.ref a)) (pc' := 4) d4_3 rfl rfl rfl
  have A5 := A4.alen (z := (2 : Int32)) (pc' := 5) d4_4 e0 rfl rfl
  have A6 := A5.aconstNull (pc' := 6) d4_5 rfl
  obtain ⟨h10, ⟨b12, K11, g13, z14, f15, f16, f17, q9⟩, A7⟩ := W.kV (A6.callI (a := s) (argsL := [(.ref a), (.int (0 : Int32)), (.int (2 : Int32)), .null]) (rest := []) (C' := 1) (S' := 2) (pc' := 9) d4_6 rfl (hw _ (List.mem_of_getElem? (i := 19) rfl)) (hw _ (List.mem_of_getElem? (i := 20) rfl)) (hw _ (List.mem_of_getElem? (i := 15) rfl)) (hw _ (List.mem_of_getElem? (i := 22) rfl)) (rm5_L l Z a0 hw n0 [] (s) (a) (f) (_) (_) h0 A6.size e0 (by assumption) (by assumption) (by assumption) e4 e5 e6 e7 e8 e9 e10 (by assumption)) rfl rfl pd_12 rfl rfl (by decide) (by decide) (Nat.le_of_ble_eq_true rfl) (by decide) (by decide) rfl rfl rfl)
  have ne18 : a ≠ b12 := Nat.ne_of_lt (Nat.lt_of_lt_of_le e0.lt z14)
  have ne19 : s ≠ b12 := Nat.ne_of_lt (Nat.lt_of_lt_of_le e4.lt z14)
  have K20 : Keep h0 h10 [s] := ((Keep.refl h0 [s]).trans K11 (allS (Or.inl (List.mem_of_getElem? (i := 0) rfl)) all0))
  have z21 : h0.size ≤ b12 := Nat.le_trans (Nat.le_refl _) z14
  refine A7.retV d4_9 (by decide) (by decide) ⟨rfl, ⟨b12, K20, g13, z21, f15, f16, f17, ?_⟩⟩
  trivial
theorem pn11 : plainFor (⟨"java/lang/String", "isEmpty", "()Z"⟩ : MethodName) = true := by first | exact plainFor_of_name (by first | (simp [plainName, overriddenIn]; done) | decide +kernel) | exact Jvm.Free.JP.mathPlain rfl (by decide +kernel) | decide +kernel
theorem d11_0 : decode jdk_42_method_55_code 0 = .ok (.aload_n 0, 1) := by decide +kernel
theorem d11_1 : decode jdk_42_method_55_code 1 = .ok (.getfield 9, 3) := by decide +kernel
theorem d11_4 : decode jdk_42_method_55_code 4 = .ok (.arraylength, 1) := by decide +kernel
theorem d11_5 : decode jdk_42_method_55_code 5 = .ok (.ifCond .ne 7, 3) := by decide +kernel
theorem d11_12 : decode jdk_42_method_55_code 12 = .ok (.iconst 0, 1) := by decide +kernel
theorem d11_13 : decode jdk_42_method_55_code 13 = .ok (.ireturn, 1) := by decide +kernel
abbrev y11_L : MethodName := (⟨"java/lang/String", "isEmpty", "()Z"⟩ : MethodName)
abbrev R11_L : Room := { frames := 0, cells := 0, slots := 0, locals := 0 }
set_option maxRecDepth 65536 in
set_option maxHeartbeats 4000000 in
theorem ef11_L (s : Addr)  (mid : MethodId) : entryFrame mid #[(.ref s)] 1 = mkF mid 0 #[.val (.ref s)] [] := by first | (simp [entryFrame, mkF, argsToLocals, Value.category]; done) | rfl
set_option maxRecDepth 65536 in
set_option maxHeartbeats 40000000 in
theorem rm11_L (l : Launch) (Z : State) (a0 : Array Value) (hw : ∀ d ∈ tables_1, d.before a0 Z = true) (n0 : Nat) (ws : List Jvm.Cond) (s : Addr) (b : Addr) (f : Nat → Value) (h0 : Heap) (hn0 : n0 ≤ h0.size) (e0 : Fld Z h0 s "java/lang/String" "value" "[B" (.ref b)) (e1 : Ars Z h0 b .byte 2 f) :
    Ctr l Z n0 y11_L jdk_42_method_55_code 1 (some .boolean) ws R11_L #[(.ref s)] h0 (QI fun r h => (h0 = h) ∧ (r = (0 : Int32))) := by
  refine ctr_of pn11 hn0 (ef11_L s) fun G A0 => ?_
  have A1 := A0.aloadN (v := (.ref s)) (pc' := 1) d11_0 rfl rfl rfl
  have A2 := A1.getF (pc' := 4) (host := "") d11_1 (Or.inl (hw _ (List.mem_of_getElem? (i := 40) rfl))) Via.refl e0 rfl
  have A3 := A2.alen (z := (2 : Int32)) (pc' := 5) d11_4 e1 rfl rfl
  have A5 := A3.ifYes (pc' := 12) d11_5 (feq (ine (x := (2 : Int32)) (y := (0 : Int32)) rfl rfl (by decide : ¬ ((2 : Int) = 0)))).2 (by decide) (by decide)
  have A6 := A5.iconst (z := (0 : Int32)) (pc' := 13) d11_12 rfl rfl
  refine A6.retN (t := .boolean) (z' := (0 : Int32)) d11_13 (by decide) (by decide) (by simp) rfl ⟨_, rfl, ⟨rfl, ?_⟩⟩
  have elit : (0 : Int32).toInt = 0 := rfl
  rfl
theorem pn13 : plainFor (⟨"java/lang/String", "isLatin1", "()Z"⟩ : MethodName) = true := by first | exact plainFor_of_name (by first | (simp [plainName, overriddenIn]; done) | decide +kernel) | exact Jvm.Free.JP.mathPlain rfl (by decide +kernel) | decide +kernel
theorem d13_0 : decode jdk_42_method_154_code 0 = .ok (.getstatic 38, 3) := by decide +kernel
theorem d13_3 : decode jdk_42_method_154_code 3 = .ok (.ifCond .eq 14, 3) := by decide +kernel
theorem d13_6 : decode jdk_42_method_154_code 6 = .ok (.aload_n 0, 1) := by decide +kernel
theorem d13_7 : decode jdk_42_method_154_code 7 = .ok (.getfield 15, 3) := by decide +kernel
theorem d13_10 : decode jdk_42_method_154_code 10 = .ok (.ifCond .ne 7, 3) := by decide +kernel
theorem d13_13 : decode jdk_42_method_154_code 13 = .ok (.iconst 1, 1) := by decide +kernel
theorem d13_14 : decode jdk_42_method_154_code 14 = .ok (.goto 4, 3) := by decide +kernel
theorem d13_18 : decode jdk_42_method_154_code 18 = .ok (.ireturn, 1) := by decide +kernel
abbrev y13_L : MethodName := (⟨"java/lang/String", "isLatin1", "()Z"⟩ : MethodName)
abbrev R13_L : Room := { frames := 0, cells := 0, slots := 0, locals := 0 }
set_option maxRecDepth 65536 in
set_option maxHeartbeats 4000000 in
theorem ef13_L (s : Addr)  (mid : MethodId) : entryFrame mid #[(.ref s)] 1 = mkF mid 0 #[.val (.ref s)] [] := by first | (simp [entryFrame, mkF, argsToLocals, Value.category]; done) | rfl
set_option maxRecDepth 65536 in
set_option maxHeartbeats 40000000 in
theorem rm13_L (l : Launch) (Z : State) (a0 : Array Value) (hw : ∀ d ∈ tables_1, d.before a0 Z = true) (n0 : Nat) (ws : List Jvm.Cond) (s : Addr) (cs : Int32) (h0 : Heap) (hn0 : n0 ≤ h0.size) (e0 : Fld Z h0 s "java/lang/String" "coder" "B" (.int (0 : Int32))) (e1 : Old Z n0 h0) (e2 : Sta Z Z.heap "java/lang/String" "COMPACT_STRINGS" "Z" (.int cs)) (e3 : cs.toInt ≠ 0) :
    Ctr l Z n0 y13_L jdk_42_method_154_code 1 (some .boolean) ws R13_L #[(.ref s)] h0 (QI fun r h => (h0 = h) ∧ (r = (1 : Int32))) := by
  refine ctr_of pn13 hn0 (ef13_L s) fun G A0 => ?_
  have f2 := e2.ext e1.2
  have A1 := A0.getS (pc' := 3) (host := "") d13_0 (Or.inl (hw _ (List.mem_of_getElem? (i := 26) rfl))) Via.refl f2 rfl
  by_cases c3 : cs.toInt = 0
  · exfalso
    omega
  · have A5 := A1.ifNo (pc' := 6) d13_3 (feq (ine (x := cs) (y := (0 : Int32)) rfl rfl c3)).1 rfl
    have A6 := A5.aloadN (v := (.ref s)) (pc' := 7) d13_6 rfl rfl rfl
    have A7 := A6.getF (pc' := 10) (host := "") d13_7 (Or.inl (hw _ (List.mem_of_getElem? (i := 38) rfl))) Via.refl e0 rfl
    have A9 := A7.ifNo (pc' := 13) d13_10 (teq (ieq (x := (0 : Int32)) (y := (0 : Int32)) rfl rfl (by decide : (0 : Int) = 0))).2 rfl
    have A10 := A9.iconst (z := (1 : Int32)) (pc' := 14) d13_13 rfl rfl
    have A11 := A10.goto (pc' := 18) d13_14 (by decide) (by decide)
    refine A11.retN (t := .boolean) (z' := (1 : Int32)) d13_18 (by decide) (by decide) (by simp) rfl ⟨_, rfl, ⟨rfl, ?_⟩⟩
    have elit : (1 : Int32).toInt = 1 := rfl
    rfl
theorem pn18 : plainFor (⟨"java/lang/String", "coder", "()B"⟩ : MethodName) = true := by first | exact plainFor_of_name (by first | (simp [plainName, overriddenIn]; done) | decide +kernel) | exact Jvm.Free.JP.mathPlain rfl (by decide +kernel) | decide +kernel
theorem d18_0 : decode jdk_42_method_152_code 0 = .ok (.getstatic 38, 3) := by decide +kernel
theorem d18_3 : decode jdk_42_method_152_code 3 = .ok (.ifCond .eq 10, 3) := by decide +kernel
theorem d18_6 : decode jdk_42_method_152_code 6 = .ok (.aload_n 0, 1) := by decide +kernel
theorem d18_7 : decode jdk_42_method_152_code 7 = .ok (.getfield 15, 3) := by decide +kernel
theorem d18_10 : decode jdk_42_method_152_code 10 = .ok (.goto 4, 3) := by decide +kernel
theorem d18_14 : decode jdk_42_method_152_code 14 = .ok (.ireturn, 1) := by decide +kernel
abbrev y18_L : MethodName := (⟨"java/lang/String", "coder", "()B"⟩ : MethodName)
abbrev R18_L : Room := { frames := 0, cells := 0, slots := 0, locals := 0 }
set_option maxRecDepth 65536 in
set_option maxHeartbeats 4000000 in
theorem ef18_L (s : Addr)  (mid : MethodId) : entryFrame mid #[(.ref s)] 1 = mkF mid 0 #[.val (.ref s)] [] := by first | (simp [entryFrame, mkF, argsToLocals, Value.category]; done) | rfl
set_option maxRecDepth 65536 in
set_option maxHeartbeats 40000000 in
theorem rm18_L (l : Launch) (Z : State) (a0 : Array Value) (hw : ∀ d ∈ tables_1, d.before a0 Z = true) (n0 : Nat) (ws : List Jvm.Cond) (s : Addr) (cs : Int32) (h0 : Heap) (hn0 : n0 ≤ h0.size) (e0 : Fld Z h0 s "java/lang/String" "coder" "B" (.int (0 : Int32))) (e1 : Old Z n0 h0) (e2 : Sta Z Z.heap "java/lang/String" "COMPACT_STRINGS" "Z" (.int cs)) (e3 : cs.toInt ≠ 0) :
    Ctr l Z n0 y18_L jdk_42_method_152_code 1 (some .byte) ws R18_L #[(.ref s)] h0 (QI fun r h => (h0 = h) ∧ (r = (0 : Int32))) := by
  refine ctr_of pn18 hn0 (ef18_L s) fun G A0 => ?_
  have f2 := e2.ext e1.2
  have A1 := A0.getS (pc' := 3) (host := "") d18_0 (Or.inl (hw _ (List.mem_of_getElem? (i := 26) rfl))) Via.refl f2 rfl
  by_cases c3 : cs.toInt = 0
  · exfalso
    omega
  · have A5 := A1.ifNo (pc' := 6) d18_3 (feq (ine (x := cs) (y := (0 : Int32)) rfl rfl c3)).1 rfl
    have A6 := A5.aloadN (v := (.ref s)) (pc' := 7) d18_6 rfl rfl rfl
    have A7 := A6.getF (pc' := 10) (host := "") d18_7 (Or.inl (hw _ (List.mem_of_getElem? (i := 38) rfl))) Via.refl e0 rfl
    have A8 := A7.goto (pc' := 14) d18_10 (by decide) (by decide)
    refine A8.retN (t := .byte) (z' := (0 : Int32)) d18_14 (by decide) (by decide) (by simp) rfl ⟨_, rfl, ⟨rfl, ?_⟩⟩
    have elit : (0 : Int32).toInt = 0 := rfl
    rfl
theorem pn17 : plainFor (⟨"java/lang/String", "length", "()I"⟩ : MethodName) = true := by first | exact plainFor_of_name (by first | (simp [plainName, overriddenIn]; done) | decide +kernel) | exact Jvm.Free.JP.mathPlain rfl (by decide +kernel) | decide +kernel
theorem d17_0 : decode jdk_42_method_54_code 0 = .ok (.aload_n 0, 1) := by decide +kernel
theorem d17_1 : decode jdk_42_method_54_code 1 = .ok (.getfield 9, 3) := by decide +kernel
theorem d17_4 : decode jdk_42_method_54_code 4 = .ok (.arraylength, 1) := by decide +kernel
theorem d17_5 : decode jdk_42_method_54_code 5 = .ok (.aload_n 0, 1) := by decide +kernel
theorem d17_6 : decode jdk_42_method_54_code 6 = .ok (.invokevirtual 335, 3) := by decide +kernel
theorem d17_9 : decode jdk_42_method_54_code 9 = .ok (.ishr, 1) := by decide +kernel
theorem d17_10 : decode jdk_42_method_54_code 10 = .ok (.ireturn, 1) := by decide +kernel
abbrev y17_L : MethodName := (⟨"java/lang/String", "length", "()I"⟩ : MethodName)
abbrev R17_L : Room := { frames := 1, cells := 0, slots := 0, locals := 13 }
set_option maxRecDepth 65536 in
set_option maxHeartbeats 4000000 in
theorem ef17_L (s : Addr)  (mid : MethodId) : entryFrame mid #[(.ref s)] 1 = mkF mid 0 #[.val (.ref s)] [] := by first | (simp [entryFrame, mkF, argsToLocals, Value.category]; done) | rfl
set_option maxRecDepth 65536 in
set_option maxHeartbeats 40000000 in
theorem rm17_L (l : Launch) (Z : State) (a0 : Array Value) (hw : ∀ d ∈ tables_1, d.before a0 Z = true) (n0 : Nat) (ws : List Jvm.Cond) (s : Addr) (b : Addr) (f : Nat → Value) (cs : Int32) (h0 : Heap) (hn0 : n0 ≤ h0.size) (e0 : Exa Z h0 s "java/lang/String") (e1 : Fld Z h0 s "java/lang/String" "value" "[B" (.ref b)) (e2 : Ars Z h0 b .byte 2 f) (e3 : Fld Z h0 s "java/lang/String" "coder" "B" (.int (0 : Int32))) (e4 : Old Z n0 h0) (e5 : Sta Z Z.heap "java/lang/String" "COMPACT_STRINGS" "Z" (.int cs)) (e6 : cs.toInt ≠ 0) :
    Ctr l Z n0 y17_L jdk_42_method_54_code 1 (some .int) ws R17_L #[(.ref s)] h0 (QI fun r h => (h0 = h) ∧ (r = (2 : Int32))) := by
  refine ctr_of pn17 hn0 (ef17_L s) fun G A0 => ?_
  have A1 := A0.aloadN (v := (.ref s)) (pc' := 1) d17_0 rfl rfl rfl
  have A2 := A1.getF (pc' := 4) (host := "") d17_1 (Or.inl (hw _ (List.mem_of_getElem? (i := 40) rfl))) Via.refl e1 rfl
  have A3 := A2.alen (z := (2 : Int32)) (pc' := 5) d17_4 e2 rfl rfl
  have A4 := A3.aloadN (v := (.ref s)) (pc' := 6) d17_5 rfl rfl rfl
  obtain ⟨r6, _, ⟨rfl, q7⟩, A5⟩ := W.kI (A4.callV (a := s) (argsL := []) (rest := [(.int (2 : Int32))]) (C' := 0) (S' := 0) (pc' := 9) d17_6 e0 (hw _ (List.mem_of_getElem? (i := 77) rfl)) (hw _ (List.mem_of_getElem? (i := 78) rfl)) (fun hZ => notFace_of_selects (args := #[]) (mvT hZ (hw _ (List.mem_of_getElem? (i := 80) rfl)))) (hw _ (List.mem_of_getElem? (i := 80) rfl)) (hw _ (List.mem_of_getElem? (i := 79) rfl)) (hw _ (List.mem_of_getElem? (i := 15) rfl)) (hw _ (List.mem_of_getElem? (i := 81) rfl)) (rm18_L l Z a0 hw n0 [] (s) (_) h0 A4.size e3 e4 e5 (by assumption)) rfl rfl pd_13 rfl rfl (by decide) (by decide) (Nat.le_of_ble_eq_true rfl) (by decide) (by decide) rfl rfl rfl)
  subst q7
  have A9 := A5.ishr (pc' := 10) d17_9 rfl
  have A10 := A9.topI (z := (2 : Int32)) (by decide)
  refine A10.retI d17_10 (by decide) (by decide) ⟨_, rfl, ⟨rfl, ?_⟩⟩
  have elit : (2 : Int32).toInt = 2 := rfl
  rfl
theorem pn12 : plainFor (⟨"java/lang/String", "charAt", "(I)C"⟩ : MethodName) = true := by first | exact plainFor_of_name (by first | (simp [plainName, overriddenIn]; done) | decide +kernel) | exact Jvm.Free.JP.mathPlain rfl (by decide +kernel) | decide +kernel
theorem d12_0 : decode jdk_42_method_56_code 0 = .ok (.aload_n 0, 1) := by decide +kernel
theorem d12_1 : decode jdk_42_method_56_code 1 = .ok (.invokevirtual 492, 3) := by decide +kernel
theorem d12_4 : decode jdk_42_method_56_code 4 = .ok (.ifCond .eq 12, 3) := by decide +kernel
theorem d12_7 : decode jdk_42_method_56_code 7 = .ok (.aload_n 0, 1) := by decide +kernel
theorem d12_8 : decode jdk_42_method_56_code 8 = .ok (.getfield 9, 3) := by decide +kernel
theorem d12_11 : decode jdk_42_method_56_code 11 = .ok (.iload_n 1, 1) := by decide +kernel
theorem d12_12 : decode jdk_42_method_56_code 12 = .ok (.invokestatic 495, 3) := by decide +kernel
theorem d12_15 : decode jdk_42_method_56_code 15 = .ok (.ireturn, 1) := by decide +kernel
abbrev y12_L0 : MethodName := (⟨"java/lang/String", "charAt", "(I)C"⟩ : MethodName)
abbrev R12_L0 : Room := { frames := 3, cells := 0, slots := 0, locals := 40 }
set_option maxRecDepth 65536 in
set_option maxHeartbeats 4000000 in
theorem ef12_L0 (s : Addr)  (mid : MethodId) : entryFrame mid #[(.ref s), (.int (0 : Int32))] 2 = mkF mid 0 #[.val (.ref s), .val (.int (0 : Int32))] [] := by first | (simp [entryFrame, mkF, argsToLocals, Value.category]; done) | rfl
set_option maxRecDepth 65536 in
set_option maxHeartbeats 40000000 in
theorem rm12_L0 (l : Launch) (Z : State) (a0 : Array Value) (hw : ∀ d ∈ tables_1, d.before a0 Z = true) (n0 : Nat) (ws : List Jvm.Cond) (s : Addr) (b : Addr) (f : Nat → Value) (cs : Int32) (fm : Value) (h0 : Heap) (hn0 : n0 ≤ h0.size) (e0 : Exa Z h0 s "java/lang/String") (e1 : Fld Z h0 s "java/lang/String" "value" "[B" (.ref b)) (e2 : Fld Z h0 s "java/lang/String" "coder" "B" (.int (0 : Int32))) (e3 : Ars Z h0 b .byte 2 f) (e4 : f 0 = .int (97 : Int32)) (e5 : Old Z n0 h0) (e6 : Sta Z Z.heap "java/lang/String" "COMPACT_STRINGS" "Z" (.int cs)) (e7 : cs.toInt ≠ 0) (e8 : Sta Z Z.heap "jdk/internal/util/Preconditions" "SIOOBE_FORMATTER" "Ljava/util/function/BiFunction;" fm) (e9 : fm.isRef = true) :
    Ctr l Z n0 y12_L0 jdk_42_method_56_code 2 (some .char) ws R12_L0 #[(.ref s), (.int (0 : Int32))] h0 (QI fun r h => (h0 = h) ∧ (r = (97 : Int32))) := by
  refine ctr_of pn12 hn0 (ef12_L0 s) fun G A0 => ?_
  have A1 := A0.aloadN (v := (.ref s)) (pc' := 1) d12_0 rfl rfl rfl
  obtain ⟨r3, _, ⟨rfl, q4⟩, A2⟩ := W.kI (A1.callV (a := s) (argsL := []) (rest := []) (C' := 0) (S' := 0) (pc' := 4) d12_1 e0 (hw _ (List.mem_of_getElem? (i := 55) rfl)) (hw _ (List.mem_of_getElem? (i := 56) rfl)) (fun hZ => notFace_of_selects (args := #[]) (mvT hZ (hw _ (List.mem_of_getElem? (i := 58) rfl)))) (hw _ (List.mem_of_getElem? (i := 58) rfl)) (hw _ (List.mem_of_getElem? (i := 57) rfl)) (hw _ (List.mem_of_getElem? (i := 15) rfl)) (hw _ (List.mem_of_getElem? (i := 59) rfl)) (rm13_L l Z a0 hw n0 [] (s) (_) h0 A1.size e2 e5 e6 (by assumption)) rfl rfl pd_14 rfl rfl (by decide) (by decide) (Nat.le_of_ble_eq_true rfl) (by decide) (by decide) rfl rfl rfl)
  subst q4
  have A7 := A2.ifNo (pc' := 7) d12_4 (feq (ine (x := (1 : Int32)) (y := (0 : Int32)) rfl rfl (by decide : ¬ ((1 : Int) = 0)))).1 rfl
  have A8 := A7.aloadN (v := (.ref s)) (pc' := 8) d12_7 rfl rfl rfl
  have A9 := A8.getF (pc' := 11) (host := "") d12_8 (Or.inl (hw _ (List.mem_of_getElem? (i := 40) rfl))) Via.refl e1 rfl
  have A10 := A9.iloadN (v := (0 : Int32)) (pc' := 12) d12_11 rfl rfl
  obtain ⟨r12, _, ⟨rfl, q13⟩, A11⟩ := W.kI (A10.callS (argsL := [(.ref b), (.int (0 : Int32))]) (rest := []) (C' := 0) (S' := 0) (pc' := 15) d12_12 (hw _ (List.mem_of_getElem? (i := 60) rfl)) (hw _ (List.mem_of_getElem? (i := 61) rfl)) (hw _ (List.mem_of_getElem? (i := 62) rfl)) (hw _ (List.mem_of_getElem? (i := 63) rfl)) (rm14_L0 l Z a0 hw n0 [] (b) (f) (_) h0 A10.size e3 (by assumption) e5 e8 (by assumption)) rfl rfl pd_5 rfl rfl (by decide) (by decide) (Nat.le_of_ble_eq_true rfl) (by decide) (by decide) rfl rfl rfl)
  subst q13
  refine A11.retN (t := .char) (z' := (97 : Int32)) d12_15 (by decide) (by decide) (by simp) (by decide) ⟨_, rfl, ⟨rfl, ?_⟩⟩
  have elit : (97 : Int32).toInt = 97 := rfl
  rfl
abbrev y12_L1 : MethodName := (⟨"java/lang/String", "charAt", "(I)C"⟩ : MethodName)
abbrev R12_L1 : Room := { frames := 3, cells := 0, slots := 0, locals := 40 }
set_option maxRecDepth 65536 in
set_option maxHeartbeats 4000000 in
theorem ef12_L1 (s : Addr)  (mid : MethodId) : entryFrame mid #[(.ref s), (.int (1 : Int32))] 2 = mkF mid 0 #[.val (.ref s), .val (.int (1 : Int32))] [] := by first | (simp [entryFrame, mkF, argsToLocals, Value.category]; done) | rfl
set_option maxRecDepth 65536 in
set_option maxHeartbeats 40000000 in
theorem rm12_L1 (l : Launch) (Z : State) (a0 : Array Value) (hw : ∀ d ∈ tables_1, d.before a0 Z = true) (n0 : Nat) (ws : List Jvm.Cond) (s : Addr) (b : Addr) (f : Nat → Value) (ch : Int32) (cs : Int32) (fm : Value) (h0 : Heap) (hn0 : n0 ≤ h0.size) (e0 : Exa Z h0 s "java/lang/String") (e1 : Fld Z h0 s "java/lang/String" "value" "[B" (.ref b)) (e2 : Fld Z h0 s "java/lang/String" "coder" "B" (.int (0 : Int32))) (e3 : Ars Z h0 b .byte 2 f) (e4 : f 1 = .int ch.toInt8.toInt32) (e5 : 0 ≤ ch.toInt ∧ ch.toInt ≤ 255) (e6 : Old Z n0 h0) (e7 : Sta Z Z.heap "java/lang/String" "COMPACT_STRINGS" "Z" (.int cs)) (e8 : cs.toInt ≠ 0) (e9 : Sta Z Z.heap "jdk/internal/util/Preconditions" "SIOOBE_FORMATTER" "Ljava/util/function/BiFunction;" fm) (e10 : fm.isRef = true) :
    Ctr l Z n0 y12_L1 jdk_42_method_56_code 2 (some .char) ws R12_L1 #[(.ref s), (.int (1 : Int32))] h0 (QI fun r h => (h0 = h) ∧ (r.toInt = ch.toInt)) := by
  refine ctr_of pn12 hn0 (ef12_L1 s) fun G A0 => ?_
  have A1 := A0.aloadN (v := (.ref s)) (pc' := 1) d12_0 rfl rfl rfl
  obtain ⟨r3, _, ⟨rfl, q4⟩, A2⟩ := W.kI (A1.callV (a := s) (argsL := []) (rest := []) (C' := 0) (S' := 0) (pc' := 4) d12_1 e0 (hw _ (List.mem_of_getElem? (i := 55) rfl)) (hw _ (List.mem_of_getElem? (i := 56) rfl)) (fun hZ => notFace_of_selects (args := #[]) (mvT hZ (hw _ (List.mem_of_getElem? (i := 58) rfl)))) (hw _ (List.mem_of_getElem? (i := 58) rfl)) (hw _ (List.mem_of_getElem? (i := 57) rfl)) (hw _ (List.mem_of_getElem? (i := 15) rfl)) (hw _ (List.mem_of_getElem? (i := 59) rfl)) (rm13_L l Z a0 hw n0 [] (s) (_) h0 A1.size e2 e6 e7 (by assumption)) rfl rfl pd_14 rfl rfl (by decide) (by decide) (Nat.le_of_ble_eq_true rfl) (by decide) (by decide) rfl rfl rfl)
  subst q4
  have A7 := A2.ifNo (pc' := 7) d12_4 (feq (ine (x := (1 : Int32)) (y := (0 : Int32)) rfl rfl (by decide : ¬ ((1 : Int) = 0)))).1 rfl
  have A8 := A7.aloadN (v := (.ref s)) (pc' := 8) d12_7 rfl rfl rfl
  have A9 := A8.getF (pc' := 11) (host := "") d12_8 (Or.inl (hw _ (List.mem_of_getElem? (i := 40) rfl))) Via.refl e1 rfl
  have A10 := A9.iloadN (v := (1 : Int32)) (pc' := 12) d12_11 rfl rfl
  obtain ⟨r12, _, ⟨rfl, q13⟩, A11⟩ := W.kI (A10.callS (argsL := [(.ref b), (.int (1 : Int32))]) (rest := []) (C' := 0) (S' := 0) (pc' := 15) d12_12 (hw _ (List.mem_of_getElem? (i := 60) rfl)) (hw _ (List.mem_of_getElem? (i := 61) rfl)) (hw _ (List.mem_of_getElem? (i := 62) rfl)) (hw _ (List.mem_of_getElem? (i := 63) rfl)) (rm14_L1 l Z a0 hw n0 [] (b) (f) (_) (_) h0 A10.size e3 (by assumption) (by assumption) e6 e9 (by assumption)) rfl rfl pd_5 rfl rfl (by decide) (by decide) (Nat.le_of_ble_eq_true rfl) (by decide) (by decide) rfl rfl rfl)
  refine A11.retN (t := .char) (z' := r12) d12_15 (by decide) (by decide) (by simp) (by exact own_nch _ (by omega) (by omega)) ⟨_, rfl, ⟨rfl, ?_⟩⟩
  first | assumption | omega
theorem pn10 : plainFor (⟨"com/example/hazama/hazama/model/Letters", "isLetter", "(Ljava/lang/String;)Z"⟩ : MethodName) = true := by first | exact plainFor_of_name (by first | (simp [plainName, overriddenIn]; done) | decide +kernel) | exact Jvm.Free.JP.mathPlain rfl (by decide +kernel) | decide +kernel
theorem d10_0 : decode prog_32_method_5_code 0 = .ok (.aload_n 0, 1) := by decide +kernel
theorem d10_1 : decode prog_32_method_5_code 1 = .ok (.ifnull 21, 3) := by decide +kernel
theorem d10_4 : decode prog_32_method_5_code 4 = .ok (.aload_n 0, 1) := by decide +kernel
theorem d10_5 : decode prog_32_method_5_code 5 = .ok (.invokevirtual 26, 3) := by decide +kernel
theorem d10_8 : decode prog_32_method_5_code 8 = .ok (.ifCond .ne 14, 3) := by decide +kernel
theorem d10_11 : decode prog_32_method_5_code 11 = .ok (.aload_n 0, 1) := by decide +kernel
theorem d10_12 : decode prog_32_method_5_code 12 = .ok (.iconst 0, 1) := by decide +kernel
theorem d10_13 : decode prog_32_method_5_code 13 = .ok (.invokevirtual 32, 3) := by decide +kernel
theorem d10_16 : decode prog_32_method_5_code 16 = .ok (.invokestatic 7, 3) := by decide +kernel
theorem d10_19 : decode prog_32_method_5_code 19 = .ok (.ifCond .ne 5, 3) := by decide +kernel
theorem d10_24 : decode prog_32_method_5_code 24 = .ok (.iconst 1, 1) := by decide +kernel
theorem d10_25 : decode prog_32_method_5_code 25 = .ok (.istore_n 1, 1) := by decide +kernel
theorem d10_26 : decode prog_32_method_5_code 26 = .ok (.iload_n 1, 1) := by decide +kernel
theorem d10_27 : decode prog_32_method_5_code 27 = .ok (.aload_n 0, 1) := by decide +kernel
theorem d10_28 : decode prog_32_method_5_code 28 = .ok (.invokevirtual 36, 3) := by decide +kernel
theorem d10_31 : decode prog_32_method_5_code 31 = .ok (.if_icmp .ge 22, 3) := by decide +kernel
theorem d10_34 : decode prog_32_method_5_code 34 = .ok (.aload_n 0, 1) := by decide +kernel
theorem d10_35 : decode prog_32_method_5_code 35 = .ok (.iload_n 1, 1) := by decide +kernel
theorem d10_36 : decode prog_32_method_5_code 36 = .ok (.invokevirtual 32, 3) := by decide +kernel
theorem d10_39 : decode prog_32_method_5_code 39 = .ok (.invokestatic 40, 3) := by decide +kernel
theorem d10_42 : decode prog_32_method_5_code 42 = .ok (.ifCond .ne 5, 3) := by decide +kernel
theorem d10_45 : decode prog_32_method_5_code 45 = .ok (.iconst 0, 1) := by decide +kernel
theorem d10_46 : decode prog_32_method_5_code 46 = .ok (.ireturn, 1) := by decide +kernel
theorem d10_47 : decode prog_32_method_5_code 47 = .ok (.iinc 1 1, 3) := by decide +kernel
theorem d10_50 : decode prog_32_method_5_code 50 = .ok (.goto (-24), 3) := by decide +kernel
theorem d10_53 : decode prog_32_method_5_code 53 = .ok (.iconst 1, 1) := by decide +kernel
theorem d10_54 : decode prog_32_method_5_code 54 = .ok (.ireturn, 1) := by decide +kernel
abbrev y10_L : MethodName := (⟨"com/example/hazama/hazama/model/Letters", "isLetter", "(Ljava/lang/String;)Z"⟩ : MethodName)
abbrev R10_L : Room := { frames := 4, cells := 0, slots := 0, locals := 53 }
set_option maxRecDepth 65536 in
set_option maxHeartbeats 4000000 in
theorem ef10_L (s : Addr)  (mid : MethodId) : entryFrame mid #[(.ref s)] 2 = mkF mid 0 #[.val (.ref s), .unset] [] := by first | (simp [entryFrame, mkF, argsToLocals, Value.category]; done) | rfl
set_option maxRecDepth 65536 in
set_option maxHeartbeats 40000000 in
theorem rm10_L (l : Launch) (Z : State) (a0 : Array Value) (hw : ∀ d ∈ tables_1, d.before a0 Z = true) (n0 : Nat) (ws : List Jvm.Cond) (s : Addr) (b : Addr) (ch : Int32) (cs : Int32) (fm : Value) (h0 : Heap) (hn0 : n0 ≤ h0.size) (e0 : Exa Z h0 s "java/lang/String") (e1 : Fld Z h0 s "java/lang/String" "value" "[B" (.ref b)) (e2 : Fld Z h0 s "java/lang/String" "coder" "B" (.int (0 : Int32))) (e3 : Ars Z h0 b .byte 2 (upd (upd (fun _ => (.int (0 : Int32))) 0 (.int (97 : Int32).toInt8.toInt32)) 1 (.int ch.toInt8.toInt32.toInt8.toInt32))) (e4 : 0 ≤ ch.toInt ∧ ch.toInt ≤ 255) (e5 : Old Z n0 h0) (e6 : Sta Z Z.heap "java/lang/String" "COMPACT_STRINGS" "Z" (.int cs)) (e7 : cs.toInt ≠ 0) (e8 : Sta Z Z.heap "jdk/internal/util/Preconditions" "SIOOBE_FORMATTER" "Ljava/util/function/BiFunction;" fm) (e9 : fm.isRef = true) :
    Ctr l Z n0 y10_L prog_32_method_5_code 2 (some .boolean) ws R10_L #[(.ref s)] h0 (QI fun r h => (h0 = h) ∧ ((r.toInt = 1 ∧ ((97 ≤ ch.toInt ∧ ch.toInt ≤ 122) ∨ (48 ≤ ch.toInt ∧ ch.toInt ≤ 57) ∨ ch.toInt = 95)) ∨ (r.toInt = 0 ∧ ¬ ((97 ≤ ch.toInt ∧ ch.toInt ≤ 122) ∨ (48 ≤ ch.toInt ∧ ch.toInt ≤ 57) ∨ ch.toInt = 95)))) := by
  refine ctr_of pn10 hn0 (ef10_L s) fun G A0 => ?_
  have l97 : (97 : Int32).toInt = 97 := rfl
  have A1 := A0.aloadN (v := (.ref s)) (pc' := 1) d10_0 rfl rfl rfl
  have A2 := A1.ifnullNo (pc' := 4) d10_1 rfl
  have A3 := A2.aloadN (v := (.ref s)) (pc' := 5) d10_4 rfl rfl rfl
  obtain ⟨r5, _, ⟨rfl, q6⟩, A4⟩ := W.kI (A3.callV (a := s) (argsL := []) (rest := []) (C' := 0) (S' := 0) (pc' := 8) d10_5 e0 (hw _ (List.mem_of_getElem? (i := 45) rfl)) (hw _ (List.mem_of_getElem? (i := 46) rfl)) (fun hZ => notFace_of_selects (args := #[]) (mvT hZ (hw _ (List.mem_of_getElem? (i := 48) rfl)))) (hw _ (List.mem_of_getElem? (i := 48) rfl)) (hw _ (List.mem_of_getElem? (i := 47) rfl)) (hw _ (List.mem_of_getElem? (i := 15) rfl)) (hw _ (List.mem_of_getElem? (i := 49) rfl)) (rm11_L l Z a0 hw n0 [] (s) (b) ((upd (upd (fun _ => (.int (0 : Int32))) 0 (.int (97 : Int32).toInt8.toInt32)) 1 (.int ch.toInt8.toInt32.toInt8.toInt32))) h0 A3.size e1 e3) rfl rfl pd_14 rfl rfl (by decide) (by decide) (Nat.le_of_ble_eq_true rfl) (by decide) (by decide) rfl rfl rfl)
  subst q6
  have A9 := A4.ifNo (pc' := 11) d10_8 (teq (ieq (x := (0 : Int32)) (y := (0 : Int32)) rfl rfl (by decide : (0 : Int) = 0))).2 rfl
  have A10 := A9.aloadN (v := (.ref s)) (pc' := 12) d10_11 rfl rfl rfl
  have A11 := A10.iconst (z := (0 : Int32)) (pc' := 13) d10_12 rfl rfl
  obtain ⟨r13, _, ⟨rfl, q14⟩, A12⟩ := W.kI (A11.callV (a := s) (argsL := [(.int (0 : Int32))]) (rest := []) (C' := 0) (S' := 0) (pc' := 16) d10_13 e0 (hw _ (List.mem_of_getElem? (i := 50) rfl)) (hw _ (List.mem_of_getElem? (i := 51) rfl)) (fun hZ => notFace_of_selects (args := #[]) (mvT hZ (hw _ (List.mem_of_getElem? (i := 53) rfl)))) (hw _ (List.mem_of_getElem? (i := 53) rfl)) (hw _ (List.mem_of_getElem? (i := 52) rfl)) (hw _ (List.mem_of_getElem? (i := 15) rfl)) (hw _ (List.mem_of_getElem? (i := 54) rfl)) (rm12_L0 l Z a0 hw n0 [] (s) (b) ((upd (upd (fun _ => (.int (0 : Int32))) 0 (.int (97 : Int32).toInt8.toInt32)) 1 (.int ch.toInt8.toInt32.toInt8.toInt32))) (_) (_) h0 A11.size e0 e1 e2 e3 (by first | assumption | rfl) e5 e6 (by first | assumption | rfl) e8 (by first | assumption | rfl)) rfl rfl pd_15 rfl rfl (by decide) (by decide) (Nat.le_of_ble_eq_true rfl) (by decide) (by decide) rfl rfl rfl)
  subst q14
  obtain ⟨r17, _, ⟨rfl, q18⟩, A16⟩ := W.kI (A12.callS (argsL := [(.int (97 : Int32))]) (rest := []) (C' := 0) (S' := 0) (pc' := 19) d10_16 (hw _ (List.mem_of_getElem? (i := 4) rfl)) (hw _ (List.mem_of_getElem? (i := 5) rfl)) (hw _ (List.mem_of_getElem? (i := 2) rfl)) (hw _ (List.mem_of_getElem? (i := 6) rfl)) (rm2 l Z a0 hw n0 [] ((97 : Int32))  h0 A12.size ) rfl rfl pd_0 rfl rfl (by decide) (by decide) (Nat.le_of_ble_eq_true rfl) (by decide) (by decide) rfl rfl rfl)
  by_cases c20 : r17.toInt = 0
  · exfalso
    omega
  · have A22 := A16.ifYes (pc' := 24) d10_19 (feq (ine (x := r17) (y := (0 : Int32)) rfl rfl c20)).2 (by decide) (by decide)
    have A23 := A22.iconst (z := (1 : Int32)) (pc' := 25) d10_24 rfl rfl
    have A24 := A23.istoreN (Ls' := #[.val (.ref s), .val (.int (1 : Int32))]) (pc' := 26) d10_25 rfl rfl
    have A25 := A24.iloadN (v := (1 : Int32)) (pc' := 27) d10_26 rfl rfl
    have A26 := A25.aloadN (v := (.ref s)) (pc' := 28) d10_27 rfl rfl rfl
    obtain ⟨r28, _, ⟨rfl, q29⟩, A27⟩ := W.kI (A26.callV (a := s) (argsL := []) (rest := [(.int (1 : Int32))]) (C' := 0) (S' := 0) (pc' := 31) d10_28 e0 (hw _ (List.mem_of_getElem? (i := 72) rfl)) (hw _ (List.mem_of_getElem? (i := 73) rfl)) (fun hZ => notFace_of_selects (args := #[]) (mvT hZ (hw _ (List.mem_of_getElem? (i := 75) rfl)))) (hw _ (List.mem_of_getElem? (i := 75) rfl)) (hw _ (List.mem_of_getElem? (i := 74) rfl)) (hw _ (List.mem_of_getElem? (i := 15) rfl)) (hw _ (List.mem_of_getElem? (i := 76) rfl)) (rm17_L l Z a0 hw n0 [] (s) (b) ((upd (upd (fun _ => (.int (0 : Int32))) 0 (.int (97 : Int32).toInt8.toInt32)) 1 (.int ch.toInt8.toInt32.toInt8.toInt32))) (_) h0 A26.size e0 e1 e3 e2 e5 e6 (by assumption)) rfl rfl pd_16 rfl rfl (by decide) (by decide) (Nat.le_of_ble_eq_true rfl) (by decide) (by decide) rfl rfl rfl)
    subst q29
    have A32 := A27.icmpNo (pc' := 34) d10_31 (tlt (ilt (x := (1 : Int32)) (y := (2 : Int32)) rfl rfl (by decide : (1 : Int) < 2))).2.1 rfl
    have A33 := A32.aloadN (v := (.ref s)) (pc' := 35) d10_34 rfl rfl rfl
    have A34 := A33.iloadN (v := (1 : Int32)) (pc' := 36) d10_35 rfl rfl
    obtain ⟨r36, _, ⟨rfl, q37⟩, A35⟩ := W.kI (A34.callV (a := s) (argsL := [(.int (1 : Int32))]) (rest := []) (C' := 0) (S' := 0) (pc' := 39) d10_36 e0 (hw _ (List.mem_of_getElem? (i := 50) rfl)) (hw _ (List.mem_of_getElem? (i := 51) rfl)) (fun hZ => notFace_of_selects (args := #[]) (mvT hZ (hw _ (List.mem_of_getElem? (i := 53) rfl)))) (hw _ (List.mem_of_getElem? (i := 53) rfl)) (hw _ (List.mem_of_getElem? (i := 52) rfl)) (hw _ (List.mem_of_getElem? (i := 15) rfl)) (hw _ (List.mem_of_getElem? (i := 54) rfl)) (rm12_L1 l Z a0 hw n0 [] (s) (b) ((upd (upd (fun _ => (.int (0 : Int32))) 0 (.int (97 : Int32).toInt8.toInt32)) 1 (.int ch.toInt8.toInt32.toInt8.toInt32))) (ch) (_) (_) h0 A34.size e0 e1 e2 e3 (by first | assumption | exact congrArg Value.int (own_bb ch) | rfl | omega) (by first | assumption | exact congrArg Value.int (own_bb ch) | rfl | omega) e5 e6 (by first | assumption | exact congrArg Value.int (own_bb ch) | rfl | omega) e8 (by first | assumption | exact congrArg Value.int (own_bb ch) | rfl | omega)) rfl rfl pd_15 rfl rfl (by decide) (by decide) (Nat.le_of_ble_eq_true rfl) (by decide) (by decide) rfl rfl rfl)
    obtain ⟨r40, _, ⟨rfl, q41⟩, A39⟩ := W.kI (A35.callS (argsL := [(.int r36)]) (rest := []) (C' := 0) (S' := 0) (pc' := 42) d10_39 (hw _ (List.mem_of_getElem? (i := 82) rfl)) (hw _ (List.mem_of_getElem? (i := 1) rfl)) (hw _ (List.mem_of_getElem? (i := 2) rfl)) (hw _ (List.mem_of_getElem? (i := 3) rfl)) (rm1 l Z a0 hw n0 [] (r36)  h0 A35.size ) rfl rfl pd_0 rfl rfl (by decide) (by decide) (Nat.le_of_ble_eq_true rfl) (by decide) (by decide) rfl rfl rfl)
    by_cases c43 : r40.toInt = 0
    · have A44 := A39.ifNo (pc' := 45) d10_42 (teq (ieq (x := r40) (y := (0 : Int32)) rfl rfl c43)).2 rfl
      have A45 := A44.iconst (z := (0 : Int32)) (pc' := 46) d10_45 rfl rfl
      refine A45.retN (t := .boolean) (z' := (0 : Int32)) d10_46 (by decide) (by decide) (by simp) rfl ⟨_, rfl, ⟨rfl, ?_⟩⟩
      have elit : (0 : Int32).toInt = 0 := rfl
      omega
    · have A46 := A39.ifYes (pc' := 47) d10_42 (feq (ine (x := r40) (y := (0 : Int32)) rfl rfl c43)).2 (by decide) (by decide)
      have A47 := A46.iinc (v := (1 : Int32)) (z := (2 : Int32)) (Ls' := #[.val (.ref s), .val (.int (2 : Int32))]) (pc' := 50) d10_47 rfl (by decide) rfl rfl
      have A48 := A47.goto (pc' := 26) d10_50 (by decide) (by decide)
      have A49 := A48.iloadN (v := (2 : Int32)) (pc' := 27) d10_26 rfl rfl
      have A50 := A49.aloadN (v := (.ref s)) (pc' := 28) d10_27 rfl rfl rfl
      obtain ⟨r52, _, ⟨rfl, q53⟩, A51⟩ := W.kI (A50.callV (a := s) (argsL := []) (rest := [(.int (2 : Int32))]) (C' := 0) (S' := 0) (pc' := 31) d10_28 e0 (hw _ (List.mem_of_getElem? (i := 72) rfl)) (hw _ (List.mem_of_getElem? (i := 73) rfl)) (fun hZ => notFace_of_selects (args := #[]) (mvT hZ (hw _ (List.mem_of_getElem? (i := 75) rfl)))) (hw _ (List.mem_of_getElem? (i := 75) rfl)) (hw _ (List.mem_of_getElem? (i := 74) rfl)) (hw _ (List.mem_of_getElem? (i := 15) rfl)) (hw _ (List.mem_of_getElem? (i := 76) rfl)) (rm17_L l Z a0 hw n0 [] (s) (b) ((upd (upd (fun _ => (.int (0 : Int32))) 0 (.int (97 : Int32).toInt8.toInt32)) 1 (.int ch.toInt8.toInt32.toInt8.toInt32))) (_) h0 A50.size e0 e1 e3 e2 e5 e6 (by assumption)) rfl rfl pd_16 rfl rfl (by decide) (by decide) (Nat.le_of_ble_eq_true rfl) (by decide) (by decide) rfl rfl rfl)
      subst q53
      have A56 := A51.icmpYes (pc' := 53) d10_31 (flt (inlt (x := (2 : Int32)) (y := (2 : Int32)) rfl rfl (by decide : ¬ ((2 : Int) < 2)))).2.1 (by decide) (by decide)
      have A57 := A56.iconst (z := (1 : Int32)) (pc' := 54) d10_53 rfl rfl
      refine A57.retN (t := .boolean) (z' := (1 : Int32)) d10_54 (by decide) (by decide) (by simp) rfl ⟨_, rfl, ⟨rfl, ?_⟩⟩
      have elit : (1 : Int32).toInt = 1 := rfl
      omega
abbrev y9_U : MethodName := (⟨"java/lang/StringUTF16", "coderFromArrayLen", "([BI)B"⟩ : MethodName)
abbrev R9_U : Room := { frames := 0, cells := 0, slots := 0, locals := 0 }
set_option maxRecDepth 65536 in
set_option maxHeartbeats 4000000 in
theorem ef9_U (b : Addr)  (mid : MethodId) : entryFrame mid #[(.ref b), (.int (2 : Int32))] 2 = mkF mid 0 #[.val (.ref b), .val (.int (2 : Int32))] [] := by first | (simp [entryFrame, mkF, argsToLocals, Value.category]; done) | rfl
set_option maxRecDepth 65536 in
set_option maxHeartbeats 40000000 in
theorem rm9_U (l : Launch) (Z : State) (a0 : Array Value) (hw : ∀ d ∈ tables_1, d.before a0 Z = true) (n0 : Nat) (ws : List Jvm.Cond) (b : Addr) (f : Nat → Value) (h0 : Heap) (hn0 : n0 ≤ h0.size) (e0 : Ars Z h0 b .byte 4 f) :
    Ctr l Z n0 y9_U jdk_52_method_15_code 2 (some .byte) ws R9_U #[(.ref b), (.int (2 : Int32))] h0 (QI fun r h => (h0 = h) ∧ (r = (1 : Int32))) := by
  refine ctr_of pn9 hn0 (ef9_U b) fun G A0 => ?_
  have A1 := A0.iloadN (v := (2 : Int32)) (pc' := 1) d9_0 rfl rfl
  have A2 := A1.aloadN (v := (.ref b)) (pc' := 2) d9_1 rfl rfl rfl
  have A3 := A2.alen (z := (4 : Int32)) (pc' := 3) d9_2 e0 rfl rfl
  have A4 := A3.isub (pc' := 4) d9_3 rfl
  have A5 := A4.topI (z := (-2 : Int32)) (by decide)
  have A6 := A5.bipush (z := (31 : Int32)) (pc' := 6) d9_4 rfl rfl
  have A7 := A6.iushr (pc' := 7) d9_6 rfl
  have A8 := A7.topI (z := (1 : Int32)) (by decide)
  have A9 := A8.i2b (pc' := 8) d9_7 rfl
  have A10 := A9.topI (z := (1 : Int32)) (by decide)
  refine A10.retN (t := .byte) (z' := (1 : Int32)) d9_8 (by decide) (by decide) (by simp) rfl ⟨_, rfl, ⟨rfl, ?_⟩⟩
  have elit : (1 : Int32).toInt = 1 := rfl
  rfl
abbrev y5_U : MethodName := (⟨"java/lang/String", "<init>", "([CIILjava/lang/Void;)V"⟩ : MethodName)
abbrev R5_U : Room := { frames := 4, cells := 2, slots := 6, locals := 57 }
set_option maxRecDepth 65536 in
set_option maxHeartbeats 4000000 in
theorem ef5_U (s : Addr) (a : Addr)  (mid : MethodId) : entryFrame mid #[(.ref s), (.ref a), (.int (0 : Int32)), (.int (2 : Int32)), .null] 6 = mkF mid 0 #[.val (.ref s), .val (.ref a), .val (.int (0 : Int32)), .val (.int (2 : Int32)), .val .null, .unset] [] := by first | (simp [entryFrame, mkF, argsToLocals, Value.category]; done) | rfl
set_option maxRecDepth 65536 in
set_option maxHeartbeats 40000000 in
theorem rm5_U (l : Launch) (Z : State) (a0 : Array Value) (hw : ∀ d ∈ tables_1, d.before a0 Z = true) (n0 : Nat) (ws : List Jvm.Cond) (s : Addr) (a : Addr) (f : Nat → Value) (ch : Int32) (cs : Int32) (h0 : Heap) (hn0 : n0 ≤ h0.size) (e0 : Ars Z h0 a .char 2 f) (e1 : f 0 = .int (97 : Int32)) (e2 : f 1 = .int ch) (e3 : 256 ≤ ch.toInt ∧ ch.toInt ≤ 65535) (e4 : Exa Z h0 s "java/lang/String") (e5 : n0 ≤ s) (e6 : Fld Z h0 s "java/lang/String" "value" "[B" .null) (e7 : Fld Z h0 s "java/lang/String" "coder" "B" (.int (0 : Int32))) (e8 : s ≠ a) (e9 : Old Z n0 h0) (e10 : Sta Z Z.heap "java/lang/String" "COMPACT_STRINGS" "Z" (.int cs)) (e11 : cs.toInt ≠ 0) (e12 : Sta Z Z.heap "java/lang/StringUTF16" "$assertionsDisabled" "Z" (.int (1 : Int32))) (e13 : Sta Z Z.heap "java/lang/StringUTF16" "HI_BYTE_SHIFT" "I" (.int (0 : Int32))) (e14 : Sta Z Z.heap "java/lang/StringUTF16" "LO_BYTE_SHIFT" "I" (.int (8 : Int32))) :
    Ctr l Z n0 y5_U jdk_42_method_149_code 6 (none) ws R5_U #[(.ref s), (.ref a), (.int (0 : Int32)), (.int (2 : Int32)), .null] h0 (QV fun h => ∃ b1 : Addr, (Keep h0 h [s]) ∧ (n0 ≤ b1) ∧ (h0.size ≤ b1) ∧ (Fld Z h s "java/lang/String" "coder" "B" (.int (1 : Int32))) ∧ (Fld Z h s "java/lang/String" "value" "[B" (.ref b1)) ∧ (Ars Z h b1 .byte 4 (upd (upd (upd (upd (fun _ => (.int (0 : Int32))) 0 (.int (own_hi (97 : Int32)))) 1 (.int (own_lo (97 : Int32)))) 2 (.int (own_hi ch))) 3 (.int (own_lo ch)))) ∧ (True)) := by
  refine ctr_of pn5 hn0 (ef5_U s a) fun G A0 => ?_
  have A1 := A0.aloadN (v := (.ref s)) (pc' := 1) d5_0 rfl rfl rfl
  have A2 := A1.initO (pc' := 4) d5_1 (hw _ (List.mem_of_getElem? (i := 23) rfl)) (hw _ (List.mem_of_getElem? (i := 24) rfl)) (hw _ (List.mem_of_getElem? (i := 25) rfl)) rfl (by decide) (Nat.le_of_ble_eq_true rfl) rfl
  have A3 := A2.iloadN (v := (2 : Int32)) (pc' := 5) d5_4 rfl rfl
  have A5 := A3.ifYes (pc' := 27) d5_5 (feq (ine (x := (2 : Int32)) (y := (0 : Int32)) rfl rfl (by decide : ¬ ((2 : Int) = 0)))).2 (by decide) (by decide)
  have f7 := e10.ext e9.2
  have A6 := A5.getS (pc' := 30) (host := "") d5_27 (Or.inl (hw _ (List.mem_of_getElem? (i := 26) rfl))) Via.refl f7 rfl
  by_cases c8 : cs.toInt = 0
  · exfalso
    omega
  · have A10 := A6.ifNo (pc' := 33) d5_30 (feq (ine (x := cs) (y := (0 : Int32)) rfl rfl c8)).1 rfl
    have A11 := A10.aloadN (v := (.ref a)) (pc' := 34) d5_33 rfl rfl rfl
    have A12 := A11.iloadN (v := (0 : Int32)) (pc' := 35) d5_34 rfl rfl
    have A13 := A12.iloadN (v := (2 : Int32)) (pc' := 36) d5_35 rfl rfl
    obtain ⟨r15, h17, ⟨K18, g19, z20, f21, q16⟩, A14⟩ := W.kA (A13.callS (argsL := [(.ref a), (.int (0 : Int32)), (.int (2 : Int32))]) (rest := []) (C' := 2) (S' := 6) (pc' := 39) d5_36 (hw _ (List.mem_of_getElem? (i := 27) rfl)) (hw _ (List.mem_of_getElem? (i := 28) rfl)) (hw _ (List.mem_of_getElem? (i := 29) rfl)) (hw _ (List.mem_of_getElem? (i := 30) rfl)) (rm7_U l Z a0 hw n0 [] (a) (f) (_) h0 A13.size e0 (by assumption) (by assumption) (by assumption) e9 e12 e13 e14) rfl rfl pd_10 rfl rfl (by decide) (by decide) (Nat.le_of_ble_eq_true rfl) (by decide) (by decide) rfl rfl rfl)
    have ne22 : a ≠ r15 := Nat.ne_of_lt (Nat.lt_of_lt_of_le e0.lt z20)
    have ne23 : s ≠ r15 := Nat.ne_of_lt (Nat.lt_of_lt_of_le e4.lt z20)
    have A24 := A14.astore (Ls' := #[.val (.ref s), .val (.ref a), .val (.int (0 : Int32)), .val (.int (2 : Int32)), .val .null, .val (.ref r15)]) (pc' := 41) d5_39 rfl rfl rfl
    have A25 := A24.aloadN (v := (.ref s)) (pc' := 42) d5_41 rfl rfl rfl
    have A26 := A25.aload (v := (.ref r15)) (pc' := 44) d5_42 rfl rfl rfl
    have A27 := A26.iloadN (v := (2 : Int32)) (pc' := 45) d5_44 rfl rfl
    obtain ⟨r29, _, ⟨rfl, q30⟩, A28⟩ := W.kI (A27.callS (argsL := [(.ref r15), (.int (2 : Int32))]) (rest := [(.ref s)]) (C' := 2) (S' := 6) (pc' := 48) d5_45 (hw _ (List.mem_of_getElem? (i := 35) rfl)) (hw _ (List.mem_of_getElem? (i := 36) rfl)) (hw _ (List.mem_of_getElem? (i := 29) rfl)) (hw _ (List.mem_of_getElem? (i := 37) rfl)) (rm9_U l Z a0 hw n0 [] (r15) ((upd (upd (upd (upd (fun _ => (.int (0 : Int32))) 0 (.int (own_hi (97 : Int32)))) 1 (.int (own_lo (97 : Int32)))) 2 (.int (own_hi ch))) 3 (.int (own_lo ch)))) h17 A27.size f21) rfl rfl pd_11 rfl rfl (by decide) (by decide) (Nat.le_of_ble_eq_true rfl) (by decide) (by decide) rfl rfl rfl)
    subst q30
    have f32 := (e7.keep K18 nin0)
    have f33 := (e4.keep K18)
    obtain ⟨h35, w36, A34⟩ := A28.putFN (pc' := 51) (ty := .byte) (v' := (.int (1 : Int32))) d5_48 (hw _ (List.mem_of_getElem? (i := 38) rfl)) Via.refl f32 f33 (Or.inr ⟨(hw _ (List.mem_of_getElem? (i := 39) rfl)), rfl, rfl⟩) (hw _ (List.mem_of_getElem? (i := 14) rfl)) (by decide) rfl rfl e5 rfl
    have f37 := f32.same w36
    have A38 := A34.aloadN (v := (.ref s)) (pc' := 52) d5_51 rfl rfl rfl
    have A39 := A38.aload (v := (.ref r15)) (pc' := 54) d5_52 rfl rfl rfl
    have f40 := ((e6.keep K18 nin0).other w36 (Or.inr (slot_ne (Or.inr (hw _ (List.mem_of_getElem? (i := 41) rfl))) (Or.inr (hw _ (List.mem_of_getElem? (i := 39) rfl))) (by decide) (t := (.array .byte)) (t' := .byte) (by decide) (by decide))))
    have f41 := (f33.wr w36)
    obtain ⟨h43, w44, A42⟩ := A39.putF (pc' := 57) (ty := (.array .byte)) (host := "") d5_54 (Or.inl (hw _ (List.mem_of_getElem? (i := 40) rfl))) Via.refl f40 f41 (Or.inr ⟨(hw _ (List.mem_of_getElem? (i := 41) rfl)), rfl, rfl⟩) (hw _ (List.mem_of_getElem? (i := 14) rfl)) (by decide) rfl rfl e5 rfl
    have f45 := f40.same w44
    have K46 : Keep h0 h43 [s] := ((((Keep.refl h0 [s]).trans K18 all0).wr w36 (Or.inl (List.mem_of_getElem? (i := 0) rfl))).wr w44 (Or.inl (List.mem_of_getElem? (i := 0) rfl)))
    have z47 : h0.size ≤ r15 := Nat.le_trans (Nat.le_refl _) z20
    have f48 := (f37.other w44 (Or.inr (slot_ne (Or.inr (hw _ (List.mem_of_getElem? (i := 39) rfl))) (Or.inr (hw _ (List.mem_of_getElem? (i := 41) rfl))) (by decide) (t := .byte) (t' := (.array .byte)) (by decide) (by decide))))
    have f49 := ((f21.other w36 (Ne.symm ne23)).other w44 (Ne.symm ne23))
    refine A42.retV d5_57 (by decide) (by decide) ⟨rfl, ⟨r15, K46, g19, z47, f48, f45, f49, ?_⟩⟩
    trivial
abbrev y4_U : MethodName := (⟨"java/lang/String", "<init>", "([C)V"⟩ : MethodName)
abbrev R4_U : Room := { frames := 5, cells := 2, slots := 6, locals := 74 }
set_option maxRecDepth 65536 in
set_option maxHeartbeats 4000000 in
theorem ef4_U (s : Addr) (a : Addr)  (mid : MethodId) : entryFrame mid #[(.ref s), (.ref a)] 2 = mkF mid 0 #[.val (.ref s), .val (.ref a)] [] := by first | (simp [entryFrame, mkF, argsToLocals, Value.category]; done) | rfl
set_option maxRecDepth 65536 in
set_option maxHeartbeats 40000000 in
theorem rm4_U (l : Launch) (Z : State) (a0 : Array Value) (hw : ∀ d ∈ tables_1, d.before a0 Z = true) (n0 : Nat) (ws : List Jvm.Cond) (s : Addr) (a : Addr) (f : Nat → Value) (ch : Int32) (cs : Int32) (h0 : Heap) (hn0 : n0 ≤ h0.size) (e0 : Ars Z h0 a .char 2 f) (e1 : f 0 = .int (97 : Int32)) (e2 : f 1 = .int ch) (e3 : 256 ≤ ch.toInt ∧ ch.toInt ≤ 65535) (e4 : Exa Z h0 s "java/lang/String") (e5 : n0 ≤ s) (e6 : Fld Z h0 s "java/lang/String" "value" "[B" .null) (e7 : Fld Z h0 s "java/lang/String" "coder" "B" (.int (0 : Int32))) (e8 : s ≠ a) (e9 : Old Z n0 h0) (e10 : Sta Z Z.heap "java/lang/String" "COMPACT_STRINGS" "Z" (.int cs)) (e11 : cs.toInt ≠ 0) (e12 : Sta Z Z.heap "java/lang/StringUTF16" "$assertionsDisabled" "Z" (.int (1 : Int32))) (e13 : Sta Z Z.heap "java/lang/StringUTF16" "HI_BYTE_SHIFT" "I" (.int (0 : Int32))) (e14 : Sta Z Z.heap "java/lang/StringUTF16" "LO_BYTE_SHIFT" "I" (.int (8 : Int32))) :
    Ctr l Z n0 y4_U jdk_42_method_3_code 2 (none) ws R4_U #[(.ref s), (.ref a)] h0 (QV fun h => ∃ b1 : Addr, (Keep h0 h [s]) ∧ (n0 ≤ b1) ∧ (h0.size ≤ b1) ∧ (Fld Z h s "java/lang/String" "coder" "B" (.int (1 : Int32))) ∧ (Fld Z h s "java/lang/String" "value" "[B" (.ref b1)) ∧ (Ars Z h b1 .byte 4 (upd (upd (upd (upd (fun _ => (.int (0 : Int32))) 0 (.int (own_hi (97 : Int32)))) 1 (.int (own_lo (97 : Int32)))) 2 (.int (own_hi ch))) 3 (.int (own_lo ch)))) ∧ (True)) := by
  refine ctr_of pn4 hn0 (ef4_U s a) fun G A0 => ?_
  have A1 := A0.aloadN (v := (.ref s)) (pc' := 1) d4_0 rfl rfl rfl
  have A2 := A1.aloadN (v := (.ref a)) (pc' := 2) d4_1 rfl rfl rfl
  have A3 := A2.iconst (z := (0 : Int32)) (pc' := 3) d4_2 rfl rfl
  have A4 := A3.aloadN (v := (.ref a)) (pc' := 4) d4_3 rfl rfl rfl
  have A5 := A4.alen (z := (2 : Int32)) (pc' := 5) d4_4 e0 rfl rfl
  have A6 := A5.aconstNull (pc' := 6) d4_5 rfl
  obtain ⟨h10, ⟨b12, K11, g13, z14, f15, f16, f17, q9⟩, A7⟩ := W.kV (A6.callI (a := s) (argsL := [(.ref a), (.int (0 : Int32)), (.int (2 : Int32)), .null]) (rest := []) (C' := 2) (S' := 6) (pc' := 9) d4_6 rfl (hw _ (List.mem_of_getElem? (i := 19) rfl)) (hw _ (List.mem_of_getElem? (i := 20) rfl)) (hw _ (List.mem_of_getElem? (i := 15) rfl)) (hw _ (List.mem_of_getElem? (i := 22) rfl)) (rm5_U l Z a0 hw n0 [] (s) (a) (f) (_) (_) h0 A6.size e0 (by assumption) (by assumption) (by assumption) e4 e5 e6 e7 e8 e9 e10 (by assumption) e12 e13 e14) rfl rfl pd_12 rfl rfl (by decide) (by decide) (Nat.le_of_ble_eq_true rfl) (by decide) (by decide) rfl rfl rfl)
  have ne18 : a ≠ b12 := Nat.ne_of_lt (Nat.lt_of_lt_of_le e0.lt z14)
  have ne19 : s ≠ b12 := Nat.ne_of_lt (Nat.lt_of_lt_of_le e4.lt z14)
  have K20 : Keep h0 h10 [s] := ((Keep.refl h0 [s]).trans K11 (allS (Or.inl (List.mem_of_getElem? (i := 0) rfl)) all0))
  have z21 : h0.size ≤ b12 := Nat.le_trans (Nat.le_refl _) z14
  refine A7.retV d4_9 (by decide) (by decide) ⟨rfl, ⟨b12, K20, g13, z21, f15, f16, f17, ?_⟩⟩
  trivial
abbrev y11_U : MethodName := (⟨"java/lang/String", "isEmpty", "()Z"⟩ : MethodName)
abbrev R11_U : Room := { frames := 0, cells := 0, slots := 0, locals := 0 }
set_option maxRecDepth 65536 in
set_option maxHeartbeats 4000000 in
theorem ef11_U (s : Addr)  (mid : MethodId) : entryFrame mid #[(.ref s)] 1 = mkF mid 0 #[.val (.ref s)] [] := by first | (simp [entryFrame, mkF, argsToLocals, Value.category]; done) | rfl
set_option maxRecDepth 65536 in
set_option maxHeartbeats 40000000 in
theorem rm11_U (l : Launch) (Z : State) (a0 : Array Value) (hw : ∀ d ∈ tables_1, d.before a0 Z = true) (n0 : Nat) (ws : List Jvm.Cond) (s : Addr) (b : Addr) (f : Nat → Value) (h0 : Heap) (hn0 : n0 ≤ h0.size) (e0 : Fld Z h0 s "java/lang/String" "value" "[B" (.ref b)) (e1 : Ars Z h0 b .byte 4 f) :
    Ctr l Z n0 y11_U jdk_42_method_55_code 1 (some .boolean) ws R11_U #[(.ref s)] h0 (QI fun r h => (h0 = h) ∧ (r = (0 : Int32))) := by
  refine ctr_of pn11 hn0 (ef11_U s) fun G A0 => ?_
  have A1 := A0.aloadN (v := (.ref s)) (pc' := 1) d11_0 rfl rfl rfl
  have A2 := A1.getF (pc' := 4) (host := "") d11_1 (Or.inl (hw _ (List.mem_of_getElem? (i := 40) rfl))) Via.refl e0 rfl
  have A3 := A2.alen (z := (4 : Int32)) (pc' := 5) d11_4 e1 rfl rfl
  have A5 := A3.ifYes (pc' := 12) d11_5 (feq (ine (x := (4 : Int32)) (y := (0 : Int32)) rfl rfl (by decide : ¬ ((4 : Int) = 0)))).2 (by decide) (by decide)
  have A6 := A5.iconst (z := (0 : Int32)) (pc' := 13) d11_12 rfl rfl
  refine A6.retN (t := .boolean) (z' := (0 : Int32)) d11_13 (by decide) (by decide) (by simp) rfl ⟨_, rfl, ⟨rfl, ?_⟩⟩
  have elit : (0 : Int32).toInt = 0 := rfl
  rfl
theorem d13_17 : decode jdk_42_method_154_code 17 = .ok (.iconst 0, 1) := by decide +kernel
abbrev y13_U : MethodName := (⟨"java/lang/String", "isLatin1", "()Z"⟩ : MethodName)
abbrev R13_U : Room := { frames := 0, cells := 0, slots := 0, locals := 0 }
set_option maxRecDepth 65536 in
set_option maxHeartbeats 4000000 in
theorem ef13_U (s : Addr)  (mid : MethodId) : entryFrame mid #[(.ref s)] 1 = mkF mid 0 #[.val (.ref s)] [] := by first | (simp [entryFrame, mkF, argsToLocals, Value.category]; done) | rfl
set_option maxRecDepth 65536 in
set_option maxHeartbeats 40000000 in
theorem rm13_U (l : Launch) (Z : State) (a0 : Array Value) (hw : ∀ d ∈ tables_1, d.before a0 Z = true) (n0 : Nat) (ws : List Jvm.Cond) (s : Addr) (cs : Int32) (h0 : Heap) (hn0 : n0 ≤ h0.size) (e0 : Fld Z h0 s "java/lang/String" "coder" "B" (.int (1 : Int32))) (e1 : Old Z n0 h0) (e2 : Sta Z Z.heap "java/lang/String" "COMPACT_STRINGS" "Z" (.int cs)) (e3 : cs.toInt ≠ 0) :
    Ctr l Z n0 y13_U jdk_42_method_154_code 1 (some .boolean) ws R13_U #[(.ref s)] h0 (QI fun r h => (h0 = h) ∧ (r = (0 : Int32))) := by
  refine ctr_of pn13 hn0 (ef13_U s) fun G A0 => ?_
  have f2 := e2.ext e1.2
  have A1 := A0.getS (pc' := 3) (host := "") d13_0 (Or.inl (hw _ (List.mem_of_getElem? (i := 26) rfl))) Via.refl f2 rfl
  by_cases c3 : cs.toInt = 0
  · exfalso
    omega
  · have A5 := A1.ifNo (pc' := 6) d13_3 (feq (ine (x := cs) (y := (0 : Int32)) rfl rfl c3)).1 rfl
    have A6 := A5.aloadN (v := (.ref s)) (pc' := 7) d13_6 rfl rfl rfl
    have A7 := A6.getF (pc' := 10) (host := "") d13_7 (Or.inl (hw _ (List.mem_of_getElem? (i := 38) rfl))) Via.refl e0 rfl
    have A9 := A7.ifYes (pc' := 17) d13_10 (feq (ine (x := (1 : Int32)) (y := (0 : Int32)) rfl rfl (by decide : ¬ ((1 : Int) = 0)))).2 (by decide) (by decide)
    have A10 := A9.iconst (z := (0 : Int32)) (pc' := 18) d13_17 rfl rfl
    refine A10.retN (t := .boolean) (z' := (0 : Int32)) d13_18 (by decide) (by decide) (by simp) rfl ⟨_, rfl, ⟨rfl, ?_⟩⟩
    have elit : (0 : Int32).toInt = 0 := rfl
    rfl
abbrev y18_U : MethodName := (⟨"java/lang/String", "coder", "()B"⟩ : MethodName)
abbrev R18_U : Room := { frames := 0, cells := 0, slots := 0, locals := 0 }
set_option maxRecDepth 65536 in
set_option maxHeartbeats 4000000 in
theorem ef18_U (s : Addr)  (mid : MethodId) : entryFrame mid #[(.ref s)] 1 = mkF mid 0 #[.val (.ref s)] [] := by first | (simp [entryFrame, mkF, argsToLocals, Value.category]; done) | rfl
set_option maxRecDepth 65536 in
set_option maxHeartbeats 40000000 in
theorem rm18_U (l : Launch) (Z : State) (a0 : Array Value) (hw : ∀ d ∈ tables_1, d.before a0 Z = true) (n0 : Nat) (ws : List Jvm.Cond) (s : Addr) (cs : Int32) (h0 : Heap) (hn0 : n0 ≤ h0.size) (e0 : Fld Z h0 s "java/lang/String" "coder" "B" (.int (1 : Int32))) (e1 : Old Z n0 h0) (e2 : Sta Z Z.heap "java/lang/String" "COMPACT_STRINGS" "Z" (.int cs)) (e3 : cs.toInt ≠ 0) :
    Ctr l Z n0 y18_U jdk_42_method_152_code 1 (some .byte) ws R18_U #[(.ref s)] h0 (QI fun r h => (h0 = h) ∧ (r = (1 : Int32))) := by
  refine ctr_of pn18 hn0 (ef18_U s) fun G A0 => ?_
  have f2 := e2.ext e1.2
  have A1 := A0.getS (pc' := 3) (host := "") d18_0 (Or.inl (hw _ (List.mem_of_getElem? (i := 26) rfl))) Via.refl f2 rfl
  by_cases c3 : cs.toInt = 0
  · exfalso
    omega
  · have A5 := A1.ifNo (pc' := 6) d18_3 (feq (ine (x := cs) (y := (0 : Int32)) rfl rfl c3)).1 rfl
    have A6 := A5.aloadN (v := (.ref s)) (pc' := 7) d18_6 rfl rfl rfl
    have A7 := A6.getF (pc' := 10) (host := "") d18_7 (Or.inl (hw _ (List.mem_of_getElem? (i := 38) rfl))) Via.refl e0 rfl
    have A8 := A7.goto (pc' := 14) d18_10 (by decide) (by decide)
    refine A8.retN (t := .byte) (z' := (1 : Int32)) d18_14 (by decide) (by decide) (by simp) rfl ⟨_, rfl, ⟨rfl, ?_⟩⟩
    have elit : (1 : Int32).toInt = 1 := rfl
    rfl
abbrev y17_U : MethodName := (⟨"java/lang/String", "length", "()I"⟩ : MethodName)
abbrev R17_U : Room := { frames := 1, cells := 0, slots := 0, locals := 13 }
set_option maxRecDepth 65536 in
set_option maxHeartbeats 4000000 in
theorem ef17_U (s : Addr)  (mid : MethodId) : entryFrame mid #[(.ref s)] 1 = mkF mid 0 #[.val (.ref s)] [] := by first | (simp [entryFrame, mkF, argsToLocals, Value.category]; done) | rfl
set_option maxRecDepth 65536 in
set_option maxHeartbeats 40000000 in
theorem rm17_U (l : Launch) (Z : State) (a0 : Array Value) (hw : ∀ d ∈ tables_1, d.before a0 Z = true) (n0 : Nat) (ws : List Jvm.Cond) (s : Addr) (b : Addr) (f : Nat → Value) (cs : Int32) (h0 : Heap) (hn0 : n0 ≤ h0.size) (e0 : Exa Z h0 s "java/lang/String") (e1 : Fld Z h0 s "java/lang/String" "value" "[B" (.ref b)) (e2 : Ars Z h0 b .byte 4 f) (e3 : Fld Z h0 s "java/lang/String" "coder" "B" (.int (1 : Int32))) (e4 : Old Z n0 h0) (e5 : Sta Z Z.heap "java/lang/String" "COMPACT_STRINGS" "Z" (.int cs)) (e6 : cs.toInt ≠ 0) :
    Ctr l Z n0 y17_U jdk_42_method_54_code 1 (some .int) ws R17_U #[(.ref s)] h0 (QI fun r h => (h0 = h) ∧ (r = (2 : Int32))) := by
  refine ctr_of pn17 hn0 (ef17_U s) fun G A0 => ?_
  have A1 := A0.aloadN (v := (.ref s)) (pc' := 1) d17_0 rfl rfl rfl
  have A2 := A1.getF (pc' := 4) (host := "") d17_1 (Or.inl (hw _ (List.mem_of_getElem? (i := 40) rfl))) Via.refl e1 rfl
  have A3 := A2.alen (z := (4 : Int32)) (pc' := 5) d17_4 e2 rfl rfl
  have A4 := A3.aloadN (v := (.ref s)) (pc' := 6) d17_5 rfl rfl rfl
  obtain ⟨r6, _, ⟨rfl, q7⟩, A5⟩ := W.kI (A4.callV (a := s) (argsL := []) (rest := [(.int (4 : Int32))]) (C' := 0) (S' := 0) (pc' := 9) d17_6 e0 (hw _ (List.mem_of_getElem? (i := 77) rfl)) (hw _ (List.mem_of_getElem? (i := 78) rfl)) (fun hZ => notFace_of_selects (args := #[]) (mvT hZ (hw _ (List.mem_of_getElem? (i := 80) rfl)))) (hw _ (List.mem_of_getElem? (i := 80) rfl)) (hw _ (List.mem_of_getElem? (i := 79) rfl)) (hw _ (List.mem_of_getElem? (i := 15) rfl)) (hw _ (List.mem_of_getElem? (i := 81) rfl)) (rm18_U l Z a0 hw n0 [] (s) (_) h0 A4.size e3 e4 e5 (by assumption)) rfl rfl pd_13 rfl rfl (by decide) (by decide) (Nat.le_of_ble_eq_true rfl) (by decide) (by decide) rfl rfl rfl)
  subst q7
  have A9 := A5.ishr (pc' := 10) d17_9 rfl
  have A10 := A9.topI (z := (2 : Int32)) (by decide)
  refine A10.retI d17_10 (by decide) (by decide) ⟨_, rfl, ⟨rfl, ?_⟩⟩
  have elit : (2 : Int32).toInt = 2 := rfl
  rfl
theorem d12_16 : decode jdk_42_method_56_code 16 = .ok (.aload_n 0, 1) := by decide +kernel
theorem d12_17 : decode jdk_42_method_56_code 17 = .ok (.getfield 9, 3) := by decide +kernel
theorem d12_20 : decode jdk_42_method_56_code 20 = .ok (.iload_n 1, 1) := by decide +kernel
theorem d12_21 : decode jdk_42_method_56_code 21 = .ok (.invokestatic 498, 3) := by decide +kernel
theorem d12_24 : decode jdk_42_method_56_code 24 = .ok (.ireturn, 1) := by decide +kernel
abbrev y12_U0 : MethodName := (⟨"java/lang/String", "charAt", "(I)C"⟩ : MethodName)
abbrev R12_U0 : Room := { frames := 4, cells := 0, slots := 0, locals := 53 }
set_option maxRecDepth 65536 in
set_option maxHeartbeats 4000000 in
theorem ef12_U0 (s : Addr)  (mid : MethodId) : entryFrame mid #[(.ref s), (.int (0 : Int32))] 2 = mkF mid 0 #[.val (.ref s), .val (.int (0 : Int32))] [] := by first | (simp [entryFrame, mkF, argsToLocals, Value.category]; done) | rfl
set_option maxRecDepth 65536 in
set_option maxHeartbeats 40000000 in
theorem rm12_U0 (l : Launch) (Z : State) (a0 : Array Value) (hw : ∀ d ∈ tables_1, d.before a0 Z = true) (n0 : Nat) (ws : List Jvm.Cond) (s : Addr) (b : Addr) (f : Nat → Value) (x : Int32) (cs : Int32) (fm : Value) (h0 : Heap) (hn0 : n0 ≤ h0.size) (e0 : Exa Z h0 s "java/lang/String") (e1 : Fld Z h0 s "java/lang/String" "value" "[B" (.ref b)) (e2 : Fld Z h0 s "java/lang/String" "coder" "B" (.int (1 : Int32))) (e3 : Ars Z h0 b .byte 4 f) (e4 : f 0 = .int (own_hi x)) (e5 : f 1 = .int (own_lo x)) (e6 : 0 ≤ x.toInt ∧ x.toInt ≤ 65535) (e7 : Old Z n0 h0) (e8 : Sta Z Z.heap "java/lang/String" "COMPACT_STRINGS" "Z" (.int cs)) (e9 : cs.toInt ≠ 0) (e10 : Sta Z Z.heap "jdk/internal/util/Preconditions" "SIOOBE_FORMATTER" "Ljava/util/function/BiFunction;" fm) (e11 : fm.isRef = true) (e12 : Sta Z Z.heap "java/lang/StringUTF16" "$assertionsDisabled" "Z" (.int (1 : Int32))) (e13 : Sta Z Z.heap "java/lang/StringUTF16" "HI_BYTE_SHIFT" "I" (.int (0 : Int32))) (e14 : Sta Z Z.heap "java/lang/StringUTF16" "LO_BYTE_SHIFT" "I" (.int (8 : Int32))) :
    Ctr l Z n0 y12_U0 jdk_42_method_56_code 2 (some .char) ws R12_U0 #[(.ref s), (.int (0 : Int32))] h0 (QI fun r h => (h0 = h) ∧ (r.toInt = x.toInt)) := by
  refine ctr_of pn12 hn0 (ef12_U0 s) fun G A0 => ?_
  have A1 := A0.aloadN (v := (.ref s)) (pc' := 1) d12_0 rfl rfl rfl
  obtain ⟨r3, _, ⟨rfl, q4⟩, A2⟩ := W.kI (A1.callV (a := s) (argsL := []) (rest := []) (C' := 0) (S' := 0) (pc' := 4) d12_1 e0 (hw _ (List.mem_of_getElem? (i := 55) rfl)) (hw _ (List.mem_of_getElem? (i := 56) rfl)) (fun hZ => notFace_of_selects (args := #[]) (mvT hZ (hw _ (List.mem_of_getElem? (i := 58) rfl)))) (hw _ (List.mem_of_getElem? (i := 58) rfl)) (hw _ (List.mem_of_getElem? (i := 57) rfl)) (hw _ (List.mem_of_getElem? (i := 15) rfl)) (hw _ (List.mem_of_getElem? (i := 59) rfl)) (rm13_U l Z a0 hw n0 [] (s) (_) h0 A1.size e2 e7 e8 (by assumption)) rfl rfl pd_14 rfl rfl (by decide) (by decide) (Nat.le_of_ble_eq_true rfl) (by decide) (by decide) rfl rfl rfl)
  subst q4
  have A7 := A2.ifYes (pc' := 16) d12_4 (teq (ieq (x := (0 : Int32)) (y := (0 : Int32)) rfl rfl (by decide : (0 : Int) = 0))).1 (by decide) (by decide)
  have A8 := A7.aloadN (v := (.ref s)) (pc' := 17) d12_16 rfl rfl rfl
  have A9 := A8.getF (pc' := 20) (host := "") d12_17 (Or.inl (hw _ (List.mem_of_getElem? (i := 40) rfl))) Via.refl e1 rfl
  have A10 := A9.iloadN (v := (0 : Int32)) (pc' := 21) d12_20 rfl rfl
  obtain ⟨r12, _, ⟨rfl, q13⟩, A11⟩ := W.kI (A10.callS (argsL := [(.ref b), (.int (0 : Int32))]) (rest := []) (C' := 0) (S' := 0) (pc' := 24) d12_21 (hw _ (List.mem_of_getElem? (i := 102) rfl)) (hw _ (List.mem_of_getElem? (i := 103) rfl)) (hw _ (List.mem_of_getElem? (i := 29) rfl)) (hw _ (List.mem_of_getElem? (i := 104) rfl)) (rm24_0 l Z a0 hw n0 [] (b) (f) (x) (_) h0 A10.size e3 (by assumption) (by assumption) (by assumption) e7 e12 e13 e14 e10 (by assumption)) rfl rfl pd_5 rfl rfl (by decide) (by decide) (Nat.le_of_ble_eq_true rfl) (by decide) (by decide) rfl rfl rfl)
  have tq := congrArg Int32.toInt q13
  refine A11.retN (t := .char) (z' := r12) d12_24 (by decide) (by decide) (by simp) (by exact own_nch _ (by omega) (by omega)) ⟨_, rfl, ⟨rfl, ?_⟩⟩
  omega
abbrev y12_U1 : MethodName := (⟨"java/lang/String", "charAt", "(I)C"⟩ : MethodName)
abbrev R12_U1 : Room := { frames := 4, cells := 0, slots := 0, locals := 53 }
set_option maxRecDepth 65536 in
set_option maxHeartbeats 4000000 in
theorem ef12_U1 (s : Addr)  (mid : MethodId) : entryFrame mid #[(.ref s), (.int (1 : Int32))] 2 = mkF mid 0 #[.val (.ref s), .val (.int (1 : Int32))] [] := by first | (simp [entryFrame, mkF, argsToLocals, Value.category]; done) | rfl
set_option maxRecDepth 65536 in
set_option maxHeartbeats 40000000 in
theorem rm12_U1 (l : Launch) (Z : State) (a0 : Array Value) (hw : ∀ d ∈ tables_1, d.before a0 Z = true) (n0 : Nat) (ws : List Jvm.Cond) (s : Addr) (b : Addr) (f : Nat → Value) (x : Int32) (cs : Int32) (fm : Value) (h0 : Heap) (hn0 : n0 ≤ h0.size) (e0 : Exa Z h0 s "java/lang/String") (e1 : Fld Z h0 s "java/lang/String" "value" "[B" (.ref b)) (e2 : Fld Z h0 s "java/lang/String" "coder" "B" (.int (1 : Int32))) (e3 : Ars Z h0 b .byte 4 f) (e4 : f 2 = .int (own_hi x)) (e5 : f 3 = .int (own_lo x)) (e6 : 0 ≤ x.toInt ∧ x.toInt ≤ 65535) (e7 : Old Z n0 h0) (e8 : Sta Z Z.heap "java/lang/String" "COMPACT_STRINGS" "Z" (.int cs)) (e9 : cs.toInt ≠ 0) (e10 : Sta Z Z.heap "jdk/internal/util/Preconditions" "SIOOBE_FORMATTER" "Ljava/util/function/BiFunction;" fm) (e11 : fm.isRef = true) (e12 : Sta Z Z.heap "java/lang/StringUTF16" "$assertionsDisabled" "Z" (.int (1 : Int32))) (e13 : Sta Z Z.heap "java/lang/StringUTF16" "HI_BYTE_SHIFT" "I" (.int (0 : Int32))) (e14 : Sta Z Z.heap "java/lang/StringUTF16" "LO_BYTE_SHIFT" "I" (.int (8 : Int32))) :
    Ctr l Z n0 y12_U1 jdk_42_method_56_code 2 (some .char) ws R12_U1 #[(.ref s), (.int (1 : Int32))] h0 (QI fun r h => (h0 = h) ∧ (r.toInt = x.toInt)) := by
  refine ctr_of pn12 hn0 (ef12_U1 s) fun G A0 => ?_
  have A1 := A0.aloadN (v := (.ref s)) (pc' := 1) d12_0 rfl rfl rfl
  obtain ⟨r3, _, ⟨rfl, q4⟩, A2⟩ := W.kI (A1.callV (a := s) (argsL := []) (rest := []) (C' := 0) (S' := 0) (pc' := 4) d12_1 e0 (hw _ (List.mem_of_getElem? (i := 55) rfl)) (hw _ (List.mem_of_getElem? (i := 56) rfl)) (fun hZ => notFace_of_selects (args := #[]) (mvT hZ (hw _ (List.mem_of_getElem? (i := 58) rfl)))) (hw _ (List.mem_of_getElem? (i := 58) rfl)) (hw _ (List.mem_of_getElem? (i := 57) rfl)) (hw _ (List.mem_of_getElem? (i := 15) rfl)) (hw _ (List.mem_of_getElem? (i := 59) rfl)) (rm13_U l Z a0 hw n0 [] (s) (_) h0 A1.size e2 e7 e8 (by assumption)) rfl rfl pd_14 rfl rfl (by decide) (by decide) (Nat.le_of_ble_eq_true rfl) (by decide) (by decide) rfl rfl rfl)
  subst q4
  have A7 := A2.ifYes (pc' := 16) d12_4 (teq (ieq (x := (0 : Int32)) (y := (0 : Int32)) rfl rfl (by decide : (0 : Int) = 0))).1 (by decide) (by decide)
  have A8 := A7.aloadN (v := (.ref s)) (pc' := 17) d12_16 rfl rfl rfl
  have A9 := A8.getF (pc' := 20) (host := "") d12_17 (Or.inl (hw _ (List.mem_of_getElem? (i := 40) rfl))) Via.refl e1 rfl
  have A10 := A9.iloadN (v := (1 : Int32)) (pc' := 21) d12_20 rfl rfl
  obtain ⟨r12, _, ⟨rfl, q13⟩, A11⟩ := W.kI (A10.callS (argsL := [(.ref b), (.int (1 : Int32))]) (rest := []) (C' := 0) (S' := 0) (pc' := 24) d12_21 (hw _ (List.mem_of_getElem? (i := 102) rfl)) (hw _ (List.mem_of_getElem? (i := 103) rfl)) (hw _ (List.mem_of_getElem? (i := 29) rfl)) (hw _ (List.mem_of_getElem? (i := 104) rfl)) (rm24_1 l Z a0 hw n0 [] (b) (f) (x) (_) h0 A10.size e3 (by assumption) (by assumption) (by assumption) e7 e12 e13 e14 e10 (by assumption)) rfl rfl pd_5 rfl rfl (by decide) (by decide) (Nat.le_of_ble_eq_true rfl) (by decide) (by decide) rfl rfl rfl)
  have tq := congrArg Int32.toInt q13
  refine A11.retN (t := .char) (z' := r12) d12_24 (by decide) (by decide) (by simp) (by exact own_nch _ (by omega) (by omega)) ⟨_, rfl, ⟨rfl, ?_⟩⟩
  omega
abbrev y10_U : MethodName := (⟨"com/example/hazama/hazama/model/Letters", "isLetter", "(Ljava/lang/String;)Z"⟩ : MethodName)
abbrev R10_U : Room := { frames := 5, cells := 0, slots := 0, locals := 66 }
set_option maxRecDepth 65536 in
set_option maxHeartbeats 4000000 in
theorem ef10_U (s : Addr)  (mid : MethodId) : entryFrame mid #[(.ref s)] 2 = mkF mid 0 #[.val (.ref s), .unset] [] := by first | (simp [entryFrame, mkF, argsToLocals, Value.category]; done) | rfl
set_option maxRecDepth 65536 in
set_option maxHeartbeats 40000000 in
theorem rm10_U (l : Launch) (Z : State) (a0 : Array Value) (hw : ∀ d ∈ tables_1, d.before a0 Z = true) (n0 : Nat) (ws : List Jvm.Cond) (s : Addr) (b : Addr) (ch : Int32) (cs : Int32) (fm : Value) (h0 : Heap) (hn0 : n0 ≤ h0.size) (e0 : Exa Z h0 s "java/lang/String") (e1 : Fld Z h0 s "java/lang/String" "value" "[B" (.ref b)) (e2 : Fld Z h0 s "java/lang/String" "coder" "B" (.int (1 : Int32))) (e3 : Ars Z h0 b .byte 4 (upd (upd (upd (upd (fun _ => (.int (0 : Int32))) 0 (.int (own_hi (97 : Int32)))) 1 (.int (own_lo (97 : Int32)))) 2 (.int (own_hi ch))) 3 (.int (own_lo ch)))) (e4 : 256 ≤ ch.toInt ∧ ch.toInt ≤ 65535) (e5 : Old Z n0 h0) (e6 : Sta Z Z.heap "java/lang/String" "COMPACT_STRINGS" "Z" (.int cs)) (e7 : cs.toInt ≠ 0) (e8 : Sta Z Z.heap "jdk/internal/util/Preconditions" "SIOOBE_FORMATTER" "Ljava/util/function/BiFunction;" fm) (e9 : fm.isRef = true) (e10 : Sta Z Z.heap "java/lang/StringUTF16" "$assertionsDisabled" "Z" (.int (1 : Int32))) (e11 : Sta Z Z.heap "java/lang/StringUTF16" "HI_BYTE_SHIFT" "I" (.int (0 : Int32))) (e12 : Sta Z Z.heap "java/lang/StringUTF16" "LO_BYTE_SHIFT" "I" (.int (8 : Int32))) :
    Ctr l Z n0 y10_U prog_32_method_5_code 2 (some .boolean) ws R10_U #[(.ref s)] h0 (QI fun r h => (h0 = h) ∧ ((r.toInt = 1 ∧ ((97 ≤ ch.toInt ∧ ch.toInt ≤ 122) ∨ (48 ≤ ch.toInt ∧ ch.toInt ≤ 57) ∨ ch.toInt = 95)) ∨ (r.toInt = 0 ∧ ¬ ((97 ≤ ch.toInt ∧ ch.toInt ≤ 122) ∨ (48 ≤ ch.toInt ∧ ch.toInt ≤ 57) ∨ ch.toInt = 95)))) := by
  refine ctr_of pn10 hn0 (ef10_U s) fun G A0 => ?_
  have l97 : (97 : Int32).toInt = 97 := rfl
  have A1 := A0.aloadN (v := (.ref s)) (pc' := 1) d10_0 rfl rfl rfl
  have A2 := A1.ifnullNo (pc' := 4) d10_1 rfl
  have A3 := A2.aloadN (v := (.ref s)) (pc' := 5) d10_4 rfl rfl rfl
  obtain ⟨r5, _, ⟨rfl, q6⟩, A4⟩ := W.kI (A3.callV (a := s) (argsL := []) (rest := []) (C' := 0) (S' := 0) (pc' := 8) d10_5 e0 (hw _ (List.mem_of_getElem? (i := 45) rfl)) (hw _ (List.mem_of_getElem? (i := 46) rfl)) (fun hZ => notFace_of_selects (args := #[]) (mvT hZ (hw _ (List.mem_of_getElem? (i := 48) rfl)))) (hw _ (List.mem_of_getElem? (i := 48) rfl)) (hw _ (List.mem_of_getElem? (i := 47) rfl)) (hw _ (List.mem_of_getElem? (i := 15) rfl)) (hw _ (List.mem_of_getElem? (i := 49) rfl)) (rm11_U l Z a0 hw n0 [] (s) (b) ((upd (upd (upd (upd (fun _ => (.int (0 : Int32))) 0 (.int (own_hi (97 : Int32)))) 1 (.int (own_lo (97 : Int32)))) 2 (.int (own_hi ch))) 3 (.int (own_lo ch)))) h0 A3.size e1 e3) rfl rfl pd_14 rfl rfl (by decide) (by decide) (Nat.le_of_ble_eq_true rfl) (by decide) (by decide) rfl rfl rfl)
  subst q6
  have A9 := A4.ifNo (pc' := 11) d10_8 (teq (ieq (x := (0 : Int32)) (y := (0 : Int32)) rfl rfl (by decide : (0 : Int) = 0))).2 rfl
  have A10 := A9.aloadN (v := (.ref s)) (pc' := 12) d10_11 rfl rfl rfl
  have A11 := A10.iconst (z := (0 : Int32)) (pc' := 13) d10_12 rfl rfl
  obtain ⟨r13, _, ⟨rfl, q14⟩, A12⟩ := W.kI (A11.callV (a := s) (argsL := [(.int (0 : Int32))]) (rest := []) (C' := 0) (S' := 0) (pc' := 16) d10_13 e0 (hw _ (List.mem_of_getElem? (i := 50) rfl)) (hw _ (List.mem_of_getElem? (i := 51) rfl)) (fun hZ => notFace_of_selects (args := #[]) (mvT hZ (hw _ (List.mem_of_getElem? (i := 53) rfl)))) (hw _ (List.mem_of_getElem? (i := 53) rfl)) (hw _ (List.mem_of_getElem? (i := 52) rfl)) (hw _ (List.mem_of_getElem? (i := 15) rfl)) (hw _ (List.mem_of_getElem? (i := 54) rfl)) (rm12_U0 l Z a0 hw n0 [] (s) (b) ((upd (upd (upd (upd (fun _ => (.int (0 : Int32))) 0 (.int (own_hi (97 : Int32)))) 1 (.int (own_lo (97 : Int32)))) 2 (.int (own_hi ch))) 3 (.int (own_lo ch)))) ((97 : Int32)) (_) (_) h0 A11.size e0 e1 e2 e3 (by first | assumption | rfl | decide) (by first | assumption | rfl | decide) (by first | assumption | rfl | decide) e5 e6 (by first | assumption | rfl | decide) e8 (by first | assumption | rfl | decide) e10 e11 e12) rfl rfl pd_15 rfl rfl (by decide) (by decide) (Nat.le_of_ble_eq_true rfl) (by decide) (by decide) rfl rfl rfl)
  obtain ⟨r17, _, ⟨rfl, q18⟩, A16⟩ := W.kI (A12.callS (argsL := [(.int r13)]) (rest := []) (C' := 0) (S' := 0) (pc' := 19) d10_16 (hw _ (List.mem_of_getElem? (i := 4) rfl)) (hw _ (List.mem_of_getElem? (i := 5) rfl)) (hw _ (List.mem_of_getElem? (i := 2) rfl)) (hw _ (List.mem_of_getElem? (i := 6) rfl)) (rm2 l Z a0 hw n0 [] (r13)  h0 A12.size ) rfl rfl pd_0 rfl rfl (by decide) (by decide) (Nat.le_of_ble_eq_true rfl) (by decide) (by decide) rfl rfl rfl)
  by_cases c20 : r17.toInt = 0
  · exfalso
    omega
  · have A22 := A16.ifYes (pc' := 24) d10_19 (feq (ine (x := r17) (y := (0 : Int32)) rfl rfl c20)).2 (by decide) (by decide)
    have A23 := A22.iconst (z := (1 : Int32)) (pc' := 25) d10_24 rfl rfl
    have A24 := A23.istoreN (Ls' := #[.val (.ref s), .val (.int (1 : Int32))]) (pc' := 26) d10_25 rfl rfl
    have A25 := A24.iloadN (v := (1 : Int32)) (pc' := 27) d10_26 rfl rfl
    have A26 := A25.aloadN (v := (.ref s)) (pc' := 28) d10_27 rfl rfl rfl
    obtain ⟨r28, _, ⟨rfl, q29⟩, A27⟩ := W.kI (A26.callV (a := s) (argsL := []) (rest := [(.int (1 : Int32))]) (C' := 0) (S' := 0) (pc' := 31) d10_28 e0 (hw _ (List.mem_of_getElem? (i := 72) rfl)) (hw _ (List.mem_of_getElem? (i := 73) rfl)) (fun hZ => notFace_of_selects (args := #[]) (mvT hZ (hw _ (List.mem_of_getElem? (i := 75) rfl)))) (hw _ (List.mem_of_getElem? (i := 75) rfl)) (hw _ (List.mem_of_getElem? (i := 74) rfl)) (hw _ (List.mem_of_getElem? (i := 15) rfl)) (hw _ (List.mem_of_getElem? (i := 76) rfl)) (rm17_U l Z a0 hw n0 [] (s) (b) ((upd (upd (upd (upd (fun _ => (.int (0 : Int32))) 0 (.int (own_hi (97 : Int32)))) 1 (.int (own_lo (97 : Int32)))) 2 (.int (own_hi ch))) 3 (.int (own_lo ch)))) (_) h0 A26.size e0 e1 e3 e2 e5 e6 (by assumption)) rfl rfl pd_16 rfl rfl (by decide) (by decide) (Nat.le_of_ble_eq_true rfl) (by decide) (by decide) rfl rfl rfl)
    subst q29
    have A32 := A27.icmpNo (pc' := 34) d10_31 (tlt (ilt (x := (1 : Int32)) (y := (2 : Int32)) rfl rfl (by decide : (1 : Int) < 2))).2.1 rfl
    have A33 := A32.aloadN (v := (.ref s)) (pc' := 35) d10_34 rfl rfl rfl
    have A34 := A33.iloadN (v := (1 : Int32)) (pc' := 36) d10_35 rfl rfl
    obtain ⟨r36, _, ⟨rfl, q37⟩, A35⟩ := W.kI (A34.callV (a := s) (argsL := [(.int (1 : Int32))]) (rest := []) (C' := 0) (S' := 0) (pc' := 39) d10_36 e0 (hw _ (List.mem_of_getElem? (i := 50) rfl)) (hw _ (List.mem_of_getElem? (i := 51) rfl)) (fun hZ => notFace_of_selects (args := #[]) (mvT hZ (hw _ (List.mem_of_getElem? (i := 53) rfl)))) (hw _ (List.mem_of_getElem? (i := 53) rfl)) (hw _ (List.mem_of_getElem? (i := 52) rfl)) (hw _ (List.mem_of_getElem? (i := 15) rfl)) (hw _ (List.mem_of_getElem? (i := 54) rfl)) (rm12_U1 l Z a0 hw n0 [] (s) (b) ((upd (upd (upd (upd (fun _ => (.int (0 : Int32))) 0 (.int (own_hi (97 : Int32)))) 1 (.int (own_lo (97 : Int32)))) 2 (.int (own_hi ch))) 3 (.int (own_lo ch)))) (ch) (_) (_) h0 A34.size e0 e1 e2 e3 (by first | assumption | exact congrArg Value.int (own_bb ch) | rfl | omega) (by first | assumption | exact congrArg Value.int (own_bb ch) | rfl | omega) (by first | assumption | exact congrArg Value.int (own_bb ch) | rfl | omega) e5 e6 (by first | assumption | exact congrArg Value.int (own_bb ch) | rfl | omega) e8 (by first | assumption | exact congrArg Value.int (own_bb ch) | rfl | omega) e10 e11 e12) rfl rfl pd_15 rfl rfl (by decide) (by decide) (Nat.le_of_ble_eq_true rfl) (by decide) (by decide) rfl rfl rfl)
    obtain ⟨r40, _, ⟨rfl, q41⟩, A39⟩ := W.kI (A35.callS (argsL := [(.int r36)]) (rest := []) (C' := 0) (S' := 0) (pc' := 42) d10_39 (hw _ (List.mem_of_getElem? (i := 82) rfl)) (hw _ (List.mem_of_getElem? (i := 1) rfl)) (hw _ (List.mem_of_getElem? (i := 2) rfl)) (hw _ (List.mem_of_getElem? (i := 3) rfl)) (rm1 l Z a0 hw n0 [] (r36)  h0 A35.size ) rfl rfl pd_0 rfl rfl (by decide) (by decide) (Nat.le_of_ble_eq_true rfl) (by decide) (by decide) rfl rfl rfl)
    by_cases c43 : r40.toInt = 0
    · have A44 := A39.ifNo (pc' := 45) d10_42 (teq (ieq (x := r40) (y := (0 : Int32)) rfl rfl c43)).2 rfl
      have A45 := A44.iconst (z := (0 : Int32)) (pc' := 46) d10_45 rfl rfl
      refine A45.retN (t := .boolean) (z' := (0 : Int32)) d10_46 (by decide) (by decide) (by simp) rfl ⟨_, rfl, ⟨rfl, ?_⟩⟩
      have elit : (0 : Int32).toInt = 0 := rfl
      omega
    · have A46 := A39.ifYes (pc' := 47) d10_42 (feq (ine (x := r40) (y := (0 : Int32)) rfl rfl c43)).2 (by decide) (by decide)
      have A47 := A46.iinc (v := (1 : Int32)) (z := (2 : Int32)) (Ls' := #[.val (.ref s), .val (.int (2 : Int32))]) (pc' := 50) d10_47 rfl (by decide) rfl rfl
      have A48 := A47.goto (pc' := 26) d10_50 (by decide) (by decide)
      have A49 := A48.iloadN (v := (2 : Int32)) (pc' := 27) d10_26 rfl rfl
      have A50 := A49.aloadN (v := (.ref s)) (pc' := 28) d10_27 rfl rfl rfl
      obtain ⟨r52, _, ⟨rfl, q53⟩, A51⟩ := W.kI (A50.callV (a := s) (argsL := []) (rest := [(.int (2 : Int32))]) (C' := 0) (S' := 0) (pc' := 31) d10_28 e0 (hw _ (List.mem_of_getElem? (i := 72) rfl)) (hw _ (List.mem_of_getElem? (i := 73) rfl)) (fun hZ => notFace_of_selects (args := #[]) (mvT hZ (hw _ (List.mem_of_getElem? (i := 75) rfl)))) (hw _ (List.mem_of_getElem? (i := 75) rfl)) (hw _ (List.mem_of_getElem? (i := 74) rfl)) (hw _ (List.mem_of_getElem? (i := 15) rfl)) (hw _ (List.mem_of_getElem? (i := 76) rfl)) (rm17_U l Z a0 hw n0 [] (s) (b) ((upd (upd (upd (upd (fun _ => (.int (0 : Int32))) 0 (.int (own_hi (97 : Int32)))) 1 (.int (own_lo (97 : Int32)))) 2 (.int (own_hi ch))) 3 (.int (own_lo ch)))) (_) h0 A50.size e0 e1 e3 e2 e5 e6 (by assumption)) rfl rfl pd_16 rfl rfl (by decide) (by decide) (Nat.le_of_ble_eq_true rfl) (by decide) (by decide) rfl rfl rfl)
      subst q53
      have A56 := A51.icmpYes (pc' := 53) d10_31 (flt (inlt (x := (2 : Int32)) (y := (2 : Int32)) rfl rfl (by decide : ¬ ((2 : Int) < 2)))).2.1 (by decide) (by decide)
      have A57 := A56.iconst (z := (1 : Int32)) (pc' := 54) d10_53 rfl rfl
      refine A57.retN (t := .boolean) (z' := (1 : Int32)) d10_54 (by decide) (by decide) (by simp) rfl ⟨_, rfl, ⟨rfl, ?_⟩⟩
      have elit : (1 : Int32).toInt = 1 := rfl
      omega
theorem pn0 : plainFor x = true := plainFor_of_name (by first | (simp [plainName, overriddenIn, x]; done) | decide +kernel)
abbrev y0 : MethodName := x
abbrev R0 : Room := room_1
set_option maxRecDepth 65536 in
set_option maxHeartbeats 4000000 in
theorem ef0 (x0 : Int32) (x1 : Int32)  (mid : MethodId) : entryFrame mid #[(.int x0), (.int x1)] maxLocals = mkF mid 0 #[.val (.int x0), .val (.int x1), .unset, .unset, .unset, .unset, .unset, .unset, .unset, .unset] [] := by first | (simp [entryFrame, mkF, argsToLocals, Value.category, maxLocals]; done) | rfl
set_option maxRecDepth 65536 in
set_option maxHeartbeats 40000000 in
theorem rm0 (l : Launch) (Z : State) (a0 : Array Value) (hw : ∀ d ∈ tables_1, d.before a0 Z = true) (n0 : Nat) (ws : List Jvm.Cond) (x0 : Int32) (x1 : Int32) (cs : Int32) (fm : Value) (h0 : Heap) (hn0 : n0 ≤ h0.size) (e0 : Old Z n0 h0) (e1 : Sta Z Z.heap "java/lang/String" "COMPACT_STRINGS" "Z" (.int cs)) (e2 : cs.toInt ≠ 0) (e3 : Sta Z Z.heap "jdk/internal/util/Preconditions" "SIOOBE_FORMATTER" "Ljava/util/function/BiFunction;" fm) (e4 : fm.isRef = true) (e5 : Sta Z Z.heap "java/lang/StringUTF16" "$assertionsDisabled" "Z" (.int (1 : Int32))) (e6 : Sta Z Z.heap "java/lang/StringUTF16" "HI_BYTE_SHIFT" "I" (.int (0 : Int32))) (e7 : Sta Z Z.heap "java/lang/StringUTF16" "LO_BYTE_SHIFT" "I" (.int (8 : Int32))) :
    Ctr l Z n0 y0 code maxLocals ret ws R0 #[(.int x0), (.int x1)] h0 (QI fun r h => (True) ∧ (r = 1)) := by
  refine ctr_of pn0 hn0 (ef0 x0 x1) fun G A0 => ?_
  have A1 := A0.iloadN (v := x1) (pc' := 1) at_0 rfl rfl
  have A2 := A1.iconst (z := (1 : Int32)) (pc' := 2) at_1 rfl rfl
  have A3 := A2.iand (pc' := 3) at_2 rfl
  have join5 : ∀ (v14 : Int32) (q15 : True), W l Z n0 y0 code maxLocals ret R0 G h0 14 #[.val (.int x0), .val (.int x1), .unset, .unset, .unset, .unset, .unset, .unset, .unset, .unset] [(.int v14)] 0 0 → Gl R0 n0 G (QI fun r h => (True) ∧ (r = 1)) := by
    intro v14   q15  A13
    have A16 := A13.istoreN (Ls' := #[.val (.int x0), .val (.int x1), .val (.int v14), .unset, .unset, .unset, .unset, .unset, .unset, .unset]) (pc' := 15) at_14 rfl rfl
    obtain ⟨cc, e_cc⟩ : ∃ z : Int32, z = v14 := ⟨_, rfl⟩
    have A17 := A16.cast (Ls' := #[.val (.int x0), .val (.int x1), .val (.int cc), .unset, .unset, .unset, .unset, .unset, .unset, .unset]) rfl (by rw [e_cc]) rfl
    have A18 := A17.iloadN (v := cc) (pc' := 16) at_15 rfl rfl
    obtain ⟨r20, _, ⟨rfl, q21⟩, A19⟩ := W.kI (A18.callS (argsL := [(.int cc)]) (rest := []) (C' := 0) (S' := 0) (pc' := 19) at_16 (hw _ (List.mem_of_getElem? (i := 0) rfl)) (hw _ (List.mem_of_getElem? (i := 1) rfl)) (hw _ (List.mem_of_getElem? (i := 2) rfl)) (hw _ (List.mem_of_getElem? (i := 3) rfl)) (rm1 l Z a0 hw n0 [] (cc)  h0 A18.size ) rfl rfl pd_0 rfl rfl (by decide) (by decide) (Nat.le_of_ble_eq_true rfl) (by decide) (by decide) rfl rfl rfl)
    have A23 := A19.istoreN (Ls' := #[.val (.int x0), .val (.int x1), .val (.int cc), .val (.int r20), .unset, .unset, .unset, .unset, .unset, .unset]) (pc' := 20) at_19 rfl rfl
    have A24 := A23.iloadN (v := r20) (pc' := 21) at_20 rfl rfl
    have A25 := A24.iloadN (v := cc) (pc' := 22) at_21 rfl rfl
    obtain ⟨r27, _, ⟨rfl, q28⟩, A26⟩ := W.kI (A25.callS (argsL := [(.int cc)]) (rest := [(.int r20)]) (C' := 0) (S' := 0) (pc' := 25) at_22 (hw _ (List.mem_of_getElem? (i := 7) rfl)) (hw _ (List.mem_of_getElem? (i := 8) rfl)) (hw _ (List.mem_of_getElem? (i := 9) rfl)) (hw _ (List.mem_of_getElem? (i := 10) rfl)) (rm3 l Z a0 hw n0 [] (cc)  h0 A25.size ) rfl rfl pd_0 rfl rfl (by decide) (by decide) (Nat.le_of_ble_eq_true rfl) (by decide) (by decide) rfl rfl rfl)
    have join31 : ∀ (v38 : Int32) (q39 : ((r20.toInt = r27.toInt) ∧ v38.toInt = 1) ∨ ((¬ (r20.toInt = r27.toInt)) ∧ v38.toInt = 0)), W l Z n0 y0 code maxLocals ret R0 G h0 33 #[.val (.int x0), .val (.int x1), .val (.int cc), .val (.int r20), .unset, .unset, .unset, .unset, .unset, .unset] [(.int v38)] 0 0 → Gl R0 n0 G (QI fun r h => (True) ∧ (r = 1)) := by
      intro v38   q39  A37
      have A40 := A37.istore (Ls' := #[.val (.int x0), .val (.int x1), .val (.int cc), .val (.int r20), .val (.int v38), .unset, .unset, .unset, .unset, .unset]) (pc' := 35) at_33 rfl rfl
      have A41 := A40.iloadN (v := cc) (pc' := 36) at_35 rfl rfl
      obtain ⟨r43, _, ⟨rfl, q44⟩, A42⟩ := W.kI (A41.callS (argsL := [(.int cc)]) (rest := []) (C' := 0) (S' := 0) (pc' := 39) at_36 (hw _ (List.mem_of_getElem? (i := 11) rfl)) (hw _ (List.mem_of_getElem? (i := 5) rfl)) (hw _ (List.mem_of_getElem? (i := 2) rfl)) (hw _ (List.mem_of_getElem? (i := 6) rfl)) (rm2 l Z a0 hw n0 [] (cc)  h0 A41.size ) rfl rfl pd_0 rfl rfl (by decide) (by decide) (Nat.le_of_ble_eq_true rfl) (by decide) (by decide) rfl rfl rfl)
      have join47 : ∀ (v60 : Int32) (q61 : ((r43.toInt = 0) ∧ v60.toInt = 1) ∨ ((¬ (r43.toInt = 0)) ∧ (r20.toInt = 0) ∧ v60.toInt = 0) ∨ ((¬ (r43.toInt = 0)) ∧ (¬ (r20.toInt = 0)) ∧ v60.toInt = 1)), W l Z n0 y0 code maxLocals ret R0 G h0 51 #[.val (.int x0), .val (.int x1), .val (.int cc), .val (.int r20), .val (.int v38), .unset, .unset, .unset, .unset, .unset] [(.int v60)] 0 0 → Gl R0 n0 G (QI fun r h => (True) ∧ (r = 1)) := by
        intro v60   q61  A59
        have A62 := A59.istore (Ls' := #[.val (.int x0), .val (.int x1), .val (.int cc), .val (.int r20), .val (.int v38), .val (.int v60), .unset, .unset, .unset, .unset]) (pc' := 53) at_51 rfl rfl
        have A63 := A62.iloadN (v := cc) (pc' := 54) at_53 rfl rfl
        have A64 := A63.i2c (pc' := 55) at_54 rfl
        have A65 := A64.istore (Ls' := #[.val (.int x0), .val (.int x1), .val (.int cc), .val (.int r20), .val (.int v38), .val (.int v60), .val (.int cc.toUInt32.toUInt16.toUInt32.toInt32), .unset, .unset, .unset]) (pc' := 57) at_55 rfl rfl
        obtain ⟨ch, e_ch⟩ : ∃ z : Int32, z = cc.toUInt32.toUInt16.toUInt32.toInt32 := ⟨_, rfl⟩
        have A66 := A65.cast (Ls' := #[.val (.int x0), .val (.int x1), .val (.int cc), .val (.int r20), .val (.int v38), .val (.int v60), .val (.int ch), .unset, .unset, .unset]) rfl (by rw [e_ch]) rfl
        have kc := c_i2c cc
        rw [← e_ch] at kc
        have A67 := A66.iconst (z := (2 : Int32)) (pc' := 58) at_57 rfl rfl
        obtain ⟨h68, b69, eb70, g71, E72, X73, XE75, A74⟩ := A67.newP (z := (2 : Int32)) (N := 2) (cap := 2) (C' := 1) (S' := 2) (pc' := 60) at_58 (hw _ (List.mem_of_getElem? (i := 12) rfl)) rfl (by decide) (by decide) (by decide) (by decide) rfl rfl rfl rfl
        change Exa Z h68 b69 "[C" at XE75
        change Ars Z h68 b69 .char 2 (fun _ => (.int (0 : Int32))) at X73
        have A76 := A74.astore (Ls' := #[.val (.int x0), .val (.int x1), .val (.int cc), .val (.int r20), .val (.int v38), .val (.int v60), .val (.int ch), .val (.ref b69), .unset, .unset]) (pc' := 62) at_60 rfl rfl rfl
        have A77 := A76.aload (v := (.ref b69)) (pc' := 64) at_62 rfl rfl rfl
        have A78 := A77.iconst (z := (0 : Int32)) (pc' := 65) at_64 rfl rfl
        have A79 := A78.bipush (z := (97 : Int32)) (pc' := 67) at_65 rfl rfl
        obtain ⟨h80, w81, X82, A83⟩ := A79.castore (i := 0) (pc' := 68) at_67 X73 rfl (by decide) g71 rfl
        have A84 := A83.aload (v := (.ref b69)) (pc' := 70) at_68 rfl rfl rfl
        have A85 := A84.iconst (z := (1 : Int32)) (pc' := 71) at_70 rfl rfl
        have A86 := A85.iload (v := ch) (pc' := 73) at_71 rfl rfl
        obtain ⟨h87, w88, X89, A90⟩ := A86.castore (i := 1) (pc' := 74) at_73 X82 rfl (by decide) g71 rfl
        by_cases hc : ch.toInt ≤ 255
        · obtain ⟨h91, b92, eb93, g94, E95, X96, D97, A98⟩ := A90.newO (C' := 2) (S' := 6) (pc' := 77) at_74 (hw _ (List.mem_of_getElem? (i := 13) rfl)) (hw _ (List.mem_of_getElem? (i := 14) rfl)) (hw _ (List.mem_of_getElem? (i := 15) rfl)) (by decide) (by decide) rfl rfl rfl
          have ne99 : b69 ≠ b92 := Nat.ne_of_lt (Nat.lt_of_lt_of_le X89.lt (Nat.le_of_eq eb93.symm))
          have f100 : Fld Z h91 b92 "java/lang/String" "coder" "B" (.int (0 : Int32)) := D97 (Or.inr (hw _ (List.mem_of_getElem? (i := 39) rfl))) (ty := .byte) (by decide)
          have f101 : Fld Z h91 b92 "java/lang/String" "value" "[B" .null := D97 (Or.inr (hw _ (List.mem_of_getElem? (i := 41) rfl))) (ty := (.array .byte)) (by decide)
          have A102 := A98.dup (pc' := 78) at_77 rfl rfl
          have A103 := A102.aload (v := (.ref b69)) (pc' := 80) at_78 rfl rfl rfl
          have f104 := (X89.ext E95)
          have f105 := ((((e0.ext E72).wr w81 g71).wr w88 g71).ext E95)
          obtain ⟨h109, ⟨b111, K110, g112, z113, f114, f115, f116, q108⟩, A106⟩ := W.kV (A103.callI (a := b92) (argsL := [(.ref b69)]) (rest := [(.ref b92)]) (C' := 3) (S' := 8) (pc' := 83) at_80 rfl (hw _ (List.mem_of_getElem? (i := 16) rfl)) (hw _ (List.mem_of_getElem? (i := 17) rfl)) (hw _ (List.mem_of_getElem? (i := 15) rfl)) (hw _ (List.mem_of_getElem? (i := 18) rfl)) (rm4_L l Z a0 hw n0 [] (b92) (b69) ((upd (upd (fun _ => (.int (0 : Int32))) 0 (.int (nar .char (97 : Int32)))) 1 (.int (nar .char ch)))) (ch) (_) h91 A103.size f104 (by first | assumption | omega | rfl | exact congrArg Value.int (own_nch ch (by omega) (by omega))) (by first | assumption | omega | rfl | exact congrArg Value.int (own_nch ch (by omega) (by omega))) (by first | assumption | omega | rfl | exact congrArg Value.int (own_nch ch (by omega) (by omega))) X96 g94 f101 f100 (Ne.symm ne99) f105 e1 (by first | assumption | omega | rfl | exact congrArg Value.int (own_nch ch (by omega) (by omega)))) rfl rfl pd_17 rfl rfl (by decide) (by decide) (Nat.le_of_ble_eq_true rfl) (by decide) (by decide) rfl rfl rfl)
          have ne117 : b69 ≠ b111 := Nat.ne_of_lt (Nat.lt_of_lt_of_le f104.lt z113)
          have ne118 : b92 ≠ b111 := Nat.ne_of_lt (Nat.lt_of_lt_of_le X96.lt z113)
          have A119 := A106.astore (Ls' := #[.val (.int x0), .val (.int x1), .val (.int cc), .val (.int r20), .val (.int v38), .val (.int v60), .val (.int ch), .val (.ref b69), .val (.ref b92), .unset]) (pc' := 85) at_83 rfl rfl rfl
          have A120 := A119.aload (v := (.ref b92)) (pc' := 87) at_85 rfl rfl rfl
          have f121 := (X96.keep K110)
          have f122 := (f105.keep K110 (allS g94 all0))
          obtain ⟨r124, _, ⟨rfl, q125⟩, A123⟩ := W.kI (A120.callS (argsL := [(.ref b92)]) (rest := []) (C' := 3) (S' := 8) (pc' := 90) at_87 (hw _ (List.mem_of_getElem? (i := 42) rfl)) (hw _ (List.mem_of_getElem? (i := 43) rfl)) (hw _ (List.mem_of_getElem? (i := 2) rfl)) (hw _ (List.mem_of_getElem? (i := 44) rfl)) (rm10_L l Z a0 hw n0 [] (b92) (b111) (ch) (_) (_) h109 A120.size f121 f115 f114 f116 (by first | assumption | omega) f122 e1 (by first | assumption | omega) e3 (by first | assumption | omega)) rfl rfl pd_18 rfl rfl (by decide) (by decide) (Nat.le_of_ble_eq_true rfl) (by decide) (by decide) rfl rfl rfl)
          have A127 := A123.iload (v := ch) (pc' := 92) at_90 rfl rfl
          obtain ⟨r129, _, ⟨rfl, q130⟩, A128⟩ := W.kI (A127.callS (argsL := [(.int ch)]) (rest := [(.int r124)]) (C' := 3) (S' := 8) (pc' := 95) at_92 (hw _ (List.mem_of_getElem? (i := 7) rfl)) (hw _ (List.mem_of_getElem? (i := 8) rfl)) (hw _ (List.mem_of_getElem? (i := 9) rfl)) (hw _ (List.mem_of_getElem? (i := 10) rfl)) (rm3 l Z a0 hw n0 [] (ch)  h109 A127.size ) rfl rfl pd_0 rfl rfl (by decide) (by decide) (Nat.le_of_ble_eq_true rfl) (by decide) (by decide) rfl rfl rfl)
          have join133 : ∀ (v140 : Int32) (q141 : ((r124.toInt = r129.toInt) ∧ v140.toInt = 1) ∨ ((¬ (r124.toInt = r129.toInt)) ∧ v140.toInt = 0)), W l Z n0 y0 code maxLocals ret R0 G h109 103 #[.val (.int x0), .val (.int x1), .val (.int cc), .val (.int r20), .val (.int v38), .val (.int v60), .val (.int ch), .val (.ref b69), .val (.ref b92), .unset] [(.int v140)] 3 8 → Gl R0 n0 G (QI fun r h => (True) ∧ (r = 1)) := by
            intro v140   q141  A139
            have A142 := A139.istore (Ls' := #[.val (.int x0), .val (.int x1), .val (.int cc), .val (.int r20), .val (.int v38), .val (.int v60), .val (.int ch), .val (.ref b69), .val (.ref b92), .val (.int v140)]) (pc' := 105) at_103 rfl rfl
            have A143 := A142.iload (v := v38) (pc' := 107) at_105 rfl rfl
            by_cases c144 : v38.toInt = 0
            · have A145 := A143.ifYes (pc' := 124) at_107 (teq (ieq (x := v38) (y := (0 : Int32)) rfl rfl c144)).1 (by decide) (by decide)
              have A146 := A145.iconst (z := (0 : Int32)) (pc' := 125) at_124 rfl rfl
              refine A146.retN (t := .boolean) (z' := (0 : Int32)) at_125 (by decide) (by decide) (by simp) rfl ⟨_, rfl, ⟨trivial, ?_⟩⟩
              have elit : (0 : Int32).toInt = 0 := rfl
              exfalso
              omega
            · have A147 := A143.ifNo (pc' := 110) at_107 (feq (ine (x := v38) (y := (0 : Int32)) rfl rfl c144)).1 rfl
              have A148 := A147.iload (v := v60) (pc' := 112) at_110 rfl rfl
              by_cases c149 : v60.toInt = 0
              · have A150 := A148.ifYes (pc' := 124) at_112 (teq (ieq (x := v60) (y := (0 : Int32)) rfl rfl c149)).1 (by decide) (by decide)
                have A151 := A150.iconst (z := (0 : Int32)) (pc' := 125) at_124 rfl rfl
                refine A151.retN (t := .boolean) (z' := (0 : Int32)) at_125 (by decide) (by decide) (by simp) rfl ⟨_, rfl, ⟨trivial, ?_⟩⟩
                have elit : (0 : Int32).toInt = 0 := rfl
                exfalso
                omega
              · have A152 := A148.ifNo (pc' := 115) at_112 (feq (ine (x := v60) (y := (0 : Int32)) rfl rfl c149)).1 rfl
                have A153 := A152.iload (v := v140) (pc' := 117) at_115 rfl rfl
                by_cases c154 : v140.toInt = 0
                · have A155 := A153.ifYes (pc' := 124) at_117 (teq (ieq (x := v140) (y := (0 : Int32)) rfl rfl c154)).1 (by decide) (by decide)
                  have A156 := A155.iconst (z := (0 : Int32)) (pc' := 125) at_124 rfl rfl
                  refine A156.retN (t := .boolean) (z' := (0 : Int32)) at_125 (by decide) (by decide) (by simp) rfl ⟨_, rfl, ⟨trivial, ?_⟩⟩
                  have elit : (0 : Int32).toInt = 0 := rfl
                  exfalso
                  omega
                · have A157 := A153.ifNo (pc' := 120) at_117 (feq (ine (x := v140) (y := (0 : Int32)) rfl rfl c154)).1 rfl
                  have A158 := A157.iconst (z := (1 : Int32)) (pc' := 121) at_120 rfl rfl
                  have A159 := A158.goto (pc' := 125) at_121 (by decide) (by decide)
                  refine A159.retN (t := .boolean) (z' := (1 : Int32)) at_125 (by decide) (by decide) (by simp) rfl ⟨_, rfl, ⟨trivial, ?_⟩⟩
                  have elit : (1 : Int32).toInt = 1 := rfl
                  rfl
          by_cases c132 : r124.toInt = r129.toInt
          · have A134 := A128.icmpNo (pc' := 98) at_95 (teq (ieq (x := r124) (y := r129) rfl rfl c132)).2 rfl
            have A135 := A134.iconst (z := (1 : Int32)) (pc' := 99) at_98 rfl rfl
            have A136 := A135.goto (pc' := 103) at_99 (by decide) (by decide)
            exact join133 ((1 : Int32))   (Or.inl ⟨c132, rfl⟩)  A136
          · have A137 := A128.icmpYes (pc' := 102) at_95 (feq (ine (x := r124) (y := r129) rfl rfl c132)).2 (by decide) (by decide)
            have A138 := A137.iconst (z := (0 : Int32)) (pc' := 103) at_102 rfl rfl
            exact join133 ((0 : Int32))   (Or.inr ⟨c132, rfl⟩)  A138
        · obtain ⟨h160, b161, eb162, g163, E164, X165, D166, A167⟩ := A90.newO (C' := 2) (S' := 6) (pc' := 77) at_74 (hw _ (List.mem_of_getElem? (i := 13) rfl)) (hw _ (List.mem_of_getElem? (i := 14) rfl)) (hw _ (List.mem_of_getElem? (i := 15) rfl)) (by decide) (by decide) rfl rfl rfl
          have ne168 : b69 ≠ b161 := Nat.ne_of_lt (Nat.lt_of_lt_of_le X89.lt (Nat.le_of_eq eb162.symm))
          have f169 : Fld Z h160 b161 "java/lang/String" "coder" "B" (.int (0 : Int32)) := D166 (Or.inr (hw _ (List.mem_of_getElem? (i := 39) rfl))) (ty := .byte) (by decide)
          have f170 : Fld Z h160 b161 "java/lang/String" "value" "[B" .null := D166 (Or.inr (hw _ (List.mem_of_getElem? (i := 41) rfl))) (ty := (.array .byte)) (by decide)
          have A171 := A167.dup (pc' := 78) at_77 rfl rfl
          have A172 := A171.aload (v := (.ref b69)) (pc' := 80) at_78 rfl rfl rfl
          have f173 := (X89.ext E164)
          have f174 := ((((e0.ext E72).wr w81 g71).wr w88 g71).ext E164)
          obtain ⟨h178, ⟨b180, K179, g181, z182, f183, f184, f185, q177⟩, A175⟩ := W.kV (A172.callI (a := b161) (argsL := [(.ref b69)]) (rest := [(.ref b161)]) (C' := 4) (S' := 12) (pc' := 83) at_80 rfl (hw _ (List.mem_of_getElem? (i := 16) rfl)) (hw _ (List.mem_of_getElem? (i := 17) rfl)) (hw _ (List.mem_of_getElem? (i := 15) rfl)) (hw _ (List.mem_of_getElem? (i := 18) rfl)) (rm4_U l Z a0 hw n0 [] (b161) (b69) ((upd (upd (fun _ => (.int (0 : Int32))) 0 (.int (nar .char (97 : Int32)))) 1 (.int (nar .char ch)))) (ch) (_) h160 A172.size f173 (by first | assumption | omega | rfl | exact congrArg Value.int (own_nch ch (by omega) (by omega))) (by first | assumption | omega | rfl | exact congrArg Value.int (own_nch ch (by omega) (by omega))) (by first | assumption | omega | rfl | exact congrArg Value.int (own_nch ch (by omega) (by omega))) X165 g163 f170 f169 (Ne.symm ne168) f174 e1 (by first | assumption | omega | rfl | exact congrArg Value.int (own_nch ch (by omega) (by omega))) e5 e6 e7) rfl rfl pd_17 rfl rfl (by decide) (by decide) (Nat.le_of_ble_eq_true rfl) (by decide) (by decide) rfl rfl rfl)
          have ne186 : b69 ≠ b180 := Nat.ne_of_lt (Nat.lt_of_lt_of_le f173.lt z182)
          have ne187 : b161 ≠ b180 := Nat.ne_of_lt (Nat.lt_of_lt_of_le X165.lt z182)
          have A188 := A175.astore (Ls' := #[.val (.int x0), .val (.int x1), .val (.int cc), .val (.int r20), .val (.int v38), .val (.int v60), .val (.int ch), .val (.ref b69), .val (.ref b161), .unset]) (pc' := 85) at_83 rfl rfl rfl
          have A189 := A188.aload (v := (.ref b161)) (pc' := 87) at_85 rfl rfl rfl
          have f190 := (X165.keep K179)
          have f191 := (f174.keep K179 (allS g163 all0))
          obtain ⟨r193, _, ⟨rfl, q194⟩, A192⟩ := W.kI (A189.callS (argsL := [(.ref b161)]) (rest := []) (C' := 4) (S' := 12) (pc' := 90) at_87 (hw _ (List.mem_of_getElem? (i := 42) rfl)) (hw _ (List.mem_of_getElem? (i := 43) rfl)) (hw _ (List.mem_of_getElem? (i := 2) rfl)) (hw _ (List.mem_of_getElem? (i := 44) rfl)) (rm10_U l Z a0 hw n0 [] (b161) (b180) (ch) (_) (_) h178 A189.size f190 f184 f183 f185 (by first | assumption | omega) f191 e1 (by first | assumption | omega) e3 (by first | assumption | omega) e5 e6 e7) rfl rfl pd_18 rfl rfl (by decide) (by decide) (Nat.le_of_ble_eq_true rfl) (by decide) (by decide) rfl rfl rfl)
          have A196 := A192.iload (v := ch) (pc' := 92) at_90 rfl rfl
          obtain ⟨r198, _, ⟨rfl, q199⟩, A197⟩ := W.kI (A196.callS (argsL := [(.int ch)]) (rest := [(.int r193)]) (C' := 4) (S' := 12) (pc' := 95) at_92 (hw _ (List.mem_of_getElem? (i := 7) rfl)) (hw _ (List.mem_of_getElem? (i := 8) rfl)) (hw _ (List.mem_of_getElem? (i := 9) rfl)) (hw _ (List.mem_of_getElem? (i := 10) rfl)) (rm3 l Z a0 hw n0 [] (ch)  h178 A196.size ) rfl rfl pd_0 rfl rfl (by decide) (by decide) (Nat.le_of_ble_eq_true rfl) (by decide) (by decide) rfl rfl rfl)
          have join202 : ∀ (v209 : Int32) (q210 : ((r193.toInt = r198.toInt) ∧ v209.toInt = 1) ∨ ((¬ (r193.toInt = r198.toInt)) ∧ v209.toInt = 0)), W l Z n0 y0 code maxLocals ret R0 G h178 103 #[.val (.int x0), .val (.int x1), .val (.int cc), .val (.int r20), .val (.int v38), .val (.int v60), .val (.int ch), .val (.ref b69), .val (.ref b161), .unset] [(.int v209)] 4 12 → Gl R0 n0 G (QI fun r h => (True) ∧ (r = 1)) := by
            intro v209   q210  A208
            have A211 := A208.istore (Ls' := #[.val (.int x0), .val (.int x1), .val (.int cc), .val (.int r20), .val (.int v38), .val (.int v60), .val (.int ch), .val (.ref b69), .val (.ref b161), .val (.int v209)]) (pc' := 105) at_103 rfl rfl
            have A212 := A211.iload (v := v38) (pc' := 107) at_105 rfl rfl
            by_cases c213 : v38.toInt = 0
            · have A214 := A212.ifYes (pc' := 124) at_107 (teq (ieq (x := v38) (y := (0 : Int32)) rfl rfl c213)).1 (by decide) (by decide)
              have A215 := A214.iconst (z := (0 : Int32)) (pc' := 125) at_124 rfl rfl
              refine A215.retN (t := .boolean) (z' := (0 : Int32)) at_125 (by decide) (by decide) (by simp) rfl ⟨_, rfl, ⟨trivial, ?_⟩⟩
              have elit : (0 : Int32).toInt = 0 := rfl
              exfalso
              omega
            · have A216 := A212.ifNo (pc' := 110) at_107 (feq (ine (x := v38) (y := (0 : Int32)) rfl rfl c213)).1 rfl
              have A217 := A216.iload (v := v60) (pc' := 112) at_110 rfl rfl
              by_cases c218 : v60.toInt = 0
              · have A219 := A217.ifYes (pc' := 124) at_112 (teq (ieq (x := v60) (y := (0 : Int32)) rfl rfl c218)).1 (by decide) (by decide)
                have A220 := A219.iconst (z := (0 : Int32)) (pc' := 125) at_124 rfl rfl
                refine A220.retN (t := .boolean) (z' := (0 : Int32)) at_125 (by decide) (by decide) (by simp) rfl ⟨_, rfl, ⟨trivial, ?_⟩⟩
                have elit : (0 : Int32).toInt = 0 := rfl
                exfalso
                omega
              · have A221 := A217.ifNo (pc' := 115) at_112 (feq (ine (x := v60) (y := (0 : Int32)) rfl rfl c218)).1 rfl
                have A222 := A221.iload (v := v209) (pc' := 117) at_115 rfl rfl
                by_cases c223 : v209.toInt = 0
                · have A224 := A222.ifYes (pc' := 124) at_117 (teq (ieq (x := v209) (y := (0 : Int32)) rfl rfl c223)).1 (by decide) (by decide)
                  have A225 := A224.iconst (z := (0 : Int32)) (pc' := 125) at_124 rfl rfl
                  refine A225.retN (t := .boolean) (z' := (0 : Int32)) at_125 (by decide) (by decide) (by simp) rfl ⟨_, rfl, ⟨trivial, ?_⟩⟩
                  have elit : (0 : Int32).toInt = 0 := rfl
                  exfalso
                  omega
                · have A226 := A222.ifNo (pc' := 120) at_117 (feq (ine (x := v209) (y := (0 : Int32)) rfl rfl c223)).1 rfl
                  have A227 := A226.iconst (z := (1 : Int32)) (pc' := 121) at_120 rfl rfl
                  have A228 := A227.goto (pc' := 125) at_121 (by decide) (by decide)
                  refine A228.retN (t := .boolean) (z' := (1 : Int32)) at_125 (by decide) (by decide) (by simp) rfl ⟨_, rfl, ⟨trivial, ?_⟩⟩
                  have elit : (1 : Int32).toInt = 1 := rfl
                  rfl
          by_cases c201 : r193.toInt = r198.toInt
          · have A203 := A197.icmpNo (pc' := 98) at_95 (teq (ieq (x := r193) (y := r198) rfl rfl c201)).2 rfl
            have A204 := A203.iconst (z := (1 : Int32)) (pc' := 99) at_98 rfl rfl
            have A205 := A204.goto (pc' := 103) at_99 (by decide) (by decide)
            exact join202 ((1 : Int32))   (Or.inl ⟨c201, rfl⟩)  A205
          · have A206 := A197.icmpYes (pc' := 102) at_95 (feq (ine (x := r193) (y := r198) rfl rfl c201)).2 (by decide) (by decide)
            have A207 := A206.iconst (z := (0 : Int32)) (pc' := 103) at_102 rfl rfl
            exact join202 ((0 : Int32))   (Or.inr ⟨c201, rfl⟩)  A207
      by_cases c46 : r43.toInt = 0
      · have A48 := A42.ifYes (pc' := 46) at_39 (teq (ieq (x := r43) (y := (0 : Int32)) rfl rfl c46)).1 (by decide) (by decide)
        have A49 := A48.iconst (z := (1 : Int32)) (pc' := 47) at_46 rfl rfl
        have A50 := A49.goto (pc' := 51) at_47 (by decide) (by decide)
        exact join47 ((1 : Int32))   (Or.inl ⟨c46, rfl⟩)  A50
      · have A51 := A42.ifNo (pc' := 42) at_39 (feq (ine (x := r43) (y := (0 : Int32)) rfl rfl c46)).1 rfl
        have A52 := A51.iloadN (v := r20) (pc' := 43) at_42 rfl rfl
        by_cases c53 : r20.toInt = 0
        · have A54 := A52.ifYes (pc' := 50) at_43 (teq (ieq (x := r20) (y := (0 : Int32)) rfl rfl c53)).1 (by decide) (by decide)
          have A55 := A54.iconst (z := (0 : Int32)) (pc' := 51) at_50 rfl rfl
          exact join47 ((0 : Int32))   (Or.inr (Or.inl ⟨c46, c53, rfl⟩))  A55
        · have A56 := A52.ifNo (pc' := 46) at_43 (feq (ine (x := r20) (y := (0 : Int32)) rfl rfl c53)).1 rfl
          have A57 := A56.iconst (z := (1 : Int32)) (pc' := 47) at_46 rfl rfl
          have A58 := A57.goto (pc' := 51) at_47 (by decide) (by decide)
          exact join47 ((1 : Int32))   (Or.inr (Or.inr ⟨c46, c53, rfl⟩))  A58
    by_cases c30 : r20.toInt = r27.toInt
    · have A32 := A26.icmpNo (pc' := 28) at_25 (teq (ieq (x := r20) (y := r27) rfl rfl c30)).2 rfl
      have A33 := A32.iconst (z := (1 : Int32)) (pc' := 29) at_28 rfl rfl
      have A34 := A33.goto (pc' := 33) at_29 (by decide) (by decide)
      exact join31 ((1 : Int32))   (Or.inl ⟨c30, rfl⟩)  A34
    · have A35 := A26.icmpYes (pc' := 32) at_25 (feq (ine (x := r20) (y := r27) rfl rfl c30)).2 (by decide) (by decide)
      have A36 := A35.iconst (z := (0 : Int32)) (pc' := 33) at_32 rfl rfl
      exact join31 ((0 : Int32))   (Or.inr ⟨c30, rfl⟩)  A36
  by_cases c4 : (x1 &&& (1 : Int32)).toInt = 0
  · have A6 := A3.ifYes (pc' := 10) at_3 (teq (ieq (x := (x1 &&& (1 : Int32))) (y := (0 : Int32)) rfl rfl c4)).1 (by decide) (by decide)
    have A7 := A6.iloadN (v := x0) (pc' := 11) at_10 rfl rfl
    have A8 := A7.bipush (z := (127 : Int32)) (pc' := 13) at_11 rfl rfl
    have A9 := A8.iand (pc' := 14) at_13 rfl
    exact join5 ((x0 &&& (127 : Int32)))   (by trivial)  A9
  · have A10 := A3.ifNo (pc' := 6) at_3 (feq (ine (x := (x1 &&& (1 : Int32))) (y := (0 : Int32)) rfl rfl c4)).1 rfl
    have A11 := A10.iloadN (v := x0) (pc' := 7) at_6 rfl rfl
    have A12 := A11.goto (pc' := 14) at_7 (by decide) (by decide)
    exact join5 (x0)   (by trivial)  A12
set_option maxRecDepth 65536 in
set_option maxHeartbeats 40000000 in
theorem comes_1 {Post : Tables → Env → Array Value → State → Outcome → State → Prop} (hpost : ∀ tb e args s v u, (limb_1_1.after args s (.returned v) u = true ∧ limb_1_2.after args s (.returned v) u = true ∧ True) → FrameEnd s (.returned v) u (Jvm.fieldLocs frame_1_writes args s ++ Jvm.arrayLocs frame_1_arrays args s ++ Jvm.staticLocs frame_1_statics s) 16 128 → Post tb e args s (.returned v) u) :
    ArmFor flags0 classFile x code maxLocals ret World_1 tables_1 room_1 Calls_1 rest_1 Pre_1 Post := by
  intro l hfl _ _ p e ha hc hk s m args below hf hA hF happ hP
  obtain ⟨hcalls, hrest, hpre⟩ := hP
  obtain ⟨-, -, -, hnamed, -, -, -, hat⟩ := (Spec.applies_iff hf).mp happ
  obtain ⟨hg, hn⟩ := and_e (Cond.before_iff.mp (show (Jvm.Cond.and given_1 narrow_1).before args s = true from hpre))
  obtain ⟨g1a, g1b⟩ := and_e hg
  obtain ⟨g2a, g2b⟩ := and_e g1b
  obtain ⟨w0, w1, rfl⟩ : ∃ w0 w1 : Value, args = #[w0, w1] := by
    have hs : args.size = 2 := by simpa [Cond.value, given_1] using g1a
    obtain ⟨L⟩ := args
    match L, hs with
    | [w0, w1], _ => exact ⟨w0, w1, rfl⟩
  have hw := fun d (hd : d ∈ tables_1) => atoms_spec (ws := Jvm.Cond.code x code maxLocals ret :: tables_1) hat d (List.mem_cons_of_mem _ hd)
  obtain ⟨i0, ei0⟩ := is_v g2a
  obtain rfl : w0 = (.int i0) := Option.some.inj ei0
  obtain ⟨i1, ei1⟩ := is_v g2b
  obtain rfl : w1 = (.int i1) := Option.some.inj ei1
  obtain ⟨hsets, hown0⟩ := atoms_of _ (rest_1_c_eq ▸ (show rest_1_c.before _ s = true from hrest))
  have hs := fun k (w : Jvm.Cond) (e : jdkStatics_1[k]? = some w) => hsets w (List.mem_of_getElem? e)
  obtain ⟨cs, vcs⟩ := is_v (Cond.before_iff.mp (hs 1 _ rfl))
  have Tc := Sta.start vcs (Or.inl (hs 0 _ rfl))
  have ncs : cs.toInt ≠ 0 := own_csne vcs (Cond.before_iff.mp (hs 2 _ rfl))
  obtain ⟨fm, vfm, rfm⟩ := isR_v (Cond.before_iff.mp (hs 8 _ rfl))
  have Tf := Sta.start vfm (Or.inl (hs 7 _ rfl))
  have Ta := Sta.start (sta_int (Cond.before_iff.mp (hs 12 _ rfl))) (Or.inl (hs 11 _ rfl))
  have Th := Sta.start (sta_int (Cond.before_iff.mp (hs 15 _ rfl))) (Or.inl (hs 14 _ rfl))
  have Tl := Sta.start (sta_int (Cond.before_iff.mp (hs 18 _ rfl))) (Or.inl (hs 17 _ rfl))
  obtain ⟨n, o, h1, h2, h3, _, L, rfl, ⟨N, ⟨r, rfl, hr⟩⟩, hq⟩ := rm0 l s _ hw s.heap.size tables_1 i0 i1 cs fm s.heap (Nat.le_refl _) (Old.start s) Tc ncs Tf rfm Ta Th Tl p e ha hc hk s m _ below hf ((Spec.applies_iff_loose hf).mp happ).1 ⟨rfl, State.Warmed39.refl s, rfl⟩ trivial
  have hr1 : r = 1 := hr.2
  subst hr1
  refine ⟨n, _, h1, h2, h3, hpost _ _ _ _ _ _ ⟨Cond.after_iff.mpr rfl, Cond.after_iff.mpr (eq_i res_at (Term.int_eval (1)) rfl), trivial⟩ ⟨hq.1, hq.2.1, (hq.2.2.sift fun y hy => Or.inr (N y hy)).mono (by decide) (by decide)⟩⟩
theorem main_1_1 : Claimed_1_1 := comes_1 fun _ _ _ _ _ _ h hF => ⟨h.1, hF⟩
theorem main_1_2 : Claimed_1_2 := comes_1 fun _ _ _ _ _ _ h hF => ⟨h.2.1, hF⟩
end Jvm.Pilot.@@N@@
namespace Jvm.Pilot.@@N@@
open Jvm Jvm.ClassFile Sem Op Lib Jvm.Free Jvm.Stand Jvm.Pilot.@@N@@.Jvm.D
/-! MADE BY PROGRAM (witnessworld.py) out of the Statement's table words and the real class files: 20 classes; the members and pool entries that the words name. The judged class is class 1, her method 2. -/
namespace start1
open Jvm.ClassFile
def u (s : String) : CpInfo := .utf8 (stringToUtf16 s)
/-- a pool by its gaps: so many unusable entries, then the entry; so many at the end -/
def gap : Nat → List CpInfo → List CpInfo
  | 0, r => r
  | n + 1, r => .unusable :: gap n r
def poolList (es : List (Nat × CpInfo)) (last : Nat) : List CpInfo := es.foldr (fun e r => gap e.1 (e.2 :: r)) (gap last [])
def pool (es : List (Nat × CpInfo)) (last : Nat) : Array CpInfo := ⟨poolList es last⟩
def fileOf (pool : Array CpInfo) (this : Nat) (attrs : Array Attribute := #[]) (ms : Array MethodInfo := #[]) (fl : Nat := 33) (sup : Nat := 0) (ifs : Array Nat := #[]) (fds : Array FieldInfo := #[]) : ClassFile where
  minorVersion := 0
  majorVersion := 65
  constantPool := pool
  accessFlags := fl
  thisClass := this
  superClass := sup
  interfaces := ifs
  fields := fds
  methods := ms
  attributes := attrs
def plain (name : String) (sup : Option ClassId) : Class where
  name := name
  kind := .ordinary
  loader := none
  accessFlags := 33
  super := sup
  interfaces := #[]
  cf := none
  fields := #[]
  methods := #[]
  instanceTypes := #[]
  staticTypes := #[]
  resolved := #[]
  callSites := []
  init := .initialized
  statics := none
  mirror := none

def pool0 : Array CpInfo := pool [(5, u "<init>"), (0, u "()V"), (1, .class_ 10), (1, u "java/lang/Object")] 113

def k0c0 : Code := { maxStack := 0, maxLocals := 1, code := object_method_1_code, exceptionTable := #[], attributes := #[] }
def k0m0 : Method := { name := "<init>", desc := "()V", sig := { parameters := [], returnType := none }, accessFlags := 1, code := some k0c0 }
/-- java/lang/Object -/
def k0 : Class := { plain "java/lang/Object" none with
  accessFlags := 33
  interfaces := #[]
  cf := some (fileOf pool0 8 #[] #[{ accessFlags := 1, nameIndex := 5, descriptorIndex := 6, attributes := #[] }] 33 0 #[] #[])
  fields := #[]
  methods := #[k0m0]
  instanceTypes := #[]
  staticTypes := #[]
  resolved := Array.replicate 124 none
  statics := none }

def pool1 : Array CpInfo := pool [(2, .class_ 4), (1, u "java/lang/Object"), (0, u "<init>"), (0, u "()V"), (0, .methodref 8 9), (0, .class_ 10), (0, .nameAndType 11 12), (0, u "com/example/hazama/hazama/model/Letters"), (0, u "isPart"), (0, u "(I)Z"), (0, .methodref 14 15), (0, .class_ 16), (0, .nameAndType 17 12), (0, u "com/example/hazama/hazama/model/LettersIsPartPinLaw"), (0, u "spec"), (0, .methodref 8 19), (0, .nameAndType 20 12), (0, u "isStart"), (0, .class_ 22), (0, u "java/lang/String"), (0, .methodref 21 24), (0, .nameAndType 5 25), (0, u "([C)V"), (0, .methodref 8 27), (0, .nameAndType 28 29), (0, u "isLetter"), (0, u "(Ljava/lang/String;)Z"), (3, u "law"), (0, u "(II)Z")] 4

def k1m0 : Method := { name := "<init>", desc := "()V", sig := { parameters := [], returnType := none }, accessFlags := 2, code := none }
def k1c1 : Code := { maxStack := 2, maxLocals := 4, code := method_2_code, exceptionTable := #[], attributes := #[] }
def k1m1 : Method := { name := "spec", desc := "(I)Z", sig := { parameters := [.int], returnType := some .boolean }, accessFlags := 10, code := some k1c1 }
def k1c2 : Code := { maxStack := 3, maxLocals := 10, code := code, exceptionTable := #[], attributes := #[] }
def k1m2 : Method := { name := "law", desc := "(II)Z", sig := { parameters := [.int, .int], returnType := some .boolean }, accessFlags := 9, code := some k1c2 }
/-- com/example/hazama/hazama/model/LettersIsPartPinLaw -/
def k1 : Class := { plain "com/example/hazama/hazama/model/LettersIsPartPinLaw" (some 0) with
  accessFlags := 49
  interfaces := #[]
  cf := some (fileOf pool1 14 #[] #[{ accessFlags := 2, nameIndex := 5, descriptorIndex := 6, attributes := #[] }, { accessFlags := 10, nameIndex := 17, descriptorIndex := 12, attributes := #[] }, { accessFlags := 9, nameIndex := 33, descriptorIndex := 34, attributes := #[] }] 49 2 #[] #[])
  fields := #[]
  methods := #[k1m0, k1m1, k1m2]
  instanceTypes := #[]
  staticTypes := #[]
  resolved := Array.replicate 39 none
  statics := none }

def pool2 : Array CpInfo := pool [(2, .class_ 4), (1, u "java/lang/Object"), (0, u "<init>"), (0, u "()V"), (0, .methodref 8 9), (0, .class_ 10), (0, .nameAndType 11 12), (0, u "com/example/hazama/hazama/model/Letters"), (0, u "isStart"), (0, u "(I)Z"), (2, u "isLetter"), (0, u "(Ljava/lang/String;)Z"), (9, .methodref 27 28), (0, .class_ 29), (0, .nameAndType 30 31), (0, u "java/lang/String"), (0, u "isEmpty"), (0, u "()Z"), (0, .methodref 27 33), (0, .nameAndType 34 35), (0, u "charAt"), (0, u "(I)C"), (0, .methodref 27 37), (0, .nameAndType 38 39), (0, u "length"), (0, u "()I"), (0, .methodref 8 41), (0, .nameAndType 42 12), (0, u "isPart"), (0, u "SYNTAX"), (0, u "Ljava/lang/String;")] 24

def k2m0 : Method := { name := "<init>", desc := "()V", sig := { parameters := [], returnType := none }, accessFlags := 2, code := none }
def k2c1 : Code := { maxStack := 2, maxLocals := 1, code := prog_32_method_2_code, exceptionTable := #[], attributes := #[] }
def k2m1 : Method := { name := "isStart", desc := "(I)Z", sig := { parameters := [.int], returnType := some .boolean }, accessFlags := 9, code := some k2c1 }
def k2c2 : Code := { maxStack := 2, maxLocals := 1, code := prog_32_method_3_code, exceptionTable := #[], attributes := #[] }
def k2m2 : Method := { name := "isPart", desc := "(I)Z", sig := { parameters := [.int], returnType := some .boolean }, accessFlags := 9, code := some k2c2 }
def k2c3 : Code := { maxStack := 2, maxLocals := 2, code := prog_32_method_5_code, exceptionTable := #[], attributes := #[] }
def k2m3 : Method := { name := "isLetter", desc := "(Ljava/lang/String;)Z", sig := { parameters := [(.object "java/lang/String")], returnType := some .boolean }, accessFlags := 9, code := some k2c3 }
/-- com/example/hazama/hazama/model/Letters -/
def k2 : Class := { plain "com/example/hazama/hazama/model/Letters" (some 0) with
  accessFlags := 49
  interfaces := #[]
  cf := some (fileOf pool2 8 #[] #[{ accessFlags := 2, nameIndex := 5, descriptorIndex := 6, attributes := #[] }, { accessFlags := 9, nameIndex := 11, descriptorIndex := 12, attributes := #[] }, { accessFlags := 9, nameIndex := 42, descriptorIndex := 12, attributes := #[] }, { accessFlags := 9, nameIndex := 15, descriptorIndex := 16, attributes := #[] }] 49 2 #[] #[{ accessFlags := 25, nameIndex := 43, descriptorIndex := 44, attributes := #[] }])
  fields := #[{ name := "SYNTAX", type := (.object "java/lang/String"), accessFlags := 25, slot := 0, constantValue := 0 }]
  methods := #[k2m0, k2m1, k2m2, k2m3]
  instanceTypes := #[]
  staticTypes := #[(.object "java/lang/String")]
  resolved := Array.replicate 69 none
  statics := none }

def pool3 : Array CpInfo := pool [(1, .class_ 2), (0, u "java/io/Serializable"), (0, .class_ 4), (0, u "java/lang/Object")] 2

/-- java/io/Serializable -/
def k3 : Class := { plain "java/io/Serializable" (some 0) with
  accessFlags := 1537
  interfaces := #[]
  cf := some (fileOf pool3 1 #[] #[] 1537 3 #[] #[])
  fields := #[]
  methods := #[]
  instanceTypes := #[]
  staticTypes := #[]
  resolved := Array.replicate 7 none
  statics := none }

def pool4 : Array CpInfo := pool [(1, .class_ 2), (0, u "java/lang/Comparable"), (0, .class_ 4), (0, u "java/lang/Object")] 7

/-- java/lang/Comparable -/
def k4 : Class := { plain "java/lang/Comparable" (some 0) with
  accessFlags := 1537
  interfaces := #[]
  cf := some (fileOf pool4 1 #[] #[] 1537 3 #[] #[])
  fields := #[]
  methods := #[]
  instanceTypes := #[]
  staticTypes := #[]
  resolved := Array.replicate 12 none
  statics := none }

def pool5 : Array CpInfo := pool [(2, .class_ 4), (1, u "java/lang/CharSequence"), (42, .class_ 48), (0, u "java/lang/CharSequence$1CodePointIterator"), (10, .class_ 60), (0, u "java/lang/CharSequence$1CharIterator"), (5, .class_ 67), (0, u "java/lang/Object")] 63

/-- java/lang/CharSequence -/
def k5 : Class := { plain "java/lang/CharSequence" (some 0) with
  accessFlags := 1537
  interfaces := #[]
  cf := some (fileOf pool5 2 #[.nestMembers #[47, 59]] #[] 1537 66 #[] #[])
  fields := #[]
  methods := #[]
  instanceTypes := #[]
  staticTypes := #[]
  resolved := Array.replicate 131 none
  statics := none }

def pool6 : Array CpInfo := pool [(1, .class_ 2), (0, u "java/lang/constant/Constable"), (0, .class_ 4), (0, u "java/lang/Object")] 6

/-- java/lang/constant/Constable -/
def k6 : Class := { plain "java/lang/constant/Constable" (some 0) with
  accessFlags := 1537
  interfaces := #[]
  cf := some (fileOf pool6 1 #[] #[] 1537 3 #[] #[])
  fields := #[]
  methods := #[]
  instanceTypes := #[]
  staticTypes := #[]
  resolved := Array.replicate 11 none
  statics := none }

def pool7 : Array CpInfo := pool [(1, .class_ 2), (0, u "java/lang/constant/ConstantDesc"), (0, .class_ 4), (0, u "java/lang/Object")] 32

/-- java/lang/constant/ConstantDesc -/
def k7 : Class := { plain "java/lang/constant/ConstantDesc" (some 0) with
  accessFlags := 1537
  interfaces := #[]
  cf := some (fileOf pool7 1 #[] #[] 1537 3 #[] #[])
  fields := #[]
  methods := #[]
  instanceTypes := #[]
  staticTypes := #[]
  resolved := Array.replicate 37 none
  statics := none }

def pool8 : Array CpInfo := pool [(1, .methodref 2 3), (0, .class_ 4), (0, .nameAndType 5 6), (0, u "java/lang/Object"), (0, u "<init>"), (0, u "()V"), (2, .fieldref 10 11), (0, .class_ 12), (0, .nameAndType 13 14), (0, u "java/lang/String"), (0, u "value"), (0, u "[B"), (0, .fieldref 10 16), (0, .nameAndType 17 18), (0, u "coder"), (0, u "B"), (2, u "hash"), (0, u "I"), (2, u "hashIsZero"), (0, u "Z"), (0, .methodref 10 28), (0, .nameAndType 5 29), (0, u "([CIILjava/lang/Void;)V"), (8, .fieldref 10 39), (0, .nameAndType 40 26), (0, u "COMPACT_STRINGS"), (1, .class_ 44), (1, u "java/lang/StringUTF16"), (0, u "compress"), (1, .methodref 42 48), (0, .nameAndType 49 50), (0, u "coderFromArrayLen"), (0, u "([BI)B"), (56, .class_ 109), (1, u "java/lang/StringLatin1"), (32, u "()Z"), (34, .methodref 42 178), (0, .nameAndType 45 179), (0, u "([CII)[B"), (154, u "()I"), (0, .methodref 10 336), (0, .nameAndType 17 337), (0, u "()B"), (25, u "([BI)C"), (27, u "(II)V"), (35, u "(I)C"), (64, .methodref 10 493), (0, .nameAndType 494 142), (0, u "isLatin1"), (0, .methodref 107 496), (0, .nameAndType 497 363), (0, u "charAt"), (0, .methodref 42 496), (2, u "checkIndex"), (5, u "length"), (67, .class_ 576), (0, u "java/lang/CharSequence"), (22, u "CASE_INSENSITIVE_ORDER"), (0, u "Ljava/util/Comparator;"), (91, u "isEmpty"), (317, u "([C)V"), (42, .fieldref 1054 1055), (0, .class_ 1056), (0, .nameAndType 1057 1058), (0, u "jdk/internal/util/Preconditions"), (0, u "SIOOBE_FORMATTER"), (0, u "Ljava/util/function/BiFunction;"), (0, .methodref 1054 1060), (0, .nameAndType 501 1061), (0, u "(IILjava/util/function/BiFunction;)I"), (39, u "serialPersistentFields"), (0, u "[Ljava/io/ObjectStreamField;"), (0, .class_ 1104), (0, u "java/lang/String$CaseInsensitiveComparator"), (1, .class_ 1107), (0, u "java/io/Serializable"), (0, .class_ 1109), (0, u "java/lang/Comparable"), (0, .class_ 1111), (0, u "java/lang/constant/Constable"), (0, .class_ 1113), (0, u "java/lang/constant/ConstantDesc"), (2, u "serialVersionUID"), (0, u "J"), (3, u "REPL"), (0, u "C"), (2, u "LATIN1"), (1, u "UTF16")] 323

def k8m0 : Method := { name := "<init>", desc := "()V", sig := { parameters := [], returnType := none }, accessFlags := 1, code := none }
def k8c1 : Code := { maxStack := 5, maxLocals := 2, code := jdk_42_method_3_code, exceptionTable := #[], attributes := #[] }
def k8m1 : Method := { name := "<init>", desc := "([C)V", sig := { parameters := [(.array .char)], returnType := none }, accessFlags := 1, code := some k8c1 }
def k8c2 : Code := { maxStack := 2, maxLocals := 1, code := jdk_42_method_54_code, exceptionTable := #[], attributes := #[] }
def k8m2 : Method := { name := "length", desc := "()I", sig := { parameters := [], returnType := some .int }, accessFlags := 1, code := some k8c2 }
def k8c3 : Code := { maxStack := 1, maxLocals := 1, code := jdk_42_method_55_code, exceptionTable := #[], attributes := #[] }
def k8m3 : Method := { name := "isEmpty", desc := "()Z", sig := { parameters := [], returnType := some .boolean }, accessFlags := 1, code := some k8c3 }
def k8c4 : Code := { maxStack := 2, maxLocals := 2, code := jdk_42_method_56_code, exceptionTable := #[], attributes := #[] }
def k8m4 : Method := { name := "charAt", desc := "(I)C", sig := { parameters := [.int], returnType := some .char }, accessFlags := 1, code := some k8c4 }
def k8c5 : Code := { maxStack := 4, maxLocals := 6, code := jdk_42_method_149_code, exceptionTable := #[], attributes := #[] }
def k8m5 : Method := { name := "<init>", desc := "([CIILjava/lang/Void;)V", sig := { parameters := [(.array .char), .int, .int, (.object "java/lang/Void")], returnType := none }, accessFlags := 2, code := some k8c5 }
def k8c6 : Code := { maxStack := 1, maxLocals := 1, code := jdk_42_method_152_code, exceptionTable := #[], attributes := #[] }
def k8m6 : Method := { name := "coder", desc := "()B", sig := { parameters := [], returnType := some .byte }, accessFlags := 0, code := some k8c6 }
def k8c7 : Code := { maxStack := 1, maxLocals := 1, code := jdk_42_method_154_code, exceptionTable := #[], attributes := #[] }
def k8m7 : Method := { name := "isLatin1", desc := "()Z", sig := { parameters := [], returnType := some .boolean }, accessFlags := 0, code := some k8c7 }
def k8c8 : Code := { maxStack := 3, maxLocals := 2, code := jdk_42_method_155_code, exceptionTable := #[], attributes := #[] }
def k8m8 : Method := { name := "checkIndex", desc := "(II)V", sig := { parameters := [.int, .int], returnType := none }, accessFlags := 8, code := some k8c8 }
/-- java/lang/String -/
def k8 : Class := { plain "java/lang/String" (some 0) with
  accessFlags := 49
  interfaces := #[3, 4, 5, 6, 7]
  cf := some (fileOf pool8 10 #[.nestMembers #[1103]] #[{ accessFlags := 1, nameIndex := 5, descriptorIndex := 6, attributes := #[] }, { accessFlags := 1, nameIndex := 5, descriptorIndex := 1010, attributes := #[] }, { accessFlags := 1, nameIndex := 507, descriptorIndex := 334, attributes := #[] }, { accessFlags := 1, nameIndex := 692, descriptorIndex := 142, attributes := #[] }, { accessFlags := 1, nameIndex := 497, descriptorIndex := 427, attributes := #[] }, { accessFlags := 2, nameIndex := 5, descriptorIndex := 29, attributes := #[] }, { accessFlags := 0, nameIndex := 17, descriptorIndex := 337, attributes := #[] }, { accessFlags := 0, nameIndex := 494, descriptorIndex := 142, attributes := #[] }, { accessFlags := 8, nameIndex := 501, descriptorIndex := 391, attributes := #[] }] 49 2 #[1106, 1108, 575, 1110, 1112] #[{ accessFlags := 18, nameIndex := 13, descriptorIndex := 14, attributes := #[] }, { accessFlags := 18, nameIndex := 17, descriptorIndex := 18, attributes := #[] }, { accessFlags := 2, nameIndex := 21, descriptorIndex := 22, attributes := #[] }, { accessFlags := 2, nameIndex := 25, descriptorIndex := 26, attributes := #[] }, { accessFlags := 26, nameIndex := 1116, descriptorIndex := 1117, attributes := #[] }, { accessFlags := 24, nameIndex := 40, descriptorIndex := 26, attributes := #[] }, { accessFlags := 26, nameIndex := 1101, descriptorIndex := 1102, attributes := #[] }, { accessFlags := 26, nameIndex := 1121, descriptorIndex := 1122, attributes := #[] }, { accessFlags := 25, nameIndex := 599, descriptorIndex := 600, attributes := #[] }, { accessFlags := 24, nameIndex := 1125, descriptorIndex := 18, attributes := #[] }, { accessFlags := 24, nameIndex := 1127, descriptorIndex := 18, attributes := #[] }])
  fields := #[{ name := "value", type := (.array .byte), accessFlags := 18, slot := 0, constantValue := 0 }, { name := "coder", type := .byte, accessFlags := 18, slot := 1, constantValue := 0 }, { name := "hash", type := .int, accessFlags := 2, slot := 2, constantValue := 0 }, { name := "hashIsZero", type := .boolean, accessFlags := 2, slot := 3, constantValue := 0 }, { name := "serialVersionUID", type := .long, accessFlags := 26, slot := 0, constantValue := 0 }, { name := "COMPACT_STRINGS", type := .boolean, accessFlags := 24, slot := 1, constantValue := 0 }, { name := "serialPersistentFields", type := (.array (.object "java/io/ObjectStreamField")), accessFlags := 26, slot := 2, constantValue := 0 }, { name := "REPL", type := .char, accessFlags := 26, slot := 3, constantValue := 0 }, { name := "CASE_INSENSITIVE_ORDER", type := (.object "java/util/Comparator"), accessFlags := 25, slot := 4, constantValue := 0 }, { name := "LATIN1", type := .byte, accessFlags := 24, slot := 5, constantValue := 0 }, { name := "UTF16", type := .byte, accessFlags := 24, slot := 6, constantValue := 0 }]
  methods := #[k8m0, k8m1, k8m2, k8m3, k8m4, k8m5, k8m6, k8m7, k8m8]
  instanceTypes := #[(.array .byte), .byte, .int, .boolean]
  staticTypes := #[.long, .boolean, (.array (.object "java/io/ObjectStreamField")), .char, (.object "java/util/Comparator"), .byte, .byte]
  resolved := Array.replicate 1451 none
  statics := some 0 }

def pool9 : Array CpInfo := pool [(3, .class_ 4), (0, u "java/lang/String"), (1, .class_ 8), (1, u "java/lang/Object"), (0, u "<init>"), (0, u "()V"), (0, .methodref 12 13), (0, .class_ 14), (0, .nameAndType 15 16), (0, u "java/lang/StringUTF16"), (0, u "newBytesLength"), (0, u "(I)I"), (3, .integer 1073741823), (23, .fieldref 12 45), (0, .nameAndType 46 47), (0, u "$assertionsDisabled"), (0, u "Z"), (0, .methodref 12 49), (0, .nameAndType 50 51), (0, u "length"), (0, u "([B)I"), (7, .fieldref 12 60), (0, .nameAndType 61 62), (0, u "HI_BYTE_SHIFT"), (0, u "I"), (0, .fieldref 12 64), (0, .nameAndType 65 62), (0, u "LO_BYTE_SHIFT"), (1, .methodref 12 68), (0, .nameAndType 69 70), (0, u "checkIndex"), (0, u "(I[B)V"), (0, .methodref 12 72), (0, .nameAndType 73 74), (0, u "getChar"), (0, u "([BI)C"), (32, .methodref 12 108), (0, .nameAndType 109 110), (0, u "newBytesFor"), (0, u "(I)[B"), (0, .methodref 12 112), (0, .nameAndType 113 114), (0, u "putChar"), (0, u "([BII)V"), (0, .methodref 12 116), (0, .nameAndType 117 118), (0, u "compress"), (0, u "([CI[BII)I"), (0, .methodref 12 120), (0, .nameAndType 121 122), (0, u "toBytes"), (0, u "([CII)[B"), (138, u "coderFromArrayLen"), (0, u "([BI)B"), (106, .class_ 371), (1, u "java/lang/StringUTF16$LinesSpliterator"), (20, u "charAt"), (21, .methodref 3 415), (0, .nameAndType 69 416), (0, u "(II)V"), (13, u "MAX_LENGTH"), (196, .class_ 628), (0, u "java/lang/StringUTF16$CodePointsSpliterator"), (0, .class_ 630), (0, u "java/lang/StringUTF16$CharsSpliterator")] 4

def k9m0 : Method := { name := "<init>", desc := "()V", sig := { parameters := [], returnType := none }, accessFlags := 0, code := none }
def k9c1 : Code := { maxStack := 1, maxLocals := 1, code := jdk_52_method_2_code, exceptionTable := #[], attributes := #[] }
def k9m1 : Method := { name := "newBytesFor", desc := "(I)[B", sig := { parameters := [.int], returnType := some (.array .byte) }, accessFlags := 9, code := some k9c1 }
def k9c2 : Code := { maxStack := 4, maxLocals := 1, code := jdk_52_method_3_code, exceptionTable := #[], attributes := #[] }
def k9m2 : Method := { name := "newBytesLength", desc := "(I)I", sig := { parameters := [.int], returnType := some .int }, accessFlags := 9, code := some k9c2 }
def k9c3 : Code := { maxStack := 4, maxLocals := 3, code := jdk_52_method_4_code, exceptionTable := #[], attributes := #[] }
def k9m3 : Method := { name := "putChar", desc := "([BII)V", sig := { parameters := [(.array .byte), .int, .int], returnType := none }, accessFlags := 8, code := some k9c3 }
def k9c4 : Code := { maxStack := 3, maxLocals := 2, code := jdk_52_method_5_code, exceptionTable := #[], attributes := #[] }
def k9m4 : Method := { name := "getChar", desc := "([BI)C", sig := { parameters := [(.array .byte), .int], returnType := some .char }, accessFlags := 8, code := some k9c4 }
def k9c5 : Code := { maxStack := 2, maxLocals := 1, code := jdk_52_method_6_code, exceptionTable := #[], attributes := #[] }
def k9m5 : Method := { name := "length", desc := "([B)I", sig := { parameters := [(.array .byte)], returnType := some .int }, accessFlags := 9, code := some k9c5 }
def k9c6 : Code := { maxStack := 4, maxLocals := 5, code := jdk_52_method_14_code, exceptionTable := #[], attributes := #[] }
def k9m6 : Method := { name := "toBytes", desc := "([CII)[B", sig := { parameters := [(.array .char), .int, .int], returnType := some (.array .byte) }, accessFlags := 9, code := some k9c6 }
def k9c7 : Code := { maxStack := 2, maxLocals := 2, code := jdk_52_method_15_code, exceptionTable := #[], attributes := #[] }
def k9m7 : Method := { name := "coderFromArrayLen", desc := "([BI)B", sig := { parameters := [(.array .byte), .int], returnType := some .byte }, accessFlags := 8, code := some k9c7 }
def k9c8 : Code := { maxStack := 5, maxLocals := 6, code := jdk_52_method_16_code, exceptionTable := #[], attributes := #[] }
def k9m8 : Method := { name := "compress", desc := "([CII)[B", sig := { parameters := [(.array .char), .int, .int], returnType := some (.array .byte) }, accessFlags := 9, code := some k9c8 }
def k9c9 : Code := { maxStack := 3, maxLocals := 7, code := jdk_52_method_21_code, exceptionTable := #[], attributes := #[] }
def k9m9 : Method := { name := "compress", desc := "([CI[BII)I", sig := { parameters := [(.array .char), .int, (.array .byte), .int, .int], returnType := some .int }, accessFlags := 9, code := some k9c9 }
def k9c10 : Code := { maxStack := 2, maxLocals := 2, code := jdk_52_method_83_code, exceptionTable := #[], attributes := #[] }
def k9m10 : Method := { name := "charAt", desc := "([BI)C", sig := { parameters := [(.array .byte), .int], returnType := some .char }, accessFlags := 9, code := some k9c10 }
def k9c11 : Code := { maxStack := 2, maxLocals := 2, code := jdk_52_method_91_code, exceptionTable := #[], attributes := #[] }
def k9m11 : Method := { name := "checkIndex", desc := "(I[B)V", sig := { parameters := [.int, (.array .byte)], returnType := none }, accessFlags := 9, code := some k9c11 }
/-- java/lang/StringUTF16 -/
def k9 : Class := { plain "java/lang/StringUTF16" (some 0) with
  accessFlags := 48
  interfaces := #[]
  cf := some (fileOf pool9 12 #[.nestMembers #[627, 629, 369]] #[{ accessFlags := 0, nameIndex := 9, descriptorIndex := 10, attributes := #[] }, { accessFlags := 9, nameIndex := 109, descriptorIndex := 110, attributes := #[] }, { accessFlags := 9, nameIndex := 15, descriptorIndex := 16, attributes := #[] }, { accessFlags := 8, nameIndex := 113, descriptorIndex := 114, attributes := #[] }, { accessFlags := 8, nameIndex := 73, descriptorIndex := 74, attributes := #[] }, { accessFlags := 9, nameIndex := 50, descriptorIndex := 51, attributes := #[] }, { accessFlags := 9, nameIndex := 121, descriptorIndex := 122, attributes := #[] }, { accessFlags := 8, nameIndex := 261, descriptorIndex := 262, attributes := #[] }, { accessFlags := 9, nameIndex := 117, descriptorIndex := 122, attributes := #[] }, { accessFlags := 9, nameIndex := 117, descriptorIndex := 118, attributes := #[] }, { accessFlags := 9, nameIndex := 392, descriptorIndex := 74, attributes := #[] }, { accessFlags := 9, nameIndex := 69, descriptorIndex := 70, attributes := #[] }] 48 6 #[] #[{ accessFlags := 26, nameIndex := 61, descriptorIndex := 62, attributes := #[] }, { accessFlags := 26, nameIndex := 65, descriptorIndex := 62, attributes := #[] }, { accessFlags := 24, nameIndex := 430, descriptorIndex := 62, attributes := #[] }, { accessFlags := 4120, nameIndex := 46, descriptorIndex := 47, attributes := #[] }])
  fields := #[{ name := "HI_BYTE_SHIFT", type := .int, accessFlags := 26, slot := 0, constantValue := 0 }, { name := "LO_BYTE_SHIFT", type := .int, accessFlags := 26, slot := 1, constantValue := 0 }, { name := "MAX_LENGTH", type := .int, accessFlags := 24, slot := 2, constantValue := 0 }, { name := "$assertionsDisabled", type := .boolean, accessFlags := 4120, slot := 3, constantValue := 0 }]
  methods := #[k9m0, k9m1, k9m2, k9m3, k9m4, k9m5, k9m6, k9m7, k9m8, k9m9, k9m10, k9m11]
  instanceTypes := #[]
  staticTypes := #[.int, .int, .int, .boolean]
  resolved := Array.replicate 635 none
  statics := some 1 }

def pool10 : Array CpInfo := pool [(1, .class_ 2), (0, u "java/lang/String"), (1, .class_ 6), (1, u "java/lang/Object"), (0, u "<init>"), (0, u "()V"), (0, .methodref 1 10), (0, .nameAndType 11 12), (0, u "checkIndex"), (0, u "(II)V"), (1, .class_ 16), (1, u "java/lang/StringLatin1"), (36, u "([BI)C"), (67, u "$assertionsDisabled"), (0, u "Z"), (98, .class_ 223), (1, u "java/lang/StringLatin1$LinesSpliterator"), (28, u "charAt"), (137, .class_ 391), (0, u "java/lang/StringLatin1$CharsSpliterator")] 3

def k10m0 : Method := { name := "<init>", desc := "()V", sig := { parameters := [], returnType := none }, accessFlags := 0, code := none }
def k10c1 : Code := { maxStack := 2, maxLocals := 2, code := jdk_43_method_2_code, exceptionTable := #[], attributes := #[] }
def k10m1 : Method := { name := "charAt", desc := "([BI)C", sig := { parameters := [(.array .byte), .int], returnType := some .char }, accessFlags := 9, code := some k10c1 }
/-- java/lang/StringLatin1 -/
def k10 : Class := { plain "java/lang/StringLatin1" (some 0) with
  accessFlags := 48
  interfaces := #[]
  cf := some (fileOf pool10 14 #[.nestMembers #[390, 221]] #[{ accessFlags := 0, nameIndex := 7, descriptorIndex := 8, attributes := #[] }, { accessFlags := 9, nameIndex := 252, descriptorIndex := 53, attributes := #[] }] 48 4 #[] #[{ accessFlags := 4120, nameIndex := 121, descriptorIndex := 122, attributes := #[] }])
  fields := #[{ name := "$assertionsDisabled", type := .boolean, accessFlags := 4120, slot := 0, constantValue := 0 }]
  methods := #[k10m0, k10m1]
  instanceTypes := #[]
  staticTypes := #[.boolean]
  resolved := Array.replicate 395 none
  statics := none }

def pool11 : Array CpInfo := pool [(2, .class_ 4), (1, u "java/lang/Object"), (0, u "<init>"), (0, u "()V"), (17, .class_ 26), (1, u "jdk/internal/util/Preconditions"), (6, u "checkIndex"), (21, .class_ 56), (0, u "jdk/internal/util/Preconditions$4"), (57, .class_ 115), (0, u "jdk/internal/util/Preconditions$1"), (7, u "SIOOBE_FORMATTER"), (0, u "Ljava/util/function/BiFunction;"), (0, .class_ 126), (0, u "jdk/internal/util/Preconditions$2"), (3, u "AIOOBE_FORMATTER"), (0, .class_ 132), (0, u "jdk/internal/util/Preconditions$3"), (3, u "IOOBE_FORMATTER"), (41, u "(IILjava/util/function/BiFunction;)I")] 15

def k11m0 : Method := { name := "<init>", desc := "()V", sig := { parameters := [], returnType := none }, accessFlags := 1, code := none }
def k11c1 : Code := { maxStack := 3, maxLocals := 3, code := jdk_41_method_11_code, exceptionTable := #[], attributes := #[] }
def k11m1 : Method := { name := "checkIndex", desc := "(IILjava/util/function/BiFunction;)I", sig := { parameters := [.int, .int, (.object "java/util/function/BiFunction")], returnType := some .int }, accessFlags := 9, code := some k11c1 }
/-- jdk/internal/util/Preconditions -/
def k11 : Class := { plain "jdk/internal/util/Preconditions" (some 0) with
  accessFlags := 33
  interfaces := #[]
  cf := some (fileOf pool11 24 #[.nestMembers #[55, 131, 125, 114]] #[{ accessFlags := 1, nameIndex := 5, descriptorIndex := 6, attributes := #[] }, { accessFlags := 9, nameIndex := 33, descriptorIndex := 178, attributes := #[] }] 33 2 #[] #[{ accessFlags := 25, nameIndex := 123, descriptorIndex := 124, attributes := #[] }, { accessFlags := 25, nameIndex := 130, descriptorIndex := 124, attributes := #[] }, { accessFlags := 25, nameIndex := 136, descriptorIndex := 124, attributes := #[] }])
  fields := #[{ name := "SIOOBE_FORMATTER", type := (.object "java/util/function/BiFunction"), accessFlags := 25, slot := 0, constantValue := 0 }, { name := "AIOOBE_FORMATTER", type := (.object "java/util/function/BiFunction"), accessFlags := 25, slot := 1, constantValue := 0 }, { name := "IOOBE_FORMATTER", type := (.object "java/util/function/BiFunction"), accessFlags := 25, slot := 2, constantValue := 0 }]
  methods := #[k11m0, k11m1]
  instanceTypes := #[]
  staticTypes := #[(.object "java/util/function/BiFunction"), (.object "java/util/function/BiFunction"), (.object "java/util/function/BiFunction")]
  resolved := Array.replicate 194 none
  statics := some 2 }

def pool12 : Array CpInfo := pool [(9, u "<init>"), (6, .class_ 18), (1, u "java/lang/Object"), (0, u "()V"), (1, .class_ 23), (1, u "jdk/internal/util/ArraysSupport"), (0, u "LOG2_ARRAY_LONG_INDEX_SCALE"), (0, u "I"), (2, u "U"), (0, u "Ljdk/internal/misc/Unsafe;"), (8, u "BIG_ENDIAN"), (0, u "Z"), (8, u "LOG2_BYTE_BIT_SIZE"), (4, u "LOG2_ARRAY_INT_INDEX_SCALE"), (54, u "JLA"), (0, u "Ljdk/internal/access/JavaLangAccess;"), (11, u "LOG2_ARRAY_BOOLEAN_INDEX_SCALE"), (9, u "LOG2_ARRAY_BYTE_INDEX_SCALE"), (5, u "LOG2_ARRAY_CHAR_INDEX_SCALE"), (5, u "LOG2_ARRAY_SHORT_INDEX_SCALE"), (18, u "LOG2_ARRAY_FLOAT_INDEX_SCALE"), (24, u "LOG2_ARRAY_DOUBLE_INDEX_SCALE"), (89, u "T_BOOLEAN"), (2, u "T_CHAR"), (1, u "T_FLOAT"), (1, u "T_DOUBLE"), (1, u "T_BYTE"), (1, u "T_SHORT"), (1, u "T_INT"), (1, u "T_LONG"), (1, u "SOFT_MAX_ARRAY_LENGTH")] 83

def k12m0 : Method := { name := "<init>", desc := "()V", sig := { parameters := [], returnType := none }, accessFlags := 2, code := none }
/-- jdk/internal/util/ArraysSupport -/
def k12 : Class := { plain "jdk/internal/util/ArraysSupport" (some 0) with
  accessFlags := 33
  interfaces := #[]
  cf := some (fileOf pool12 21 #[] #[{ accessFlags := 2, nameIndex := 9, descriptorIndex := 19, attributes := #[] }] 33 16 #[] #[{ accessFlags := 24, nameIndex := 28, descriptorIndex := 29, attributes := #[] }, { accessFlags := 26, nameIndex := 38, descriptorIndex := 39, attributes := #[] }, { accessFlags := 25, nameIndex := 121, descriptorIndex := 25, attributes := #[] }, { accessFlags := 25, nameIndex := 131, descriptorIndex := 25, attributes := #[] }, { accessFlags := 25, nameIndex := 137, descriptorIndex := 25, attributes := #[] }, { accessFlags := 25, nameIndex := 143, descriptorIndex := 25, attributes := #[] }, { accessFlags := 25, nameIndex := 53, descriptorIndex := 25, attributes := #[] }, { accessFlags := 25, nameIndex := 24, descriptorIndex := 25, attributes := #[] }, { accessFlags := 25, nameIndex := 162, descriptorIndex := 25, attributes := #[] }, { accessFlags := 25, nameIndex := 187, descriptorIndex := 25, attributes := #[] }, { accessFlags := 26, nameIndex := 48, descriptorIndex := 25, attributes := #[] }, { accessFlags := 25, nameIndex := 277, descriptorIndex := 25, attributes := #[] }, { accessFlags := 25, nameIndex := 280, descriptorIndex := 25, attributes := #[] }, { accessFlags := 25, nameIndex := 282, descriptorIndex := 25, attributes := #[] }, { accessFlags := 25, nameIndex := 284, descriptorIndex := 25, attributes := #[] }, { accessFlags := 25, nameIndex := 286, descriptorIndex := 25, attributes := #[] }, { accessFlags := 25, nameIndex := 288, descriptorIndex := 25, attributes := #[] }, { accessFlags := 25, nameIndex := 290, descriptorIndex := 25, attributes := #[] }, { accessFlags := 25, nameIndex := 292, descriptorIndex := 25, attributes := #[] }, { accessFlags := 26, nameIndex := 108, descriptorIndex := 109, attributes := #[] }, { accessFlags := 25, nameIndex := 294, descriptorIndex := 25, attributes := #[] }])
  fields := #[{ name := "U", type := (.object "jdk/internal/misc/Unsafe"), accessFlags := 24, slot := 0, constantValue := 0 }, { name := "BIG_ENDIAN", type := .boolean, accessFlags := 26, slot := 1, constantValue := 0 }, { name := "LOG2_ARRAY_BOOLEAN_INDEX_SCALE", type := .int, accessFlags := 25, slot := 2, constantValue := 0 }, { name := "LOG2_ARRAY_BYTE_INDEX_SCALE", type := .int, accessFlags := 25, slot := 3, constantValue := 0 }, { name := "LOG2_ARRAY_CHAR_INDEX_SCALE", type := .int, accessFlags := 25, slot := 4, constantValue := 0 }, { name := "LOG2_ARRAY_SHORT_INDEX_SCALE", type := .int, accessFlags := 25, slot := 5, constantValue := 0 }, { name := "LOG2_ARRAY_INT_INDEX_SCALE", type := .int, accessFlags := 25, slot := 6, constantValue := 0 }, { name := "LOG2_ARRAY_LONG_INDEX_SCALE", type := .int, accessFlags := 25, slot := 7, constantValue := 0 }, { name := "LOG2_ARRAY_FLOAT_INDEX_SCALE", type := .int, accessFlags := 25, slot := 8, constantValue := 0 }, { name := "LOG2_ARRAY_DOUBLE_INDEX_SCALE", type := .int, accessFlags := 25, slot := 9, constantValue := 0 }, { name := "LOG2_BYTE_BIT_SIZE", type := .int, accessFlags := 26, slot := 10, constantValue := 0 }, { name := "T_BOOLEAN", type := .int, accessFlags := 25, slot := 11, constantValue := 0 }, { name := "T_CHAR", type := .int, accessFlags := 25, slot := 12, constantValue := 0 }, { name := "T_FLOAT", type := .int, accessFlags := 25, slot := 13, constantValue := 0 }, { name := "T_DOUBLE", type := .int, accessFlags := 25, slot := 14, constantValue := 0 }, { name := "T_BYTE", type := .int, accessFlags := 25, slot := 15, constantValue := 0 }, { name := "T_SHORT", type := .int, accessFlags := 25, slot := 16, constantValue := 0 }, { name := "T_INT", type := .int, accessFlags := 25, slot := 17, constantValue := 0 }, { name := "T_LONG", type := .int, accessFlags := 25, slot := 18, constantValue := 0 }, { name := "JLA", type := (.object "jdk/internal/access/JavaLangAccess"), accessFlags := 26, slot := 19, constantValue := 0 }, { name := "SOFT_MAX_ARRAY_LENGTH", type := .int, accessFlags := 25, slot := 20, constantValue := 0 }]
  methods := #[k12m0]
  instanceTypes := #[]
  staticTypes := #[(.object "jdk/internal/misc/Unsafe"), .boolean, .int, .int, .int, .int, .int, .int, .int, .int, .int, .int, .int, .int, .int, .int, .int, .int, .int, (.object "jdk/internal/access/JavaLangAccess"), .int]
  resolved := Array.replicate 378 none
  statics := none }

def pool13 : Array CpInfo := pool [(1, u "java/lang/Cloneable"), (0, .class_ 1), (0, u "java/lang/Object"), (0, .class_ 3)] 3

/-- java/lang/Cloneable -/
def k13 : Class := { plain "java/lang/Cloneable" (some 0) with
  accessFlags := 1537
  interfaces := #[]
  cf := some (fileOf pool13 2 #[] #[] 1537 4 #[] #[])
  fields := #[]
  methods := #[]
  instanceTypes := #[]
  staticTypes := #[]
  resolved := Array.replicate 8 none
  statics := none }

/-- the primitive byte -/
def k14 : Class := { plain "byte" none with kind := .primitive 'B', accessFlags := 0x411 }
/-- [B -/
def k15 : Class := { plain "[B" (some 0) with kind := .array 14 .byte, interfaces := #[13, 3], accessFlags := 1041 }

/-- the primitive char -/
def k16 : Class := { plain "char" none with kind := .primitive 'C', accessFlags := 0x411 }
/-- [C -/
def k17 : Class := { plain "[C" (some 0) with kind := .array 16 .char, interfaces := #[13, 3], accessFlags := 1041 }

/-- the primitive int -/
def k18 : Class := { plain "int" none with kind := .primitive 'I', accessFlags := 0x411 }
/-- [I -/
def k19 : Class := { plain "[I" (some 0) with kind := .array 18 .int, interfaces := #[13, 3], accessFlags := 1041 }

def heap : Heap := #[{ cls := 8, slots := #[.long 0, .int 1, .null, .int 0, .null, .int 0, .int 0], vm := .statics 8 },
  { cls := 9, slots := #[.int 0, .int 8, .int 0, .int 1], vm := .statics 9 },
  { cls := 11, slots := #[.null, .null, .null], vm := .statics 11 }]
def classes : Array Class := #[k0, k1, k2, k3, k4, k5, k6, k7, k8, k9, k10, k11, k12, k13, k14, k15, k16, k17, k18, k19]
def interned : List (Array UInt16 × Addr) := []
def slotsUsed : Nat := 14
def theMethod : MethodId := ⟨1, 2⟩
def args0 : Array Value := #[.int 5, .int 5]
def aboutOver (below : List Frame) : State where
  vm := { classes := classes, interned := interned.toArray }
  heap := heap
  slotsUsed := slotsUsed
  threads := #[{ frames := .invoking theMethod args0 :: below }]
def below0 : List Frame := [.native { method := ⟨0, 0⟩, args := #[] }]
def about1 : State := aboutOver below0
def p0 : Program := .bare "" "" ""
def e0 : Env := launch0.env 0 0 0
theorem w_frames : about1.frames = Frame.invoking theMethod args0 :: below0 := rfl
set_option maxRecDepth 65536 in
theorem w_args : argsFit about1.vm theMethod args0 = true := by decide +kernel
set_option maxRecDepth 65536 in
theorem w_heap : heapFits about1 = true := by decide +kernel
set_option maxRecDepth 65536 in
theorem w_runnable : about1.curStatus? = some .runnable := by decide +kernel
set_option maxRecDepth 65536 in
theorem w_alone : about1.alone = true := by decide +kernel
set_option maxRecDepth 65536 in
theorem w_named : about1.methodNamed? x = some theMethod := by decide +kernel
set_option maxRecDepth 65536 in
theorem w_hears : about1.hears theMethod below0 = true := by decide +kernel
set_option maxRecDepth 65536 in
theorem w_ripe : about1.ripe theMethod args0 below0 = true := by decide +kernel
theorem w_running : about1.status = .running := rfl
set_option maxRecDepth 65536 in
theorem w_room : about1.hasRoom e0.platform room_1 = true :=
  launch0.hasRoom_least _ room_1 (by decide +kernel) (by decide +kernel) (by decide +kernel) (by decide +kernel) (by decide +kernel) (by decide +kernel)
theorem allAtoms_all (ts : List Jvm.Cond) (a : Array Jvm.Value) (st : Jvm.State) : (allAtoms ts).before a st = ts.all (fun c => c.before a st) := by
  induction ts with
  | nil => rfl
  | cons c t ih =>
    show (Jvm.Cond.and c (allAtoms t)).before a st = _
    rw [Jvm.Cond.before_and, ih, List.all_cons]
def words1 : List Jvm.Cond := Jvm.Cond.code x code maxLocals ret :: tables_1
/-- a 'code' word, met by the world's own term for the bytes: nothing is compared byte by byte -/
theorem code_word {y : MethodName} {bytes : ByteArray} {mx : Nat} {rt : Option FieldType} {a : Array Value} {s : State} {m : MethodId} {meth : Method} {c : Code} (h1 : s.methodNamed? y = some m) (h2 : s.vm.method? m = some meth) (h3 : meth.code = some c) (h4 : c.code = bytes)
    (h5 : (c.maxLocals == mx && c.exceptionTable.isEmpty && decide (c.maxStack ≤ mostOperands) && decide (meth.sig.returnType = rt) && !meth.locks && decide (parseMethodDescriptor y.desc = some meth.sig)) = true) : (Jvm.Cond.code y bytes mx rt).before a s = true := by
  simp only [Bool.and_eq_true, beq_iff_eq, Bool.not_eq_true', decide_eq_true_eq] at h5
  obtain ⟨⟨⟨⟨⟨g1, g2⟩, g3⟩, g4⟩, g5⟩, g6⟩ := h5
  simp [Cond.before, Cond.holds, Cond.value, h1, h2, h3, h4, g1, g2, g3, g4, g5, g6]
def isCode : Jvm.Cond → Bool
  | .code _ _ _ _ => true
  | _ => false
theorem all_split {L : List Jvm.Cond} {P : Jvm.Cond → Bool} (h1 : L.all (fun c => isCode c || P c) = true) (h2 : ∀ c ∈ L.filter isCode, P c = true) : L.all P = true := by
  refine List.all_eq_true.mpr fun c hc => ?_
  have h := List.all_eq_true.mp h1 c hc
  rcases Bool.eq_false_or_eq_true (isCode c) with hi | hi
  · exact h2 c (List.mem_filter.mpr ⟨hc, hi⟩)
  · simpa [hi] using h
set_option maxRecDepth 65536 in
theorem w_c0 : (Jvm.Cond.code x code maxLocals ret).before args0 about1 = true := code_word (m := ⟨1, 2⟩) (meth := k1m2) (c := k1c2) (by decide +kernel) rfl rfl rfl (by decide +kernel)
set_option maxRecDepth 65536 in
theorem w_c1 : (Jvm.Cond.code ({ cls := "com/example/hazama/hazama/model/Letters", name := "isPart", desc := "(I)Z" } : Jvm.MethodName) prog_32_method_3_code (1 : Nat) (Option.some Jvm.ClassFile.FieldType.boolean)).before args0 about1 = true := code_word (m := ⟨2, 2⟩) (meth := k2m2) (c := k2c2) (by decide +kernel) rfl rfl rfl (by decide +kernel)
set_option maxRecDepth 65536 in
theorem w_c2 : (Jvm.Cond.code ({ cls := "com/example/hazama/hazama/model/Letters", name := "isStart", desc := "(I)Z" } : Jvm.MethodName) prog_32_method_2_code (1 : Nat) (Option.some Jvm.ClassFile.FieldType.boolean)).before args0 about1 = true := code_word (m := ⟨2, 1⟩) (meth := k2m1) (c := k2c1) (by decide +kernel) rfl rfl rfl (by decide +kernel)
set_option maxRecDepth 65536 in
theorem w_c3 : (Jvm.Cond.code ({ cls := "com/example/hazama/hazama/model/LettersIsPartPinLaw", name := "spec", desc := "(I)Z" } : Jvm.MethodName) method_2_code (4 : Nat) (Option.some Jvm.ClassFile.FieldType.boolean)).before args0 about1 = true := code_word (m := ⟨1, 1⟩) (meth := k1m1) (c := k1c1) (by decide +kernel) rfl rfl rfl (by decide +kernel)
set_option maxRecDepth 65536 in
theorem w_c4 : (Jvm.Cond.code ({ cls := "java/lang/String", name := "<init>", desc := "([C)V" } : Jvm.MethodName) jdk_42_method_3_code (2 : Nat) (Option.none : Option Jvm.ClassFile.FieldType)).before args0 about1 = true := code_word (m := ⟨8, 1⟩) (meth := k8m1) (c := k8c1) (by decide +kernel) rfl rfl rfl (by decide +kernel)
set_option maxRecDepth 65536 in
theorem w_c5 : (Jvm.Cond.code ({ cls := "java/lang/String", name := "<init>", desc := "([CIILjava/lang/Void;)V" } : Jvm.MethodName) jdk_42_method_149_code (6 : Nat) (Option.none : Option Jvm.ClassFile.FieldType)).before args0 about1 = true := code_word (m := ⟨8, 5⟩) (meth := k8m5) (c := k8c5) (by decide +kernel) rfl rfl rfl (by decide +kernel)
set_option maxRecDepth 65536 in
theorem w_c6 : (Jvm.Cond.code ({ cls := "java/lang/Object", name := "<init>", desc := "()V" } : Jvm.MethodName) object_method_1_code (1 : Nat) (Option.none : Option Jvm.ClassFile.FieldType)).before args0 about1 = true := code_word (m := ⟨0, 0⟩) (meth := k0m0) (c := k0c0) (by decide +kernel) rfl rfl rfl (by decide +kernel)
set_option maxRecDepth 65536 in
theorem w_c7 : (Jvm.Cond.code ({ cls := "java/lang/StringUTF16", name := "compress", desc := "([CII)[B" } : Jvm.MethodName) jdk_52_method_16_code (6 : Nat) (Option.some (Jvm.ClassFile.FieldType.array Jvm.ClassFile.FieldType.byte))).before args0 about1 = true := code_word (m := ⟨9, 8⟩) (meth := k9m8) (c := k9c8) (by decide +kernel) rfl rfl rfl (by decide +kernel)
set_option maxRecDepth 65536 in
theorem w_c8 : (Jvm.Cond.code ({ cls := "java/lang/StringUTF16", name := "compress", desc := "([CI[BII)I" } : Jvm.MethodName) jdk_52_method_21_code (7 : Nat) (Option.some Jvm.ClassFile.FieldType.int)).before args0 about1 = true := code_word (m := ⟨9, 9⟩) (meth := k9m9) (c := k9c9) (by decide +kernel) rfl rfl rfl (by decide +kernel)
set_option maxRecDepth 65536 in
theorem w_c9 : (Jvm.Cond.code ({ cls := "java/lang/StringUTF16", name := "coderFromArrayLen", desc := "([BI)B" } : Jvm.MethodName) jdk_52_method_15_code (2 : Nat) (Option.some Jvm.ClassFile.FieldType.byte)).before args0 about1 = true := code_word (m := ⟨9, 7⟩) (meth := k9m7) (c := k9c7) (by decide +kernel) rfl rfl rfl (by decide +kernel)
set_option maxRecDepth 65536 in
theorem w_c10 : (Jvm.Cond.code ({ cls := "com/example/hazama/hazama/model/Letters", name := "isLetter", desc := "(Ljava/lang/String;)Z" } : Jvm.MethodName) prog_32_method_5_code (2 : Nat) (Option.some Jvm.ClassFile.FieldType.boolean)).before args0 about1 = true := code_word (m := ⟨2, 3⟩) (meth := k2m3) (c := k2c3) (by decide +kernel) rfl rfl rfl (by decide +kernel)
set_option maxRecDepth 65536 in
theorem w_c11 : (Jvm.Cond.code ({ cls := "java/lang/String", name := "isEmpty", desc := "()Z" } : Jvm.MethodName) jdk_42_method_55_code (1 : Nat) (Option.some Jvm.ClassFile.FieldType.boolean)).before args0 about1 = true := code_word (m := ⟨8, 3⟩) (meth := k8m3) (c := k8c3) (by decide +kernel) rfl rfl rfl (by decide +kernel)
set_option maxRecDepth 65536 in
theorem w_c12 : (Jvm.Cond.code ({ cls := "java/lang/String", name := "charAt", desc := "(I)C" } : Jvm.MethodName) jdk_42_method_56_code (2 : Nat) (Option.some Jvm.ClassFile.FieldType.char)).before args0 about1 = true := code_word (m := ⟨8, 4⟩) (meth := k8m4) (c := k8c4) (by decide +kernel) rfl rfl rfl (by decide +kernel)
set_option maxRecDepth 65536 in
theorem w_c13 : (Jvm.Cond.code ({ cls := "java/lang/String", name := "isLatin1", desc := "()Z" } : Jvm.MethodName) jdk_42_method_154_code (1 : Nat) (Option.some Jvm.ClassFile.FieldType.boolean)).before args0 about1 = true := code_word (m := ⟨8, 7⟩) (meth := k8m7) (c := k8c7) (by decide +kernel) rfl rfl rfl (by decide +kernel)
set_option maxRecDepth 65536 in
theorem w_c14 : (Jvm.Cond.code ({ cls := "java/lang/StringLatin1", name := "charAt", desc := "([BI)C" } : Jvm.MethodName) jdk_43_method_2_code (2 : Nat) (Option.some Jvm.ClassFile.FieldType.char)).before args0 about1 = true := code_word (m := ⟨10, 1⟩) (meth := k10m1) (c := k10c1) (by decide +kernel) rfl rfl rfl (by decide +kernel)
set_option maxRecDepth 65536 in
theorem w_c15 : (Jvm.Cond.code ({ cls := "java/lang/String", name := "checkIndex", desc := "(II)V" } : Jvm.MethodName) jdk_42_method_155_code (2 : Nat) (Option.none : Option Jvm.ClassFile.FieldType)).before args0 about1 = true := code_word (m := ⟨8, 8⟩) (meth := k8m8) (c := k8c8) (by decide +kernel) rfl rfl rfl (by decide +kernel)
set_option maxRecDepth 65536 in
theorem w_c16 : (Jvm.Cond.code ({ cls := "jdk/internal/util/Preconditions", name := "checkIndex", desc := "(IILjava/util/function/BiFunction;)I" } : Jvm.MethodName) jdk_41_method_11_code (3 : Nat) (Option.some Jvm.ClassFile.FieldType.int)).before args0 about1 = true := code_word (m := ⟨11, 1⟩) (meth := k11m1) (c := k11c1) (by decide +kernel) rfl rfl rfl (by decide +kernel)
set_option maxRecDepth 65536 in
theorem w_c17 : (Jvm.Cond.code ({ cls := "java/lang/String", name := "length", desc := "()I" } : Jvm.MethodName) jdk_42_method_54_code (1 : Nat) (Option.some Jvm.ClassFile.FieldType.int)).before args0 about1 = true := code_word (m := ⟨8, 2⟩) (meth := k8m2) (c := k8c2) (by decide +kernel) rfl rfl rfl (by decide +kernel)
set_option maxRecDepth 65536 in
theorem w_c18 : (Jvm.Cond.code ({ cls := "java/lang/String", name := "coder", desc := "()B" } : Jvm.MethodName) jdk_42_method_152_code (1 : Nat) (Option.some Jvm.ClassFile.FieldType.byte)).before args0 about1 = true := code_word (m := ⟨8, 6⟩) (meth := k8m6) (c := k8c6) (by decide +kernel) rfl rfl rfl (by decide +kernel)
set_option maxRecDepth 65536 in
theorem w_c19 : (Jvm.Cond.code ({ cls := "java/lang/StringUTF16", name := "toBytes", desc := "([CII)[B" } : Jvm.MethodName) jdk_52_method_14_code (5 : Nat) (Option.some (Jvm.ClassFile.FieldType.array Jvm.ClassFile.FieldType.byte))).before args0 about1 = true := code_word (m := ⟨9, 6⟩) (meth := k9m6) (c := k9c6) (by decide +kernel) rfl rfl rfl (by decide +kernel)
set_option maxRecDepth 65536 in
theorem w_c20 : (Jvm.Cond.code ({ cls := "java/lang/StringUTF16", name := "newBytesFor", desc := "(I)[B" } : Jvm.MethodName) jdk_52_method_2_code (1 : Nat) (Option.some (Jvm.ClassFile.FieldType.array Jvm.ClassFile.FieldType.byte))).before args0 about1 = true := code_word (m := ⟨9, 1⟩) (meth := k9m1) (c := k9c1) (by decide +kernel) rfl rfl rfl (by decide +kernel)
set_option maxRecDepth 65536 in
theorem w_c21 : (Jvm.Cond.code ({ cls := "java/lang/StringUTF16", name := "newBytesLength", desc := "(I)I" } : Jvm.MethodName) jdk_52_method_3_code (1 : Nat) (Option.some Jvm.ClassFile.FieldType.int)).before args0 about1 = true := code_word (m := ⟨9, 2⟩) (meth := k9m2) (c := k9c2) (by decide +kernel) rfl rfl rfl (by decide +kernel)
set_option maxRecDepth 65536 in
theorem w_c22 : (Jvm.Cond.code ({ cls := "java/lang/StringUTF16", name := "putChar", desc := "([BII)V" } : Jvm.MethodName) jdk_52_method_4_code (3 : Nat) (Option.none : Option Jvm.ClassFile.FieldType)).before args0 about1 = true := code_word (m := ⟨9, 3⟩) (meth := k9m3) (c := k9c3) (by decide +kernel) rfl rfl rfl (by decide +kernel)
set_option maxRecDepth 65536 in
theorem w_c23 : (Jvm.Cond.code ({ cls := "java/lang/StringUTF16", name := "getChar", desc := "([BI)C" } : Jvm.MethodName) jdk_52_method_5_code (2 : Nat) (Option.some Jvm.ClassFile.FieldType.char)).before args0 about1 = true := code_word (m := ⟨9, 4⟩) (meth := k9m4) (c := k9c4) (by decide +kernel) rfl rfl rfl (by decide +kernel)
set_option maxRecDepth 65536 in
theorem w_c24 : (Jvm.Cond.code ({ cls := "java/lang/StringUTF16", name := "charAt", desc := "([BI)C" } : Jvm.MethodName) jdk_52_method_83_code (2 : Nat) (Option.some Jvm.ClassFile.FieldType.char)).before args0 about1 = true := code_word (m := ⟨9, 10⟩) (meth := k9m10) (c := k9c10) (by decide +kernel) rfl rfl rfl (by decide +kernel)
set_option maxRecDepth 65536 in
theorem w_c25 : (Jvm.Cond.code ({ cls := "java/lang/StringUTF16", name := "checkIndex", desc := "(I[B)V" } : Jvm.MethodName) jdk_52_method_91_code (2 : Nat) (Option.none : Option Jvm.ClassFile.FieldType)).before args0 about1 = true := code_word (m := ⟨9, 11⟩) (meth := k9m11) (c := k9c11) (by decide +kernel) rfl rfl rfl (by decide +kernel)
set_option maxRecDepth 65536 in
theorem w_c26 : (Jvm.Cond.code ({ cls := "java/lang/StringUTF16", name := "length", desc := "([B)I" } : Jvm.MethodName) jdk_52_method_6_code (1 : Nat) (Option.some Jvm.ClassFile.FieldType.int)).before args0 about1 = true := code_word (m := ⟨9, 5⟩) (meth := k9m5) (c := k9c5) (by decide +kernel) rfl rfl rfl (by decide +kernel)
def codes1 : List Jvm.Cond := [Jvm.Cond.code x code maxLocals ret, Jvm.Cond.code ({ cls := "com/example/hazama/hazama/model/Letters", name := "isPart", desc := "(I)Z" } : Jvm.MethodName) prog_32_method_3_code (1 : Nat) (Option.some Jvm.ClassFile.FieldType.boolean), Jvm.Cond.code ({ cls := "com/example/hazama/hazama/model/Letters", name := "isStart", desc := "(I)Z" } : Jvm.MethodName) prog_32_method_2_code (1 : Nat) (Option.some Jvm.ClassFile.FieldType.boolean), Jvm.Cond.code ({ cls := "com/example/hazama/hazama/model/LettersIsPartPinLaw", name := "spec", desc := "(I)Z" } : Jvm.MethodName) method_2_code (4 : Nat) (Option.some Jvm.ClassFile.FieldType.boolean), Jvm.Cond.code ({ cls := "java/lang/String", name := "<init>", desc := "([C)V" } : Jvm.MethodName) jdk_42_method_3_code (2 : Nat) (Option.none : Option Jvm.ClassFile.FieldType), Jvm.Cond.code ({ cls := "java/lang/String", name := "<init>", desc := "([CIILjava/lang/Void;)V" } : Jvm.MethodName) jdk_42_method_149_code (6 : Nat) (Option.none : Option Jvm.ClassFile.FieldType), Jvm.Cond.code ({ cls := "java/lang/Object", name := "<init>", desc := "()V" } : Jvm.MethodName) object_method_1_code (1 : Nat) (Option.none : Option Jvm.ClassFile.FieldType), Jvm.Cond.code ({ cls := "java/lang/StringUTF16", name := "compress", desc := "([CII)[B" } : Jvm.MethodName) jdk_52_method_16_code (6 : Nat) (Option.some (Jvm.ClassFile.FieldType.array Jvm.ClassFile.FieldType.byte)), Jvm.Cond.code ({ cls := "java/lang/StringUTF16", name := "compress", desc := "([CI[BII)I" } : Jvm.MethodName) jdk_52_method_21_code (7 : Nat) (Option.some Jvm.ClassFile.FieldType.int), Jvm.Cond.code ({ cls := "java/lang/StringUTF16", name := "coderFromArrayLen", desc := "([BI)B" } : Jvm.MethodName) jdk_52_method_15_code (2 : Nat) (Option.some Jvm.ClassFile.FieldType.byte), Jvm.Cond.code ({ cls := "com/example/hazama/hazama/model/Letters", name := "isLetter", desc := "(Ljava/lang/String;)Z" } : Jvm.MethodName) prog_32_method_5_code (2 : Nat) (Option.some Jvm.ClassFile.FieldType.boolean), Jvm.Cond.code ({ cls := "java/lang/String", name := "isEmpty", desc := "()Z" } : Jvm.MethodName) jdk_42_method_55_code (1 : Nat) (Option.some Jvm.ClassFile.FieldType.boolean), Jvm.Cond.code ({ cls := "java/lang/String", name := "charAt", desc := "(I)C" } : Jvm.MethodName) jdk_42_method_56_code (2 : Nat) (Option.some Jvm.ClassFile.FieldType.char), Jvm.Cond.code ({ cls := "java/lang/String", name := "isLatin1", desc := "()Z" } : Jvm.MethodName) jdk_42_method_154_code (1 : Nat) (Option.some Jvm.ClassFile.FieldType.boolean), Jvm.Cond.code ({ cls := "java/lang/StringLatin1", name := "charAt", desc := "([BI)C" } : Jvm.MethodName) jdk_43_method_2_code (2 : Nat) (Option.some Jvm.ClassFile.FieldType.char), Jvm.Cond.code ({ cls := "java/lang/String", name := "checkIndex", desc := "(II)V" } : Jvm.MethodName) jdk_42_method_155_code (2 : Nat) (Option.none : Option Jvm.ClassFile.FieldType), Jvm.Cond.code ({ cls := "jdk/internal/util/Preconditions", name := "checkIndex", desc := "(IILjava/util/function/BiFunction;)I" } : Jvm.MethodName) jdk_41_method_11_code (3 : Nat) (Option.some Jvm.ClassFile.FieldType.int), Jvm.Cond.code ({ cls := "java/lang/String", name := "length", desc := "()I" } : Jvm.MethodName) jdk_42_method_54_code (1 : Nat) (Option.some Jvm.ClassFile.FieldType.int), Jvm.Cond.code ({ cls := "java/lang/String", name := "coder", desc := "()B" } : Jvm.MethodName) jdk_42_method_152_code (1 : Nat) (Option.some Jvm.ClassFile.FieldType.byte), Jvm.Cond.code ({ cls := "java/lang/StringUTF16", name := "toBytes", desc := "([CII)[B" } : Jvm.MethodName) jdk_52_method_14_code (5 : Nat) (Option.some (Jvm.ClassFile.FieldType.array Jvm.ClassFile.FieldType.byte)), Jvm.Cond.code ({ cls := "java/lang/StringUTF16", name := "newBytesFor", desc := "(I)[B" } : Jvm.MethodName) jdk_52_method_2_code (1 : Nat) (Option.some (Jvm.ClassFile.FieldType.array Jvm.ClassFile.FieldType.byte)), Jvm.Cond.code ({ cls := "java/lang/StringUTF16", name := "newBytesLength", desc := "(I)I" } : Jvm.MethodName) jdk_52_method_3_code (1 : Nat) (Option.some Jvm.ClassFile.FieldType.int), Jvm.Cond.code ({ cls := "java/lang/StringUTF16", name := "putChar", desc := "([BII)V" } : Jvm.MethodName) jdk_52_method_4_code (3 : Nat) (Option.none : Option Jvm.ClassFile.FieldType), Jvm.Cond.code ({ cls := "java/lang/StringUTF16", name := "getChar", desc := "([BI)C" } : Jvm.MethodName) jdk_52_method_5_code (2 : Nat) (Option.some Jvm.ClassFile.FieldType.char), Jvm.Cond.code ({ cls := "java/lang/StringUTF16", name := "charAt", desc := "([BI)C" } : Jvm.MethodName) jdk_52_method_83_code (2 : Nat) (Option.some Jvm.ClassFile.FieldType.char), Jvm.Cond.code ({ cls := "java/lang/StringUTF16", name := "checkIndex", desc := "(I[B)V" } : Jvm.MethodName) jdk_52_method_91_code (2 : Nat) (Option.none : Option Jvm.ClassFile.FieldType), Jvm.Cond.code ({ cls := "java/lang/StringUTF16", name := "length", desc := "([B)I" } : Jvm.MethodName) jdk_52_method_6_code (1 : Nat) (Option.some Jvm.ClassFile.FieldType.int)]
set_option maxRecDepth 65536 in
theorem codes_eq : words1.filter isCode = codes1 := rfl
theorem w_codes : ∀ c ∈ words1.filter isCode, c.before args0 about1 = true := by
  rw [codes_eq]
  intro c hc
  simp only [codes1, List.mem_cons, List.not_mem_nil, or_false] at hc
  rcases hc with rfl | rfl | rfl | rfl | rfl | rfl | rfl | rfl | rfl | rfl | rfl | rfl | rfl | rfl | rfl | rfl | rfl | rfl | rfl | rfl | rfl | rfl | rfl | rfl | rfl | rfl | rfl
  · exact w_c0
  · exact w_c1
  · exact w_c2
  · exact w_c3
  · exact w_c4
  · exact w_c5
  · exact w_c6
  · exact w_c7
  · exact w_c8
  · exact w_c9
  · exact w_c10
  · exact w_c11
  · exact w_c12
  · exact w_c13
  · exact w_c14
  · exact w_c15
  · exact w_c16
  · exact w_c17
  · exact w_c18
  · exact w_c19
  · exact w_c20
  · exact w_c21
  · exact w_c22
  · exact w_c23
  · exact w_c24
  · exact w_c25
  · exact w_c26
set_option maxRecDepth 65536 in
theorem w_t1 : (words1.take 24).all (fun c => isCode c || c.before args0 about1) = true := by decide +kernel
set_option maxRecDepth 65536 in
theorem w_t2 : ((words1.drop 24).take 24).all (fun c => isCode c || c.before args0 about1) = true := by decide +kernel
set_option maxRecDepth 65536 in
theorem w_t3 : (((words1.drop 24).drop 24).take 24).all (fun c => isCode c || c.before args0 about1) = true := by decide +kernel
set_option maxRecDepth 65536 in
theorem w_t4 : ((((words1.drop 24).drop 24).drop 24).take 24).all (fun c => isCode c || c.before args0 about1) = true := by decide +kernel
set_option maxRecDepth 65536 in
theorem w_t5 : ((((words1.drop 24).drop 24).drop 24).drop 24).all (fun c => isCode c || c.before args0 about1) = true := by decide +kernel
theorem w_tables : (allAtoms (Jvm.Cond.code x code maxLocals ret :: tables_1)).before args0 about1 = true := by
  rw [allAtoms_all]
  show words1.all (fun c => c.before args0 about1) = true
  refine all_split ?_ w_codes
  rw [← List.take_append_drop 24 words1, List.all_append, w_t1, ← List.take_append_drop 24 (words1.drop 24), List.all_append, w_t2, ← List.take_append_drop 24 ((words1.drop 24).drop 24), List.all_append, w_t3, ← List.take_append_drop 24 (((words1.drop 24).drop 24).drop 24), List.all_append, w_t4, w_t5]
  rfl
set_option maxRecDepth 65536 in
theorem w_rest : rest_1_c.before args0 about1 = true := by decide +kernel
set_option maxRecDepth 65536 in
theorem w_case : (Jvm.Cond.and given_1 narrow_1).before args0 about1 = true := by decide +kernel
theorem w_applies : (headSpec (Jvm.Cond.code x code maxLocals ret :: tables_1) room_1).applies x e0.platform about1 = true :=
  (Spec.applies_iff w_frames).mpr ⟨w_running, w_runnable, w_alone, w_named, w_hears, w_ripe, w_room, w_tables⟩
theorem atStart : AtStart classFile x code maxLocals ret World_1 tables_1 room_1 Calls_1 rest_1 Pre_1 launch0 p0 e0 about1 theMethod args0 below0 :=
  ⟨lists_1, trivial, launch0.admits_env _ _ _, launch0.least_env, fairChoices_fair.cas, fairChoices_fair.clock, w_frames, w_args, w_heap, w_applies, trivial, w_rest, w_case⟩
end start1
theorem witness_1 : WitnessClaimed_1 := ⟨start1.p0, start1.e0, start1.about1, start1.theMethod, start1.args0, start1.below0, start1.atStart⟩
end Jvm.Pilot.@@N@@
