import JvmDerived
import JvmDerived.Pilot.@@N@@Statement
import JvmDerived.Pilot.@@N@@Code
set_option linter.unusedVariables false
set_option linter.unusedSimpArgs false
namespace Jvm.OwnW
open Sem ClassFile Op Lib Jvm.Stand Jvm.Free Jvm.LawKit Jvm.RoadKit
theorem adr_ne {a b : Nat} (h : a < b ∨ b < a) : @Ne Addr a b := fun z => by
  have z : @Eq Nat a b := z
  omega
/-- what was written lies in one of 'ws' or is new -/
def Fw (ws : List Addr) (N : Nat) (L : List Loc) : Prop := ∀ y ∈ L, y.base ∈ ws ∨ N ≤ y.base
theorem Fw.nil (ws : List Addr) (N : Nat) : Fw ws N [] := fun _ q => nomatch q
theorem Fw.app {ws : List Addr} {N : Nat} {L L' : List Loc} (A : Fw ws N L) (B : Fw ws N L') : Fw ws N (L ++ L') := fun y q => (List.mem_append.mp q).elim (A y) (B y)
theorem Fw.snoc {ws : List Addr} {N : Nat} {L : List Loc} {a : Addr} {sl : Nat} (A : Fw ws N L) (q : a ∈ ws ∨ N ≤ a) : Fw ws N (L ++ [⟨a, sl⟩]) := A.app fun y hy => by cases List.mem_singleton.mp hy; exact q
/-- where a walk stands: what was written is new, the heap, the figures within the room -/
def Pos (p : Program) (l : Launch) (e : Env) (R : Room) (s : State) (m : MethodId) (args : Array Value) (below : List Frame) (meth : Method) (c : Code) (Z : State) (own : String) (ws : List Addr) (bd : Nat) (T : State) (h : Heap) (k n : Nat) : Prop :=
  (∃ locs, Stand p l e R s m args below meth c T locs k n ∧ Fw ws bd locs) ∧ T.heap = h ∧ bd ≤ h.size ∧ Z.Warmed39 s.vm ∧ p.tables.exec = Jvm.exec ∧ s.vm.findClass own = some m.cls ∧ meth.locks = false ∧ k ≤ R.cells ∧ n ≤ R.slots
/-- the walk that stands at the frame g in T comes to its return, and Q holds of what it returns and of the heap it leaves -/
def Done (p : Program) (l : Launch) (e : Env) (R : Room) (s : State) (m : MethodId) (args : Array Value) (below : List Frame) (meth : Method) (c : Code) (Z : State) (own : String) (ws : List Addr) (bd : Nat) (Q : Option Value → Heap → Prop) (T : State) (g : JFrame) : Prop :=
  ∃ v T' h' k n, Pos p l e R s m args below meth c Z own ws bd T' h' k n ∧ (meth.sig.returnType = none → v = none) ∧ Q v h' ∧
    ∀ fs, (∀ (f : JFrame) (acts : List Action), f.method = m → f.locked = none → f.entered = [] → (doReturn e (T'.setTop f) acts v).1 = T'.setFrames fs) → Steps p.tables e below (T.setTop g) (T'.setFrames fs)
/-- a method's contract, asked at one heap and one row of arguments; it writes what lies in 'ws' and what it makes, alone -/
def OMet (l : Launch) (y : MethodName) (bytes : ByteArray) (maxL : Nat) (ret : Option FieldType) (wd : List Cond) (rm : Room) (Z : State) (h : Heap) (ws : List Addr) (as' : Array Value) (Q : Option Value → Heap → Prop) : Prop :=
  MetFree l y (head1 (Cond.code y bytes maxL ret :: wd) rm) (fun a U => a = as' ∧ Z.Warmed39 U.vm ∧ U.heap = h) (fun _ _ _ _ _ => True) (fun _ U o U' => ∃ v L, o = .returned v ∧ (Q v U'.heap ∧ Fw ws h.size L ∧ Keep h U'.heap ws) ∧ FrameEnd U o U' L rm.cells rm.slots)
section A
variable {p : Program} {l : Launch} {e : Env} {R : Room} {s : State} {m : MethodId} {args : Array Value} {below : List Frame} {meth : Method} {c : Code} {Z : State} {own : String} {ws : List Addr} {bd : Nat} {T : State} {h h' : Heap} {k n : Nat} {a0 : Array Value} {Q : Option Value → Heap → Prop} {pc pc' : Nat} {Ls : Array Slot} {st : List Value} {T₁ : State} {g₁ : JFrame}
theorem Pos.here (P : Pos p l e R s m args below meth c Z own ws bd T h k n) : At T m c below := by obtain ⟨⟨_, X, _⟩, _⟩ := P; exact X.here
theorem Pos.x (P : Pos p l e R s m args below meth c Z own ws bd T h k n) : p.tables.exec = Jvm.exec := P.2.2.2.2.1
theorem Pos.ge (P : Pos p l e R s m args below meth c Z own ws bd T h k n) : bd ≤ h.size := P.2.2.1
theorem Pos.wa (P : Pos p l e R s m args below meth c Z own ws bd T h k n) : Z.Warmed39 s.vm := P.2.2.2.1
theorem Pos.more (P : Pos p l e R s m args below meth c Z own ws bd T h k n) {k' n' : Nat} (hk : k ≤ k') (hn : n ≤ n') (hk' : k' ≤ R.cells) (hn' : n' ≤ R.slots) : Pos p l e R s m args below meth c Z own ws bd T h k' n' := by
  obtain ⟨⟨L, X, N'⟩, a, b, c, d, f, g, _, _⟩ := P
  exact ⟨⟨L, X.more hk hn, N'⟩, a, b, c, d, f, g, hk', hn'⟩
theorem Pos.cast {k' n' : Nat} (P : Pos p l e R s m args below meth c Z own ws bd T h k n) (hk : k = k') (hn : n = n') : Pos p l e R s m args below meth c Z own ws bd T h k' n' := by subst hk hn; exact P
theorem Done.step {T' : State} {g g' : JFrame} (hs : ∀ t, Steps p.tables e below (T'.setTop g') t → Steps p.tables e below (T.setTop g) t) (D : Done p l e R s m args below meth c Z own ws bd Q T' g') : Done p l e R s m args below meth c Z own ws bd Q T g := by
  obtain ⟨v, T1, h1, k1, n1, P, hv, hq, st⟩ := D
  exact ⟨v, T1, h1, k1, n1, P, hv, hq, fun fs hl => hs _ (st fs hl)⟩
theorem Done.stepL {st' : List Value} (hs : ∀ t, Steps p.tables e below (T.setTop (mkF m pc' Ls st')) t → Steps p.tables e below (T.setTop (mkF m pc Ls st)) t) (D : Done p l e R s m args below meth c Z own ws bd Q T (mkF m pc' Ls st')) : Done p l e R s m args below meth c Z own ws bd Q T (mkF m pc Ls st) := Done.step hs D
theorem Done.imp {Q' : Option Value → Heap → Prop} {g : JFrame} (D : Done p l e R s m args below meth c Z own ws bd Q T g) (q : ∀ v h, Q v h → Q' v h) : Done p l e R s m args below meth c Z own ws bd Q' T g := by
  obtain ⟨v, T1, h1, k1, n1, P, hv, hq, st⟩ := D
  exact ⟨v, T1, h1, k1, n1, P, hv, q _ _ hq, st⟩
theorem keepOf {u : State} {L : List Loc} (q : s.sameButNew u L k n) (F : Fw ws s.heap.size L) : Keep s.heap u.heap ws := by
  obtain ⟨-, h1, -, -, -, H⟩ := q
  refine ⟨h1, fun x cl hx hn => ?_, fun x cl hx => ?_⟩
  · obtain ⟨c', e1, e2, e3, e4⟩ := H x cl hx
    have hlt := (Array.getElem?_eq_some_iff.mp hx).1
    have es : c'.slots = cl.slots := by
      apply Array.ext_getElem?
      intro i
      exact e4 i fun hm => (F _ hm).elim (fun z => hn z) (fun z => absurd z (Nat.not_le.mpr hlt))
    rw [e1, e2, es]
  · obtain ⟨c', e1, e2, e3, e4⟩ := H x cl hx
    exact ⟨c', e1, by rw [e2], by rw [e2], e3⟩
/-- a contract out of a walk -/
theorem OMet.of {y : MethodName} {bytes : ByteArray} {maxL : Nat} {ret : Option FieldType} {wd : List Cond} {rm : Room} {as' : Array Value} {nm : String} (hy : plainFor y = true) (hyc : y.cls = own) (hyn : y.name = nm)
    (H : ∀ p e s m below meth c s₁, Pos p l e rm s m as' below meth c Z own ws h.size s₁ h 0 0 → c.code = bytes → c.maxLocals = maxL → meth.sig.returnType = ret → meth.name = nm → Done p l e rm s m as' below meth c Z own ws h.size Q s₁ (entryFrame m as' maxL)) :
    OMet l y bytes maxL ret wd rm Z h ws as' Q := by
  subst hyc hyn
  refine MetFree.of_bodySF hy hisR ?_
  intro p e s m args below meth c s₁ Bd hml hP hK
  obtain ⟨rfl, hZ, hh⟩ := hP
  have hown : s.vm.findClass y.cls = some m.cls := findClass_of_methodNamed Bd.named
  have hnm := (name_of_methodNamed Bd.named Bd.method).1
  have X0 : Stand p l e rm s m args below meth c s₁ [] 0 0 := Stand.of_body Bd
  have e0 : s₁.heap = h := by rw [← hh, Bd.state]; rfl
  obtain ⟨v, T', h', k, n, ⟨⟨L, X, N⟩, eT, _, _, _, _, hlk, hk, hnn⟩, hv, hq, st⟩ := H p e s m below meth c s₁ ⟨⟨[], X0, Fw.nil _ _⟩, e0, Nat.le_refl _, hZ, Bd.exec, hown, Bd.notSynchronized, Nat.zero_le _, Nat.zero_le _⟩ Bd.bytes hml Bd.returns hnm
  obtain ⟨fs, hr, hrun, hended, hW, hsame⟩ := X.leave (v := v) hv hlk
  refine ⟨_, _, st fs hr, hrun, hended, v, L, rfl, ⟨?_, N, ?_⟩, ⟨_, rfl⟩, hW, hsame.mono hk hnn⟩
  · rw [show (T'.setFrames fs).heap = T'.heap from rfl, eT]
    exact hq
  · subst hh
    have q := keepOf hsame N
    exact q
/-! returns -/
theorem wRet {w : Value} {t : FieldType} {i : Instr} (P : Pos p l e R s m args below meth c Z own ws bd T h k n) (hret : meth.sig.returnType = some t) (hn : narrow t w = w)
    (hi : (i = .ireturn ∧ (t = .int ∨ t = .boolean ∨ t = .byte ∨ t = .char ∨ t = .short) ∧ ∃ z, w = .int z) ∨ (i = .lreturn ∧ t = .long ∧ ∃ z, w = .long z) ∨ (i = .dreturn ∧ t = .double ∧ ∃ z, w = .double z) ∨ (i = .freturn ∧ t = .float ∧ ∃ z, w = .float z) ∨ (i = .areturn ∧ t.isReference = true ∧ w.isRef = true))
    (hd : decode c.code pc = .ok (i, 1)) (hq : Q (some w) h) : Done p l e R s m args below meth c Z own ws bd Q T (mkF m pc Ls (w :: st)) := by
  obtain ⟨⟨L, X, N'⟩, r⟩ := id P
  exact ⟨some w, T, h, k, n, P, (fun q => by rw [hret] at q; cases q), hq, fun fs hl => retOut X P.x hret hn hi hd hl⟩
theorem wRetI {z : Int32} (P : Pos p l e R s m args below meth c Z own ws bd T h k n) (hret : meth.sig.returnType = some .int) (hd : decode c.code pc = .ok (.ireturn, 1)) (hq : Q (some (.int z)) h) : Done p l e R s m args below meth c Z own ws bd Q T (mkF m pc Ls (.int z :: st)) :=
  wRet P hret rfl (Or.inl ⟨rfl, Or.inl rfl, z, rfl⟩) hd hq
theorem wRetJ {z : Int64} (P : Pos p l e R s m args below meth c Z own ws bd T h k n) (hret : meth.sig.returnType = some .long) (hd : decode c.code pc = .ok (.lreturn, 1)) (hq : Q (some (.long z)) h) : Done p l e R s m args below meth c Z own ws bd Q T (mkF m pc Ls (.long z :: st)) :=
  wRet P hret rfl (Or.inr (Or.inl ⟨rfl, rfl, z, rfl⟩)) hd hq
theorem wRetD {z : UInt64} (P : Pos p l e R s m args below meth c Z own ws bd T h k n) (hret : meth.sig.returnType = some .double) (hd : decode c.code pc = .ok (.dreturn, 1)) (hq : Q (some (.double z)) h) : Done p l e R s m args below meth c Z own ws bd Q T (mkF m pc Ls (.double z :: st)) :=
  wRet P hret rfl (Or.inr (Or.inr (Or.inl ⟨rfl, rfl, z, rfl⟩))) hd hq
theorem wRetA {w : Value} {t : FieldType} (P : Pos p l e R s m args below meth c Z own ws bd T h k n) (hret : meth.sig.returnType = some t) (ht : t.isReference = true) (hw : w.isRef = true) (hd : decode c.code pc = .ok (.areturn, 1)) (hq : Q (some w) h) : Done p l e R s m args below meth c Z own ws bd Q T (mkF m pc Ls (w :: st)) :=
  wRet P hret (by cases w <;> first | rfl | (simp [Value.isRef] at hw; done) | (cases t <;> first | rfl | (simp [FieldType.isReference] at ht))) (Or.inr (Or.inr (Or.inr (Or.inr ⟨rfl, ht, hw⟩)))) hd hq
theorem wRetN {z : Int32} {t : FieldType} (P : Pos p l e R s m args below meth c Z own ws bd T h k n) (hret : meth.sig.returnType = some t) (ht : t = .boolean ∨ t = .byte ∨ t = .char ∨ t = .short) (hd : decode c.code pc = .ok (.ireturn, 1)) (hq : Q (some (.int (nar t z))) h) : Done p l e R s m args below meth c Z own ws bd Q T (mkF m pc Ls (.int z :: st)) := by
  obtain ⟨⟨L, X, N'⟩, r⟩ := id P
  exact ⟨_, T, h, k, n, P, (fun q => by rw [hret] at q; cases q), hq, fun fs hl => retN X P.x hret ht hd hl⟩
theorem wRetV (P : Pos p l e R s m args below meth c Z own ws bd T h k n) (hret : meth.sig.returnType = none) (hd : decode c.code pc = .ok (.return_, 1)) (hq : Q none h) : Done p l e R s m args below meth c Z own ws bd Q T (mkF m pc Ls []) := by
  obtain ⟨⟨L, X, N'⟩, r⟩ := id P
  exact ⟨none, T, h, k, n, P, fun _ => rfl, hq, fun fs hl => X.returnOut P.x hret hd hl⟩
/-! fields -/
theorem wGet {R0 O nm d host : String} {index : Nat} {a : Addr} {v : Value} (P : Pos p l e R s m args below meth c Z own ws bd T h k n) (w : (Cond.fieldLink own index R0 nm d).before a0 Z = true ∨ (Cond.fieldLinkNest own index R0 nm d host).before a0 Z = true) (via : Via Z R0 O nm d) (F : Fld Z h a O nm d v)
    (hd : decode c.code pc = .ok (.getfield index, 3)) (hp : pc + 3 = pc') (K : ∀ T', Pos p l e R s m args below meth c Z own ws bd T' h k n → Done p l e R s m args below meth c Z own ws bd Q T' (mkF m pc' Ls (v :: st))) : Done p l e R s m args below meth c Z own ws bd Q T (mkF m pc Ls (.ref a :: st)) := by
  obtain ⟨⟨L, X, N'⟩, eT, b, hZ, hx, ho, r⟩ := id P
  obtain ⟨T', X', e', stp⟩ := getF X hx hZ ho w via eT F (g := mkF m pc Ls (.ref a :: st)) rfl rfl hd
  subst hp
  exact Done.step stp (K T' ⟨⟨L, X', N'⟩, e', b, hZ, hx, ho, r⟩)
theorem wGetS {R0 O nm d host : String} {index : Nat} {v : Value} (P : Pos p l e R s m args below meth c Z own ws bd T h k n) (w : (Cond.fieldLink own index R0 nm d).before a0 Z = true ∨ (Cond.fieldLinkNest own index R0 nm d host).before a0 Z = true) (via : Via Z R0 O nm d) (F : Sta Z h O nm d v)
    (hd : decode c.code pc = .ok (.getstatic index, 3)) (hp : pc + 3 = pc') (K : ∀ T', Pos p l e R s m args below meth c Z own ws bd T' h k n → Done p l e R s m args below meth c Z own ws bd Q T' (mkF m pc' Ls (v :: st))) : Done p l e R s m args below meth c Z own ws bd Q T (mkF m pc Ls st) := by
  obtain ⟨⟨L, X, N'⟩, eT, b, hZ, hx, ho, r⟩ := id P
  obtain ⟨T', X', e', stp⟩ := getS2 X hx hZ ho w via eT F (g := mkF m pc Ls st) rfl hd
  subst hp
  exact Done.step stp (K T' ⟨⟨L, X', N'⟩, e', b, hZ, hx, ho, r⟩)
theorem wPut {R0 O nm d host C : String} {index kk : Nat} {ty : FieldType} {a : Addr} {v old : Value} (P : Pos p l e R s m args below meth c Z own ws bd T h k n) (w : (Cond.fieldLink own index R0 nm d).before a0 Z = true ∨ (Cond.fieldLinkNest own index R0 nm d host).before a0 Z = true) (via : Via Z R0 O nm d) (F : Fld Z h a O nm d old) (E : Exa Z h a C)
    (La : (Cond.lays C O nm d).before a0 Z = true ∨ ((Cond.laysFinal C O nm d).before a0 Z = true ∧ own = O ∧ meth.name = "<init>")) (wi : (Cond.instantiable C kk).before a0 Z = true) (hty : parseFieldDescriptor d = some ty) (hn : narrow ty v = v) (hf : fits ty v = true) (hge : a ∈ ws ∨ bd ≤ a)
    (hd : decode c.code pc = .ok (.putfield index, 3)) (hp : pc + 3 = pc') (K : ∀ T' h', Pos p l e R s m args below meth c Z own ws bd T' h' k n → Wr h h' a (Jvm.RoadKit.slotOf Z O nm d) v → Fld Z h' a O nm d v → Done p l e R s m args below meth c Z own ws bd Q T' (mkF m pc' Ls st)) : Done p l e R s m args below meth c Z own ws bd Q T (mkF m pc Ls (v :: .ref a :: st)) := by
  obtain ⟨⟨L, X, N'⟩, eT, b, hZ, hx, ho, r⟩ := id P
  obtain ⟨T', h', X', e', W, stp⟩ := putF X hx hZ ho w via eT F E La wi hty hn hf (g := mkF m pc Ls (v :: .ref a :: st)) rfl rfl hd
  subst hp
  exact Done.step stp (K T' h' ⟨⟨_, X', Fw.snoc N' hge⟩, e', by rw [W.size]; exact b, hZ, hx, ho, r⟩ W (F.same W))
theorem wPutN {R0 O nm d C : String} {index kk : Nat} {ty : FieldType} {a : Addr} {x x' : Int32} {old : Value} (P : Pos p l e R s m args below meth c Z own ws bd T h k n) (w : (Cond.fieldLink own index R0 nm d).before a0 Z = true) (via : Via Z R0 O nm d) (F : Fld Z h a O nm d old) (E : Exa Z h a C)
    (La : (Cond.lays C O nm d).before a0 Z = true ∨ ((Cond.laysFinal C O nm d).before a0 Z = true ∧ own = O ∧ meth.name = "<init>")) (wi : (Cond.instantiable C kk).before a0 Z = true) (hty : parseFieldDescriptor d = some ty) (hn : narrow ty (.int x) = .int x') (hf : fits ty (.int x') = true) (hge : a ∈ ws ∨ bd ≤ a)
    (hd : decode c.code pc = .ok (.putfield index, 3)) (hp : pc + 3 = pc') (K : ∀ T' h', Pos p l e R s m args below meth c Z own ws bd T' h' k n → Wr h h' a (Jvm.RoadKit.slotOf Z O nm d) (.int x') → Fld Z h' a O nm d (.int x') → Done p l e R s m args below meth c Z own ws bd Q T' (mkF m pc' Ls st)) : Done p l e R s m args below meth c Z own ws bd Q T (mkF m pc Ls (.int x :: .ref a :: st)) := by
  obtain ⟨⟨L, X, N'⟩, eT, b, hZ, hx, ho, r⟩ := id P
  obtain ⟨T', h', X', e', W, stp⟩ := putFN X hx hZ ho w via eT F E La wi (v' := .int x') hty hn hf (g := mkF m pc Ls (.int x :: .ref a :: st)) rfl rfl hd
  subst hp
  exact Done.step stp (K T' h' ⟨⟨_, X', Fw.snoc N' hge⟩, e', by rw [W.size]; exact b, hZ, hx, ho, r⟩ W (F.same W))
/-! objects and arrays -/
theorem wNew {C : String} {index nn : Nat} (P : Pos p l e R s m args below meth c Z own ws bd T h k n) (w : (Cond.classLink own index C).before a0 Z = true) (wi : (Cond.instantiable C nn).before a0 Z = true) (wz : (Cond.initialized C).before a0 Z = true)
    (hd : decode c.code pc = .ok (.new index, 3)) (hp : pc + 3 = pc') (hc : k + 1 ≤ R.cells) (hl : n + nn ≤ R.slots) {k' n' : Nat} (hk' : k + 1 = k') (hn' : n + nn = n')
    (K : ∀ T' h' a, a = h.size → h.size < h'.size → Pos p l e R s m args below meth c Z own ws bd T' h' k' n' → Ext h h' → Exa Z h' a C → (∀ {O nm d : String} {ty : FieldType}, Laid Z a0 C O nm d → parseFieldDescriptor d = some ty → Fld Z h' a O nm d (defaultValue ty)) → Done p l e R s m args below meth c Z own ws bd Q T' (mkF m pc' Ls (.ref a :: st))) : Done p l e R s m args below meth c Z own ws bd Q T (mkF m pc Ls st) := by
  obtain ⟨⟨L, X, N'⟩, eT, b, hZ, hx, ho, hlk, _, _⟩ := id P
  obtain ⟨T', h', X', e', E, A, D, -, stp⟩ := newO X hx hZ ho w wi wz eT (g := mkF m pc Ls st) rfl hd hc hl
  subst hp hk' hn'
  exact Done.step stp (K T' h' h.size rfl A.lt ⟨⟨L, X', N'⟩, e', Nat.le_trans b E.1, hZ, hx, ho, hlk, hc, hl⟩ E A D)
/-- an array by its places' values -/
def Ar (Z : State) (h : Heap) (a : Addr) (ty : FieldType) (n : Nat) (f : Nat → Value) : Prop := ∃ cl : Cell, Arr Z h a cl ty ∧ cl.slots.size = n ∧ n < 2147483648 ∧ ∀ i, i < n → cl.slots[i]? = some (f i)
def oupd {α : Type} (f : Nat → α) (i : Nat) (v : α) : Nat → α := fun j => if j = i then v else f j
theorem oupd_same {α : Type} (f : Nat → α) (i : Nat) (v : α) : oupd f i v i = v := if_pos rfl
theorem oupd_ne {α : Type} {f : Nat → α} {i j : Nat} {v : α} (q : j ≠ i) : oupd f i v j = f j := if_neg q
theorem Ar.lt {a : Addr} {ty : FieldType} {N : Nat} {f : Nat → Value} (A : Ar Z h a ty N f) : a < h.size := by obtain ⟨c, A, -⟩ := A; exact A.lt
theorem Ar.ltN {a : Addr} {ty : FieldType} {N : Nat} {f : Nat → Value} (A : Ar Z h a ty N f) : @LT.lt Nat instLTNat a h.size := A.lt
theorem exaN {a : Addr} {C : String} (E : Exa Z h a C) : @LT.lt Nat instLTNat a h.size := E.lt
theorem Ar.ext {a : Addr} {ty : FieldType} {N : Nat} {f : Nat → Value} (A : Ar Z h a ty N f) (E : Ext h h') : Ar Z h' a ty N f := by obtain ⟨c, A, r⟩ := A; exact ⟨c, A.ext E, r⟩
theorem Ar.other {a b : Addr} {sl : Nat} {v : Value} {ty : FieldType} {N : Nat} {f : Nat → Value} (A : Ar Z h b ty N f) (W : Wr h h' a sl v) (q : b ≠ a) : Ar Z h' b ty N f := by obtain ⟨c, A, r⟩ := A; exact ⟨c, A.other W q, r⟩
theorem Ar.keep {a : Addr} {ws : List Addr} {ty : FieldType} {N : Nat} {f : Nat → Value} (A : Ar Z h a ty N f) (K : Keep h h' ws) (q : a ∉ ws) : Ar Z h' a ty N f := by obtain ⟨c, A, r⟩ := A; exact ⟨c, ⟨K.2.1 a c A.1 q, A.2⟩, r⟩
theorem Ar.len {a : Addr} {ty : FieldType} {N : Nat} {f : Nat → Value} (A : Ar Z h a ty N f) : N < 2147483648 := by obtain ⟨c, A, r1, r2, -⟩ := A; exact r2
theorem Ar.congr {a : Addr} {ty : FieldType} {N : Nat} {f g : Nat → Value} (A : Ar Z h a ty N f) (q : ∀ i, i < N → f i = g i) : Ar Z h a ty N g := by obtain ⟨c, A, r1, r2, r3⟩ := A; exact ⟨c, A, r1, r2, fun i hi => by rw [← q i hi]; exact r3 i hi⟩
theorem in_of {cl : Cell} {N i : Nat} {j : Int32} (S : cl.slots.size = N) (hj : j.toInt = (i : Int)) (hi : i < N) : ¬ (j < 0 ∨ cl.slots.size ≤ j.toNatClampNeg) ∧ j.toNatClampNeg = i := by
  have e : j.toNatClampNeg = i := by rw [Int32.toNatClampNeg, hj]; omega
  refine ⟨?_, e⟩
  rw [S, e, Int32.lt_iff_toInt_lt, hj, show (0 : Int32).toInt = 0 from rfl]
  omega
theorem toI32 {N : Nat} (h : N < 2147483648) : (N.toInt32).toInt = (N : Int) := by
  rw [show N.toInt32 = Int32.ofNat N from rfl, Int32.toInt_ofNat_of_lt (by omega)]
theorem wNewA {aty : ArrayType} {z : Int32} {N cap : Nat} (P : Pos p l e R s m args below meth c Z own ws bd T h k n) (w : (Cond.arrayClass (newarray.typeOf aty)).before a0 Z = true) (hd : decode c.code pc = .ok (.newarray aty, 2)) (hp : pc + 2 = pc') (hz : z.toInt = (N : Int)) (hcap : N ≤ cap) (hb : cap * 8 ≤ 536870912) (hc : k + 1 ≤ R.cells) (hl : n + cap ≤ R.slots)
    {ad : String} (had : "[" ++ (newarray.typeOf aty).toString = ad) {ty : FieldType} {dv : Value} (hty : newarray.typeOf aty = ty) (hdv : defaultValue ty = dv) {k' n' : Nat} (hk' : k + 1 = k') (hn' : n + cap = n')
    (K : ∀ T' h' a, a = h.size → h.size < h'.size → Pos p l e R s m args below meth c Z own ws bd T' h' k' n' → Ext h h' → Ar Z h' a ty N (fun _ => dv) → Exa Z h' a ad → Done p l e R s m args below meth c Z own ws bd Q T' (mkF m pc' Ls (.ref a :: st))) : Done p l e R s m args below meth c Z own ws bd Q T (mkF m pc Ls (.int z :: st)) := by
  obtain ⟨⟨L, X, N'⟩, eT, b, hZ, hx, ho, hlk, _, _⟩ := id P
  have hz0 : ¬ z < 0 := by rw [Int32.lt_iff_toInt_lt, hz, show (0 : Int32).toInt = 0 from rfl]; omega
  have hzn : z.toNatClampNeg = N := by rw [Int32.toNatClampNeg, hz]; omega
  have hN := z.toInt_lt
  obtain ⟨T', h', kA, X', e', E, A, Ex, stp⟩ := newPE X hx hZ w eT (g := mkF m pc Ls (.int z :: st)) rfl hd rfl hz0 (by rw [hzn]; exact hcap) hb hc hl had
  subst hp hk' hn' hty hdv
  refine Done.step stp (K T' h' h.size rfl A.lt ⟨⟨L, X', N'⟩, e', Nat.le_trans b E.1, hZ, hx, ho, hlk, hc, hl⟩ E ⟨_, A, by rw [sz_new, hzn], by omega, fun i hi => ?_⟩ Ex)
  simp [newA, hzn, hi]
theorem wLen {ty : FieldType} {N : Nat} {f : Nat → Value} {a : Addr} (P : Pos p l e R s m args below meth c Z own ws bd T h k n) (A : Ar Z h a ty N f) {z : Int32} (hz : z.toInt = (N : Int)) (hd : decode c.code pc = .ok (.arraylength, 1)) (hp : pc + 1 = pc')
    (K : Done p l e R s m args below meth c Z own ws bd Q T (mkF m pc' Ls (.int z :: st))) : Done p l e R s m args below meth c Z own ws bd Q T (mkF m pc Ls (.ref a :: st)) := by
  obtain ⟨⟨L, X, N'⟩, eT, b, hZ, hx, ho, hlk, _, _⟩ := id P
  obtain ⟨cl, Ar, S, hN, H⟩ := A
  subst hp
  refine Done.step (fun t kk => X.arraylength hx (by rw [eT]; exact Ar.1) (State.isArrayOf_alike hZ.alike Ar.2.1) (g := mkF m pc Ls (.ref a :: st)) rfl rfl hd t ?_) K
  rw [S, show N.toInt32 = z from Int32.toInt_inj.mp (by rw [toI32 hN, hz])]
  exact kk
theorem wDaload {N i : Nat} {f : Nat → Value} {a : Addr} {j : Int32} (P : Pos p l e R s m args below meth c Z own ws bd T h k n) (A : Ar Z h a .double N f) (hj : j.toInt = (i : Int)) (hi : i < N) {v : Value} (hv : f i = v) (hd : decode c.code pc = .ok (.daload, 1)) (hp : pc + 1 = pc')
    (K : Done p l e R s m args below meth c Z own ws bd Q T (mkF m pc' Ls (v :: st))) : Done p l e R s m args below meth c Z own ws bd Q T (mkF m pc Ls (.int j :: .ref a :: st)) := by
  obtain ⟨⟨L, X, N'⟩, eT, b, hZ, hx, ho, hlk, _, _⟩ := id P
  obtain ⟨cl, Ar, S, hN, H⟩ := A
  obtain ⟨q1, q2⟩ := in_of S hj hi
  subst hp hv
  exact Done.step (fun t kk => X.daload hx (by rw [eT]; exact Ar.1) (State.isArrayOf_alike hZ.alike Ar.2.1) Ar.2.2 q1 (by rw [q2]; exact H i hi) (g := mkF m pc Ls (.int j :: .ref a :: st)) rfl rfl hd t kk) K
theorem wIaload {N i : Nat} {f : Nat → Value} {a : Addr} {j : Int32} (P : Pos p l e R s m args below meth c Z own ws bd T h k n) (A : Ar Z h a .int N f) (hj : j.toInt = (i : Int)) (hi : i < N) {v : Value} (hv : f i = v) (hd : decode c.code pc = .ok (.iaload, 1)) (hp : pc + 1 = pc')
    (K : Done p l e R s m args below meth c Z own ws bd Q T (mkF m pc' Ls (v :: st))) : Done p l e R s m args below meth c Z own ws bd Q T (mkF m pc Ls (.int j :: .ref a :: st)) := by
  obtain ⟨⟨L, X, N'⟩, eT, b, hZ, hx, ho, hlk, _, _⟩ := id P
  obtain ⟨cl, Ar, S, hN, H⟩ := A
  obtain ⟨q1, q2⟩ := in_of S hj hi
  subst hp hv
  exact Done.step (fun t kk => X.iaload hx (by rw [eT]; exact Ar.1) (State.isArrayOf_alike hZ.alike Ar.2.1) Ar.2.2 q1 (by rw [q2]; exact H i hi) (g := mkF m pc Ls (.int j :: .ref a :: st)) rfl rfl hd t kk) K
theorem wCaload {N i : Nat} {f : Nat → Value} {a : Addr} {j : Int32} (P : Pos p l e R s m args below meth c Z own ws bd T h k n) (A : Ar Z h a .char N f) (hj : j.toInt = (i : Int)) (hi : i < N) {v : Value} (hv : f i = v) (hd : decode c.code pc = .ok (.caload, 1)) (hp : pc + 1 = pc')
    (K : Done p l e R s m args below meth c Z own ws bd Q T (mkF m pc' Ls (v :: st))) : Done p l e R s m args below meth c Z own ws bd Q T (mkF m pc Ls (.int j :: .ref a :: st)) := by
  obtain ⟨⟨L, X, N'⟩, eT, b, hZ, hx, ho, hlk, _, _⟩ := id P
  obtain ⟨cl, Ar, S, hN, H⟩ := A
  obtain ⟨q1, q2⟩ := in_of S hj hi
  subst hp hv
  exact Done.step (fun t kk => X.caload hx (by rw [eT]; exact Ar.1) (State.isArrayOf_alike hZ.alike Ar.2.1) Ar.2.2 q1 (by rw [q2]; exact H i hi) (g := mkF m pc Ls (.int j :: .ref a :: st)) rfl rfl hd t kk) K
theorem wAaload {N i : Nat} {f : Nat → Value} {a : Addr} {j : Int32} {ty : FieldType} (P : Pos p l e R s m args below meth c Z own ws bd T h k n) (A : Ar Z h a ty N f) (hty : ty.isReference = true) (hj : j.toInt = (i : Int)) (hi : i < N) {v : Value} (hv : f i = v) (hd : decode c.code pc = .ok (.aaload, 1)) (hp : pc + 1 = pc')
    (K : Done p l e R s m args below meth c Z own ws bd Q T (mkF m pc' Ls (v :: st))) : Done p l e R s m args below meth c Z own ws bd Q T (mkF m pc Ls (.int j :: .ref a :: st)) := by
  obtain ⟨⟨L, X, N'⟩, eT, b, hZ, hx, ho, hlk, _, _⟩ := id P
  obtain ⟨cl, Ar, S, hN, H⟩ := A
  obtain ⟨q1, q2⟩ := in_of S hj hi
  subst hp hv
  exact Done.step (fun t kk => X.aaload hx (by rw [eT]; exact Ar.1) (State.isArrayOf_alike hZ.alike Ar.2.1) hty Ar.2.2 q1 (by rw [q2]; exact H i hi) (g := mkF m pc Ls (.int j :: .ref a :: st)) rfl rfl hd t kk) K
theorem Ar.set {cl : Cell} {a : Addr} {ty : FieldType} {N i : Nat} {f : Nat → Value} {v : Value} (A : Arr Z h a cl ty) (S : cl.slots.size = N) (hN : N < 2147483648) (H : ∀ i, i < N → cl.slots[i]? = some (f i)) (hi : i < N) (W : Wr h h' a i v) : Ar Z h' a ty N (oupd f i v) := by
  refine ⟨cl.setSlot i v, A.same W, by rw [sz_set]; exact S, hN, fun j hj => ?_⟩
  by_cases q : j = i
  · subst q; rw [oupd_same]; exact Cell.slots_setSlot_self v (by omega)
  · rw [oupd_ne q, Cell.slots_setSlot_ne v (Ne.symm q)]; exact H j hj
theorem wDastore {N i : Nat} {f : Nat → UInt64} {a : Addr} {j : Int32} {x : UInt64} (P : Pos p l e R s m args below meth c Z own ws bd T h k n) (A : Ar Z h a .double N (fun i => .double (f i))) (hj : j.toInt = (i : Int)) (hi : i < N) (hge : a ∈ ws ∨ bd ≤ a) (hd : decode c.code pc = .ok (.dastore, 1)) (hp : pc + 1 = pc')
    (K : ∀ T' h', Pos p l e R s m args below meth c Z own ws bd T' h' k n → Wr h h' a i (.double x) → Ar Z h' a .double N (fun j => .double (oupd f i x j)) → Done p l e R s m args below meth c Z own ws bd Q T' (mkF m pc' Ls st)) : Done p l e R s m args below meth c Z own ws bd Q T (mkF m pc Ls (.double x :: .int j :: .ref a :: st)) := by
  obtain ⟨⟨L, X, N'⟩, eT, b, hZ, hx, ho, r⟩ := id P
  obtain ⟨cl, Ar', S, hN, H⟩ := A
  obtain ⟨q1, q2⟩ := in_of S hj hi
  obtain ⟨T', h', X', e', W, stp⟩ := stD X hx hZ eT Ar' q1 (g := mkF m pc Ls (.double x :: .int j :: .ref a :: st)) rfl rfl hd
  subst hp
  rw [q2] at W
  refine Done.step stp (K T' h' ⟨⟨_, X', Fw.snoc N' hge⟩, e', by rw [W.size]; exact b, hZ, hx, ho, r⟩ W ((Ar.set Ar' S hN H hi W).congr fun j _ => ?_))
  unfold oupd; split <;> rfl
theorem wIastore {N i : Nat} {f : Nat → Int32} {a : Addr} {j : Int32} {x : Int32} (P : Pos p l e R s m args below meth c Z own ws bd T h k n) (A : Ar Z h a .int N (fun i => .int (f i))) (hj : j.toInt = (i : Int)) (hi : i < N) (hge : a ∈ ws ∨ bd ≤ a) (hd : decode c.code pc = .ok (.iastore, 1)) (hp : pc + 1 = pc')
    (K : ∀ T' h', Pos p l e R s m args below meth c Z own ws bd T' h' k n → Wr h h' a i (.int x) → Ar Z h' a .int N (fun j => .int (oupd f i x j)) → Done p l e R s m args below meth c Z own ws bd Q T' (mkF m pc' Ls st)) : Done p l e R s m args below meth c Z own ws bd Q T (mkF m pc Ls (.int x :: .int j :: .ref a :: st)) := by
  obtain ⟨⟨L, X, N'⟩, eT, b, hZ, hx, ho, r⟩ := id P
  obtain ⟨cl, Ar', S, hN, H⟩ := A
  obtain ⟨q1, q2⟩ := in_of S hj hi
  obtain ⟨T', h', X', e', W, stp⟩ := stI X hx hZ eT Ar' q1 (g := mkF m pc Ls (.int x :: .int j :: .ref a :: st)) rfl rfl hd
  subst hp
  rw [q2] at W
  refine Done.step stp (K T' h' ⟨⟨_, X', Fw.snoc N' hge⟩, e', by rw [W.size]; exact b, hZ, hx, ho, r⟩ W ((Ar.set Ar' S hN H hi W).congr fun j _ => ?_))
  unfold oupd; split <;> rfl
theorem wCastore {N i : Nat} {f : Nat → Int32} {a : Addr} {j : Int32} {x : Int32} (P : Pos p l e R s m args below meth c Z own ws bd T h k n) (A : Ar Z h a .char N (fun i => .int (f i))) (hj : j.toInt = (i : Int)) (hi : i < N) (hge : a ∈ ws ∨ bd ≤ a) (hd : decode c.code pc = .ok (.castore, 1)) (hp : pc + 1 = pc')
    (K : ∀ T' h', Pos p l e R s m args below meth c Z own ws bd T' h' k n → Wr h h' a i (.int (nar .char x)) → Ar Z h' a .char N (fun j => .int (oupd f i (nar .char x) j)) → Done p l e R s m args below meth c Z own ws bd Q T' (mkF m pc' Ls st)) : Done p l e R s m args below meth c Z own ws bd Q T (mkF m pc Ls (.int x :: .int j :: .ref a :: st)) := by
  obtain ⟨⟨L, X, N'⟩, eT, b, hZ, hx, ho, r⟩ := id P
  obtain ⟨cl, Ar', S, hN, H⟩ := A
  obtain ⟨q1, q2⟩ := in_of S hj hi
  obtain ⟨T', h', X', e', W, stp⟩ := stC X hx hZ eT Ar' q1 (g := mkF m pc Ls (.int x :: .int j :: .ref a :: st)) rfl rfl hd
  subst hp
  rw [q2] at W
  refine Done.step stp (K T' h' ⟨⟨_, X', Fw.snoc N' hge⟩, e', by rw [W.size]; exact b, hZ, hx, ho, r⟩ W ((Ar.set Ar' S hN H hi W).congr fun j _ => ?_))
  unfold oupd; split <;> rfl
theorem wBastore {N i : Nat} {f : Nat → Int32} {a : Addr} {j : Int32} {x : Int32} (P : Pos p l e R s m args below meth c Z own ws bd T h k n) (A : Ar Z h a .byte N (fun i => .int (f i))) (hj : j.toInt = (i : Int)) (hi : i < N) (hge : a ∈ ws ∨ bd ≤ a) (hd : decode c.code pc = .ok (.bastore, 1)) (hp : pc + 1 = pc')
    (K : ∀ T' h', Pos p l e R s m args below meth c Z own ws bd T' h' k n → Wr h h' a i (.int (nar .byte x)) → Ar Z h' a .byte N (fun j => .int (oupd f i (nar .byte x) j)) → Done p l e R s m args below meth c Z own ws bd Q T' (mkF m pc' Ls st)) : Done p l e R s m args below meth c Z own ws bd Q T (mkF m pc Ls (.int x :: .int j :: .ref a :: st)) := by
  obtain ⟨⟨L, X, N'⟩, eT, b, hZ, hx, ho, r⟩ := id P
  obtain ⟨cl, Ar', S, hN, H⟩ := A
  obtain ⟨q1, q2⟩ := in_of S hj hi
  obtain ⟨T', h', X', e', W, stp⟩ := stB X hx hZ eT Ar' q1 (g := mkF m pc Ls (.int x :: .int j :: .ref a :: st)) rfl rfl hd
  subst hp
  rw [q2] at W
  refine Done.step stp (K T' h' ⟨⟨_, X', Fw.snoc N' hge⟩, e', by rw [W.size]; exact b, hZ, hx, ho, r⟩ W ((Ar.set Ar' S hN H hi W).congr fun j _ => ?_))
  unfold oupd; split <;> rfl
theorem wZastore {N i : Nat} {f : Nat → Int32} {a : Addr} {j : Int32} {x : Int32} (P : Pos p l e R s m args below meth c Z own ws bd T h k n) (A : Ar Z h a .boolean N (fun i => .int (f i))) (hj : j.toInt = (i : Int)) (hi : i < N) (hge : a ∈ ws ∨ bd ≤ a) (hd : decode c.code pc = .ok (.bastore, 1)) (hp : pc + 1 = pc')
    (K : ∀ T' h', Pos p l e R s m args below meth c Z own ws bd T' h' k n → Wr h h' a i (.int (nar .boolean x)) → Ar Z h' a .boolean N (fun j => .int (oupd f i (nar .boolean x) j)) → Done p l e R s m args below meth c Z own ws bd Q T' (mkF m pc' Ls st)) : Done p l e R s m args below meth c Z own ws bd Q T (mkF m pc Ls (.int x :: .int j :: .ref a :: st)) := by
  obtain ⟨⟨L, X, N'⟩, eT, b, hZ, hx, ho, r⟩ := id P
  obtain ⟨cl, Ar', S, hN, H⟩ := A
  obtain ⟨q1, q2⟩ := in_of S hj hi
  obtain ⟨T', h', X', e', W, stp⟩ := stZ X hx hZ eT Ar' q1 (g := mkF m pc Ls (.int x :: .int j :: .ref a :: st)) rfl rfl hd
  subst hp
  rw [q2] at W
  refine Done.step stp (K T' h' ⟨⟨_, X', Fw.snoc N' hge⟩, e', by rw [W.size]; exact b, hZ, hx, ho, r⟩ W ((Ar.set Ar' S hN H hi W).congr fun j _ => ?_))
  unfold oupd; split <;> rfl
theorem wBaload {N i : Nat} {f : Nat → Value} {a : Addr} {j : Int32} (P : Pos p l e R s m args below meth c Z own ws bd T h k n) (A : Ar Z h a .byte N f) (hj : j.toInt = (i : Int)) (hi : i < N) {v : Value} (hv : f i = v) (hd : decode c.code pc = .ok (.baload, 1)) (hp : pc + 1 = pc')
    (K : Done p l e R s m args below meth c Z own ws bd Q T (mkF m pc' Ls (v :: st))) : Done p l e R s m args below meth c Z own ws bd Q T (mkF m pc Ls (.int j :: .ref a :: st)) := by
  obtain ⟨⟨L, X, N'⟩, eT, b, hZ, hx, ho, hlk, _, _⟩ := id P
  obtain ⟨cl, Ar, S, hN, H⟩ := A
  obtain ⟨q1, q2⟩ := in_of S hj hi
  subst hp hv
  exact Done.step (fun t kk => X.baloadBytes hx (by rw [eT]; exact Ar.1) (State.isArrayOf_alike hZ.alike Ar.2.1) Ar.2.2 q1 (by rw [q2]; exact H i hi) (g := mkF m pc Ls (.int j :: .ref a :: st)) rfl rfl hd t kk) K
theorem staKeep {C nm d : String} {v : Value} {ws' : List Addr} (F : Sta Z h C nm d v) (K : Keep h h' ws') (hw : ∀ x ∈ ws', ∀ cell : Cell, h[x]? = some cell → cell.vm.isStatics = false) : Sta Z h' C nm d v := by
  obtain ⟨cf, i, k, f, st, cell, h1, h2, h3, h4, h5, h6, r⟩ := F
  exact ⟨cf, i, k, f, st, cell, h1, h2, h3, h4, K.2.1 _ _ h5 (fun q => by rw [hw _ q _ h5] at h6; cases h6), h6, r⟩
theorem wCast {K : String} {index : Nat} {a : Addr} (P : Pos p l e R s m args below meth c Z own ws bd T h k n) (w : (Cond.classLink own index K).before a0 Z = true) (F : Ins Z h a K true) (hd : decode c.code pc = .ok (.checkcast index, 3)) (hp : pc + 3 = pc')
    (K' : ∀ T', Pos p l e R s m args below meth c Z own ws bd T' h k n → Done p l e R s m args below meth c Z own ws bd Q T' (mkF m pc' Ls (.ref a :: st))) : Done p l e R s m args below meth c Z own ws bd Q T (mkF m pc Ls (.ref a :: st)) := by
  obtain ⟨⟨L, X, N'⟩, eT, b, hZ, hx, ho, r⟩ := id P
  obtain ⟨T', X', e', stp⟩ := castY X hx hZ ho w eT F (g := mkF m pc Ls (.ref a :: st)) rfl rfl hd
  subst hp
  exact Done.step stp (K' T' ⟨⟨L, X', N'⟩, e', b, hZ, hx, ho, r⟩)
theorem wInstY {K : String} {index : Nat} {a : Addr} (P : Pos p l e R s m args below meth c Z own ws bd T h k n) (w : (Cond.classLink own index K).before a0 Z = true) (F : Ins Z h a K true) (hd : decode c.code pc = .ok (.instanceof index, 3)) (hp : pc + 3 = pc')
    (K' : ∀ T', Pos p l e R s m args below meth c Z own ws bd T' h k n → Done p l e R s m args below meth c Z own ws bd Q T' (mkF m pc' Ls (.int 1 :: st))) : Done p l e R s m args below meth c Z own ws bd Q T (mkF m pc Ls (.ref a :: st)) := by
  obtain ⟨⟨L, X, N'⟩, eT, b, hZ, hx, ho, r⟩ := id P
  obtain ⟨T', X', e', stp⟩ := instY X hx hZ ho w eT F (g := mkF m pc Ls (.ref a :: st)) rfl rfl hd
  subst hp
  exact Done.step stp (K' T' ⟨⟨L, X', N'⟩, e', b, hZ, hx, ho, r⟩)
theorem wInstN {K C : String} {index : Nat} {a : Addr} (P : Pos p l e R s m args below meth c Z own ws bd T h k n) (w : (Cond.classLink own index K).before a0 Z = true) (E : Exa Z h a C) (F : ∃ c t, Z.vm.findClass C = some c ∧ Z.vm.findClass K = some t ∧ Z.vm.assignable c t = false) (hd : decode c.code pc = .ok (.instanceof index, 3)) (hp : pc + 3 = pc')
    (K' : ∀ T', Pos p l e R s m args below meth c Z own ws bd T' h k n → Done p l e R s m args below meth c Z own ws bd Q T' (mkF m pc' Ls (.int 0 :: st))) : Done p l e R s m args below meth c Z own ws bd Q T (mkF m pc Ls (.ref a :: st)) := by
  obtain ⟨⟨L, X, N'⟩, eT, b, hZ, hx, ho, r⟩ := id P
  obtain ⟨T', X', e', stp⟩ := instNo X hx hZ ho w eT E F (g := mkF m pc Ls (.ref a :: st)) rfl rfl hd
  subst hp
  exact Done.step stp (K' T' ⟨⟨L, X', N'⟩, e', b, hZ, hx, ho, r⟩)
theorem wInst0 {index : Nat} (P : Pos p l e R s m args below meth c Z own ws bd T h k n) (hd : decode c.code pc = .ok (.instanceof index, 3)) (hp : pc + 3 = pc') (D : Done p l e R s m args below meth c Z own ws bd Q T (mkF m pc' Ls (.int 0 :: st))) : Done p l e R s m args below meth c Z own ws bd Q T (mkF m pc Ls (.null :: st)) := by
  obtain ⟨⟨L, X, N'⟩, eT, b, hZ, hx, ho, r⟩ := id P
  subst hp
  exact Done.step (Jvm.Stand.instanceofNull X hx (g := mkF m pc Ls (.null :: st)) rfl rfl hd) D
/-! calls -/
theorem wInit {index : Nat} {a : Addr} {W : Nat} (P : Pos p l e R s m args below meth c Z own ws bd T h k n) (w1 : (Cond.methodLink own index Lib.objectInit).before a0 Z = true) (w2 : (Cond.instanceMethod Lib.objectInit).before a0 Z = true) (w3 : (Cond.code Lib.objectInit ⟨#[0xb1]⟩ 1 none).before a0 Z = true) (hml : Ls.size = c.maxLocals)
    (hd : decode c.code pc = .ok (.invokespecial index, 3)) (hf : 1 ≤ R.frames) (hW : (st.map fun v => v.category).sum ≤ W) (hl : W + 12 ≤ R.locals) (hp : pc + 3 = pc')
    (K : ∀ T', Pos p l e R s m args below meth c Z own ws bd T' h k n → Done p l e R s m args below meth c Z own ws bd Q T' (mkF m pc' Ls st)) : Done p l e R s m args below meth c Z own ws bd Q T (mkF m pc Ls (.ref a :: st)) := by
  obtain ⟨⟨L, X, N'⟩, eT, b, hZ, hx, ho, r⟩ := id P
  obtain ⟨T', X', e', stp⟩ := initO X hx hZ ho w1 w2 w3 eT (g := mkF m pc Ls (.ref a :: st)) rfl hml rfl hd hf (W := W) (by show 2 * 0 + _ ≤ _; omega) hl
  subst hp
  exact Done.step stp (K T' ⟨⟨L, X', N'⟩, e', b, hZ, hx, ho, r⟩)
theorem wCallS {y : MethodName} {bytes : ByteArray} {maxL : Nat} {ret : Option FieldType} {rm : Room} {as' : Array Value} {ws' : List Addr} {Q' : Option Value → Heap → Prop} {index W : Nat} {argsL rest stk : List Value} (P : Pos p l e R s m args below meth c Z own ws bd T h k n) (M : OMet l y bytes maxL ret [] rm Z h ws' as' Q')
    (w1 : (Cond.methodLink own index y).before a0 Z = true) (w2 : (Cond.static y).before a0 Z = true) (w3 : (Cond.initialized y.cls).before a0 Z = true) (w4 : (Cond.code y bytes maxL ret).before a0 Z = true) (hy : y.cls ≠ "java/lang/invoke/MethodHandle" ∧ y.cls ≠ "java/lang/invoke/VarHandle") (hml : Ls.size = c.maxLocals)
    (hlen : ∀ sig, parseMethodDescriptor y.desc = some sig → argsL.length = sig.parameters.length) (has : (argsL).toArray = as') (hst : stk = argsL.reverse ++ rest) (hW : (rest.map fun v => v.category).sum ≤ W) (hf : rm.frames + 1 ≤ R.frames) (hl : W + (maxL + 11) + rm.locals ≤ R.locals) (hc : k + rm.cells ≤ R.cells) (hs : n + rm.slots ≤ R.slots)
    (hws : ∀ x ∈ ws', x ∈ ws ∨ bd ≤ x) (hd : decode c.code pc = .ok (.invokestatic index, 3)) (hp : pc + 3 = pc') {k' n' : Nat} (hk' : k + rm.cells = k') (hn' : n + rm.slots = n')
    (K : ∀ T' h' v, Pos p l e R s m args below meth c Z own ws bd T' h' k' n' → Keep h h' ws' → Q' v h' → Done p l e R s m args below meth c Z own ws bd Q T' (mkF m pc' Ls (v.toList ++ rest))) : Done p l e R s m args below meth c Z own ws bd Q T (mkF m pc Ls stk) := by
  obtain ⟨⟨L, X, N'⟩, eT, b, hZ, hx, ho, hlk, _, _⟩ := id P
  subst hst has hp hk' hn'
  obtain ⟨v, _, ⟨T', L', k1, n1⟩, -, X', ⟨Lc, hq, l', y', z'⟩, stp⟩ := Jvm.LawKit.callS X hx (y := y) ho (mvT hZ w1) (mvT hZ w2) (mvT hZ w3) (mvT hZ w4) hy (backOf (W := W) (Q := fun v h' L => Q' v h' ∧ Fw ws' h.size L ∧ Keep h h' ws') M hZ w4 w3 hf hl) (g := mkF m pc Ls (argsL.reverse ++ rest)) rfl hml (argsL := argsL) (rest := rest) hlen rfl (by show 2 * 0 + _ ≤ _; omega) hd (fun _ _ => ⟨rfl, eT, hc, hs⟩)
  dsimp only [Pt.U, Pt.locs, Pt.cells, Pt.slots] at X' l' y' z' stp hq
  subst l' y' z'
  exact Done.step (stp) (K T' T'.heap v ⟨⟨_, X', N'.app fun y hy => (hq.2.1 y hy).elim (fun q => hws _ q) (fun q => Or.inr (Nat.le_trans b q))⟩, rfl, Nat.le_trans b hq.2.2.1, hZ, hx, ho, hlk, hc, hs⟩ hq.2.2 hq.1)
theorem wCallI {y : MethodName} {bytes : ByteArray} {maxL : Nat} {rm : Room} {as' : Array Value} {ws' : List Addr} {Q' : Option Value → Heap → Prop} {index W : Nat} {argsL rest stk : List Value} {a : Addr} (P : Pos p l e R s m args below meth c Z own ws bd T h k n) (M : OMet l y bytes maxL none [] rm Z h ws' as' Q')
    (hyn : y.name = "<init>") (w1 : (Cond.methodLink own index y).before a0 Z = true) (w2 : (Cond.instanceMethod y).before a0 Z = true) (w3 : (Cond.initialized y.cls).before a0 Z = true) (w4 : (Cond.code y bytes maxL none).before a0 Z = true) (hy : y.cls ≠ "java/lang/invoke/MethodHandle" ∧ y.cls ≠ "java/lang/invoke/VarHandle") (hml : Ls.size = c.maxLocals)
    (hlen : ∀ sig, parseMethodDescriptor y.desc = some sig → argsL.length = sig.parameters.length) (has : (.ref a :: argsL).toArray = as') (hst : stk = argsL.reverse ++ .ref a :: rest) (hW : (rest.map fun v => v.category).sum ≤ W) (hf : rm.frames + 1 ≤ R.frames) (hl : W + (maxL + 11) + rm.locals ≤ R.locals) (hc : k + rm.cells ≤ R.cells) (hs : n + rm.slots ≤ R.slots)
    (hws : ∀ x ∈ ws', x ∈ ws ∨ bd ≤ x) (hd : decode c.code pc = .ok (.invokespecial index, 3)) (hp : pc + 3 = pc') {k' n' : Nat} (hk' : k + rm.cells = k') (hn' : n + rm.slots = n')
    (K : ∀ T' h' v, Pos p l e R s m args below meth c Z own ws bd T' h' k' n' → Keep h h' ws' → Q' v h' → Done p l e R s m args below meth c Z own ws bd Q T' (mkF m pc' Ls (v.toList ++ rest))) : Done p l e R s m args below meth c Z own ws bd Q T (mkF m pc Ls stk) := by
  obtain ⟨⟨L, X, N'⟩, eT, b, hZ, hx, ho, hlk, _, _⟩ := id P
  subst hst has hp hk' hn'
  obtain ⟨v, _, ⟨T', L', k1, n1⟩, -, X', ⟨Lc, hq, l', y', z'⟩, stp⟩ := X.specialBack hx (y := y) hyn ho (mvT hZ w1) (mvT hZ w2) (mvT hZ w4) hy (backOf (W := W) (Q := fun v h' L => Q' v h' ∧ Fw ws' h.size L ∧ Keep h h' ws') M hZ w4 w3 hf hl) (g := mkF m pc Ls (argsL.reverse ++ .ref a :: rest)) rfl hml (Steps.refl _) (a := a) (argsL := argsL) (rest := rest) hlen rfl (by show 2 * 0 + _ ≤ _; omega) hd (fun _ _ => ⟨rfl, eT, hc, hs⟩)
  dsimp only [Pt.U, Pt.locs, Pt.cells, Pt.slots] at X' l' y' z' stp hq
  subst l' y' z'
  exact Done.step (fun t kk => stp.trans kk) (K T' T'.heap v ⟨⟨_, X', N'.app fun y hy => (hq.2.1 y hy).elim (fun q => hws _ q) (fun q => Or.inr (Nat.le_trans b q))⟩, rfl, Nat.le_trans b hq.2.2.1, hZ, hx, ho, hlk, hc, hs⟩ hq.2.2 hq.1)
theorem wCallV {y : MethodName} {bytes : ByteArray} {maxL : Nat} {ret : Option FieldType} {rm : Room} {as' : Array Value} {ws' : List Addr} {Q' : Option Value → Heap → Prop} {index W : Nat} {argsL rest stk : List Value} {z : MethodName} {C : String} {a : Addr} (P : Pos p l e R s m args below meth c Z own ws bd T h k n) (M : OMet l z bytes maxL ret [] rm Z h ws' as' Q')
    (w1 : (Cond.methodLink own index y).before a0 Z = true) (w2 : (Cond.declares y).before a0 Z = true) (w5 : (Cond.selects C y z).before a0 Z = true) {D : String} (w7 : (Cond.selects D y y).before a0 Z = true) (w6 : (Cond.instanceMethod z).before a0 Z = true) (w3 : (Cond.initialized z.cls).before a0 Z = true) (w4 : (Cond.code z bytes maxL ret).before a0 Z = true) (hy : y.cls ≠ "java/lang/invoke/MethodHandle" ∧ y.cls ≠ "java/lang/invoke/VarHandle") (E : Exa Z h a C) (hml : Ls.size = c.maxLocals)
    (hlen : ∀ sig, parseMethodDescriptor y.desc = some sig → argsL.length = sig.parameters.length) (has : (.ref a :: argsL).toArray = as') (hst : stk = argsL.reverse ++ .ref a :: rest) (hW : (rest.map fun v => v.category).sum ≤ W) (hf : rm.frames + 1 ≤ R.frames) (hl : W + (maxL + 11) + rm.locals ≤ R.locals) (hc : k + rm.cells ≤ R.cells) (hs : n + rm.slots ≤ R.slots)
    (hws : ∀ x ∈ ws', x ∈ ws ∨ bd ≤ x) (hd : decode c.code pc = .ok (.invokevirtual index, 3)) (hp : pc + 3 = pc') {k' n' : Nat} (hk' : k + rm.cells = k') (hn' : n + rm.slots = n')
    (K : ∀ T' h' v, Pos p l e R s m args below meth c Z own ws bd T' h' k' n' → Keep h h' ws' → Q' v h' → Done p l e R s m args below meth c Z own ws bd Q T' (mkF m pc' Ls (v.toList ++ rest))) : Done p l e R s m args below meth c Z own ws bd Q T (mkF m pc Ls stk) := by
  obtain ⟨⟨L, X, N'⟩, eT, b, hZ, hx, ho, hlk, _, _⟩ := id P
  subst hst has hp hk' hn'
  obtain ⟨cq, kq, qa, qb, qc⟩ := isOf hZ eT E
  obtain ⟨v, _, ⟨T', L', k1, n1⟩, -, X', ⟨Lc, hq, l', y', z'⟩, stp⟩ := X.virtualBack hx (y := y) (z := z) ho (mvT hZ w1) (mvT hZ w2) (notFace_of_selects (args := #[]) (mvT hZ w7)) (mvT hZ w5) (mvT hZ w6) hy (backOf (W := W) (Q := fun v h' L => Q' v h' ∧ Fw ws' h.size L ∧ Keep h h' ws') M hZ w4 w3 hf hl) qa qc (g := mkF m pc Ls (argsL.reverse ++ .ref a :: rest)) rfl hml (Steps.refl _) (argsL := argsL) (rest := rest) hlen rfl (by show 2 * 0 + _ ≤ _; omega) hd (fun _ _ => ⟨rfl, eT, hc, hs⟩)
  dsimp only [Pt.U, Pt.locs, Pt.cells, Pt.slots] at X' l' y' z' stp hq
  subst l' y' z'
  exact Done.step (fun t kk => stp.trans kk) (K T' T'.heap v ⟨⟨_, X', N'.app fun y hy => (hq.2.1 y hy).elim (fun q => hws _ q) (fun q => Or.inr (Nat.le_trans b q))⟩, rfl, Nat.le_trans b hq.2.2.1, hZ, hx, ho, hlk, hc, hs⟩ hq.2.2 hq.1)
theorem wCallP {y : MethodName} {bytes : ByteArray} {maxL : Nat} {ret : Option FieldType} {rm : Room} {as' : Array Value} {ws' : List Addr} {Q' : Option Value → Heap → Prop} {index W kk : Nat} {argsL rest stk : List Value} {a : Addr} {C : String} (P : Pos p l e R s m args below meth c Z own ws bd T h k n) (M : OMet l y bytes maxL ret [] rm Z h ws' as' Q')
    (w1 : (Cond.methodLink own index y).before a0 Z = true) (w2 : (Cond.instanceMethod y).before a0 Z = true) (w5 : (Cond.privateMethod y).before a0 Z = true) (wi : (Cond.instantiable y.cls kk).before a0 Z = true) (w3 : (Cond.initialized y.cls).before a0 Z = true) (w4 : (Cond.code y bytes maxL ret).before a0 Z = true) (hy : y.cls ≠ "java/lang/invoke/MethodHandle" ∧ y.cls ≠ "java/lang/invoke/VarHandle") (E : Exa Z h a C) (hml : Ls.size = c.maxLocals)
    (hlen : ∀ sig, parseMethodDescriptor y.desc = some sig → argsL.length = sig.parameters.length) (has : (.ref a :: argsL).toArray = as') (hst : stk = argsL.reverse ++ .ref a :: rest) (hW : (rest.map fun v => v.category).sum ≤ W) (hf : rm.frames + 1 ≤ R.frames) (hl : W + (maxL + 11) + rm.locals ≤ R.locals) (hc : k + rm.cells ≤ R.cells) (hs : n + rm.slots ≤ R.slots)
    (hws : ∀ x ∈ ws', x ∈ ws ∨ bd ≤ x) (hd : decode c.code pc = .ok (.invokevirtual index, 3)) (hp : pc + 3 = pc') {k' n' : Nat} (hk' : k + rm.cells = k') (hn' : n + rm.slots = n')
    (K : ∀ T' h' v, Pos p l e R s m args below meth c Z own ws bd T' h' k' n' → Keep h h' ws' → Q' v h' → Done p l e R s m args below meth c Z own ws bd Q T' (mkF m pc' Ls (v.toList ++ rest))) : Done p l e R s m args below meth c Z own ws bd Q T (mkF m pc Ls stk) := by
  obtain ⟨⟨L, X, N'⟩, eT, b, hZ, hx, ho, hlk, _, _⟩ := id P
  subst hst has hp hk' hn'
  obtain ⟨cl, hcl, hst⟩ := E.cell
  have hpr : s.PrivateAt y := Cond.privateMethod_at (mvP hZ w5 (args := #[]))
  obtain ⟨ci, ki, hi1, hi2, -, hi3, -⟩ := Cond.instantiable_spec (mvT hZ wi : (Cond.instantiable y.cls kk).before args s = true)
  have hsel : (Cond.selects y.cls y y).before args s = true := selects_self_of_private hi1 hi2 (by simp only [Bool.or_eq_false_iff] at hi3; exact hi3.1) hpr (mvT hZ w2) hy
  obtain ⟨v, _, ⟨T', L', k1, n1⟩, -, X', ⟨Lc, hq, l', y', z'⟩, stp⟩ := X.privateBack hx (y := y) ho (mvT hZ w1) (mvT hZ w2) hsel hpr (mvT hZ w4) hy (backOf (W := W) (Q := fun v h' L => Q' v h' ∧ Fw ws' h.size L ∧ Keep h h' ws') M hZ w4 w3 hf hl) (g := mkF m pc Ls (argsL.reverse ++ .ref a :: rest)) rfl hml (Steps.refl _) (a := a) (by rw [eT]; exact hcl) hst (argsL := argsL) (rest := rest) hlen rfl (by show 2 * 0 + _ ≤ _; omega) hd (fun _ _ => ⟨rfl, eT, hc, hs⟩)
  dsimp only [Pt.U, Pt.locs, Pt.cells, Pt.slots] at X' l' y' z' stp hq
  subst l' y' z'
  exact Done.step (fun t kk => stp.trans kk) (K T' T'.heap v ⟨⟨_, X', N'.app fun y hy => (hq.2.1 y hy).elim (fun q => hws _ q) (fun q => Or.inr (Nat.le_trans b q))⟩, rfl, Nat.le_trans b hq.2.2.1, hZ, hx, ho, hlk, hc, hs⟩ hq.2.2 hq.1)
/-- a call that the machine answers itself -/
theorem wNat {y : MethodName} {by0 : ByteArray} {ml : Nat} {rt : Option FieldType} {index W : Nat} {F : Array Value → Prop} {val : Value} {argsL rest stk : List Value} (P : Pos p l e R s m args below meth c Z own ws bd T h k n)
    (w1 : (Cond.methodLink own index y).before a0 Z = true) (w2 : (Cond.static y).before a0 Z = true) (w3 : (Cond.initialized y.cls).before a0 Z = true) (w4 : (Cond.code y by0 ml rt).before a0 Z = true) (hy : y.cls ≠ "java/lang/invoke/MethodHandle" ∧ y.cls ≠ "java/lang/invoke/VarHandle")
    (hK : (Cond.code y by0 ml rt).before args s = true → Back l R p e below s args y 3 W (fun A a' => A.cells ≤ R.cells ∧ A.slots ≤ R.slots ∧ F a') (fun A _ v B => v = some val ∧ B = A)) (hml : Ls.size = c.maxLocals)
    (hlen : ∀ sig, parseMethodDescriptor y.desc = some sig → argsL.length = sig.parameters.length) (hst : stk = argsL.reverse ++ rest) (hW : (rest.map fun v => v.category).sum ≤ W) (hd : decode c.code pc = .ok (.invokestatic index, 3)) (hp : pc + 3 = pc') (hF : F argsL.toArray)
    (K : ∀ T', Pos p l e R s m args below meth c Z own ws bd T' h k n → Done p l e R s m args below meth c Z own ws bd Q T' (mkF m pc' Ls (val :: rest))) : Done p l e R s m args below meth c Z own ws bd Q T (mkF m pc Ls stk) := by
  obtain ⟨⟨L, X, N'⟩, eT, b, hZ, hx, ho, hlk, hc, hs⟩ := id P
  subst hst hp
  obtain ⟨T', X', e', stp⟩ := natS X hx hZ ho w1 w2 w3 w4 hy eT hK (g := mkF m pc Ls (argsL.reverse ++ rest)) rfl hml hlen rfl (by show 2 * 0 + _ ≤ _; omega) hd hc hs hF rfl
  exact Done.step stp (K T' ⟨⟨L, X', N'⟩, e', b, hZ, hx, ho, hlk, hc, hs⟩)
theorem Fw.toFr {bd : Nat} {L : List Loc} (N : Fw [] bd L) : Fr bd L := fun y hy => (N y hy).resolve_left (by simp)
theorem Fw.ofFr {ws : List Addr} {bd : Nat} {L : List Loc} (N : Fr bd L) : Fw ws bd L := fun y hy => Or.inr (N y hy)
theorem n32 {N : Nat} (h : N < 2147483648) : ¬ Int32.ofNat N < 0 ∧ (Int32.ofNat N).toNatClampNeg = N := by
  have e : (Int32.ofNat N).toInt = (N : Int) := Int32.toInt_ofNat_of_lt (by omega)
  refine ⟨?_, by rw [Int32.toNatClampNeg, e]; omega⟩
  rw [Int32.lt_iff_toInt_lt, e, show (0 : Int32).toInt = 0 from rfl]; omega
theorem Ar.toArv {a : Addr} {ty : FieldType} {N : Nat} {f : Nat → Value} (A : Ar Z h a ty N f) (dv : Value) (hf : ∀ i, fits ty (f i) = true) (hd : fits ty dv = true) : ∃ kA, Arv Z h a kA ty (Int32.ofNat N) ((List.range N).map f) dv := by
  obtain ⟨cl, Ar, S, hN, H⟩ := A
  have g : ∀ i, i < N → ((List.range N).map f).getD i dv = f i := fun i hi => by simp [List.getD_eq_getElem?_getD, hi]
  refine ⟨cl.cls, cl, Ar, rfl, by rw [(n32 hN).2, S], (n32 hN).1, fun i hi => ?_, fun i hi => ?_⟩
  · rw [g i (by omega)]; exact H i (by omega)
  · rw [g i (by omega)]; exact hf i
theorem Ar.ofArv {a : Addr} {ty : FieldType} {kA : ClassId} {N : Nat} {vs : List Value} {dv : Value} (hN : N < 2147483648) (A : Arv Z h a kA ty (Int32.ofNat N) vs dv) : Ar Z h a ty N (fun i => vs.getD i dv) := by
  obtain ⟨cl, Ar, -, S, -, H, -⟩ := A
  rw [(n32 hN).2] at S
  exact ⟨cl, Ar, S, hN, fun i hi => H i (by omega)⟩
/-- a copy of an array of doubles -/
theorem wClone {N cap index W : Nat} {f : Nat → UInt64} {a : Addr} (P : Pos p l e R s m args below meth c Z own ws bd T h k n) (A : Ar Z h a .double N (fun i => .double (f i))) (E : Exa Z h a "[D")
    (w1 : (Cond.methodLink own index ⟨"[D", "clone", "()Ljava/lang/Object;"⟩).before a0 Z = true) (w2 : (Cond.sameMethod "[D" "java/lang/Object" "clone" "()Ljava/lang/Object;").before a0 Z = true) (w3 : (Cond.native ⟨"java/lang/Object", "clone", "()Ljava/lang/Object;"⟩).before a0 Z = true)
    (w4 : (Cond.instanceMethod ⟨"java/lang/Object", "clone", "()Ljava/lang/Object;"⟩).before a0 Z = true) (w5 : (Cond.selects "[D" ⟨"[D", "clone", "()Ljava/lang/Object;"⟩ ⟨"java/lang/Object", "clone", "()Ljava/lang/Object;"⟩).before a0 Z = true) (w6 : (Cond.castable "[D" "java/lang/Cloneable").before a0 Z = true)
    (hml : Ls.size = c.maxLocals) (hd : decode c.code pc = .ok (.invokevirtual index, 3)) (hp : pc + 3 = pc') (hf : 1 ≤ R.frames) (hW : (st.map fun v => v.category).sum ≤ W) (hl : W + 14 ≤ R.locals) (hcap : N ≤ cap) (hc : k + 1 ≤ R.cells) (hsl : n + cap ≤ R.slots) {k' n' : Nat} (hk' : k + 1 = k') (hn' : n + cap = n')
    (K : ∀ T' h' b, b = h.size → h.size < h'.size → Pos p l e R s m args below meth c Z own ws bd T' h' k' n' → Ext h h' → Ar Z h' b .double N (fun i => .double (f i)) → Exa Z h' b "[D" → Done p l e R s m args below meth c Z own ws bd Q T' (mkF m pc' Ls (.ref b :: st))) : Done p l e R s m args below meth c Z own ws bd Q T (mkF m pc Ls (.ref a :: st)) := by
  obtain ⟨⟨L, X, N'⟩, eT, b, hZ, hx, ho, hlk, _, _⟩ := id P
  obtain ⟨cl, Ar, S, hN, H⟩ := A
  have FC : FitC Z cl := fitC_of Ar fun i hi v hv => by rw [H i (by omega)] at hv; cases hv; rfl
  obtain ⟨T', h', X', e', ex, A', E', stp⟩ := cloneA X hx hZ ho w1 w2 w3 w4 w5 w6 eT Ar E FC (g := mkF m pc Ls (.ref a :: st)) rfl hml rfl hd hf (W := W) (by show 2 * 0 + _ ≤ _; omega) hl (cap := cap) (by omega) hc hsl
  subst hp hk' hn'
  exact Done.step stp (K T' h' h.size rfl A'.lt ⟨⟨L, X', N'⟩, e', Nat.le_trans b ex.1, hZ, hx, ho, hlk, hc, hsl⟩ ex ⟨_, A', S, hN, H⟩ E')
/-- System.arraycopy of the first places of an array of doubles into a fresh one -/
theorem wCopyD {N M K0 index W : Nat} {f g : Nat → UInt64} {a b : Addr} {nn : Int32} (P : Pos p l e R s m args below meth c Z own [] bd T h k n) (A : Ar Z h a .double N (fun i => .double (f i))) (B : Ar Z h b .double M (fun i => .double (g i))) (hnn : nn.toInt = (K0 : Int)) (h1 : K0 ≤ N) (h2 : K0 ≤ M) (ge : bd ≤ b)
    (w1 : (Cond.methodLink own index Jvm.Stand.acN).before a0 Z = true) (w2 : (Cond.native Jvm.Stand.acN).before a0 Z = true) (w3 : (Cond.static Jvm.Stand.acN).before a0 Z = true) (w4 : (Cond.initialized "java/lang/System").before a0 Z = true)
    (hml : Ls.size = c.maxLocals) (hd : decode c.code pc = .ok (.invokestatic index, 3)) (hp : pc + 3 = pc') (hf : 1 ≤ R.frames) (hW : (st.map fun v => v.category).sum ≤ W) (hlo : W + (nativeFrameWords "java/lang/System" "arraycopy" 5 + 11) ≤ R.locals)
    (K : ∀ T' h', Pos p l e R s m args below meth c Z own [] bd T' h' k n → Keep h h' [b] → Ar Z h' b .double M (fun i => .double (if i < K0 then f i else g i)) → Done p l e R s m args below meth c Z own [] bd Q T' (mkF m pc' Ls st)) :
    Done p l e R s m args below meth c Z own [] bd Q T (mkF m pc Ls (.int nn :: .int 0 :: .ref b :: .int 0 :: .ref a :: st)) := by
  obtain ⟨⟨L, X, N'⟩, eT, hb', hZ, hx, ho, r⟩ := id P
  have hN := A.len
  have hM := B.len
  obtain ⟨kA, VA⟩ := A.toArv (.double 0) (fun _ => rfl) rfl
  obtain ⟨kB, VB⟩ := B.toArv (.double 0) (fun _ => rfl) rfl
  have z0 : ¬ (0 : Int32) < 0 := by decide
  have z1 : (0 : Int32).toNatClampNeg = 0 := by decide
  have q0 : ¬ nn < 0 := by rw [Int32.lt_iff_toInt_lt, hnn, show (0 : Int32).toInt = 0 from rfl]; omega
  have q1 : nn.toNatClampNeg = K0 := by rw [Int32.toNatClampNeg, hnn]; omega
  obtain ⟨T', h', L', X', e', F', Kp, V', stp⟩ := cpA X hx hZ ho w1 w2 w3 w4 eT VA VB (Or.inl ⟨rfl, rfl⟩) z0 z0 q0 (by rw [z1, q1, (n32 hN).2]; omega) (by rw [z1, q1, (n32 hM).2]; omega) rfl (by rw [z1, q1]; simp; omega) (n0 := bd) N'.toFr ge (g := mkF m pc Ls (.int nn :: .int 0 :: .ref b :: .int 0 :: .ref a :: st)) rfl hml rfl hd hf (W := W) (by show 2 * 0 + _ ≤ _; omega) hlo
  subst hp
  refine Done.step stp (K T' h' ⟨⟨L', X', Fw.ofFr F'⟩, e', Nat.le_trans hb' Kp.1, hZ, hx, ho, r⟩ Kp ((Ar.ofArv hM V').congr fun i hi => ?_))
  rw [z1, q1]
  by_cases q : i < K0
  · rw [if_pos q]
    simp [List.getD_eq_getElem?_getD, List.getElem?_append, q]
    rw [List.getElem?_range (by omega)]
    rfl
  · rw [if_neg q]
    simp [List.getD_eq_getElem?_getD, List.getElem?_append, q]
    have e2 : K0 + (i - K0) = i := by omega
    simp [e2, hi]
/-! constants and references -/
theorem pLdcI {index : Nat} {v : Int32} {t : State} (P : Pos p l e R s m args below meth c Z own ws bd T h k n) (w : (Cond.constant own index v).before a0 Z = true) (hd : decode c.code pc = .ok (.ldc index, 2)) (hp : pc + 2 = pc') (kk : Steps p.tables e below (T.setTop (mkF m pc' Ls (.int v :: st))) t) : Steps p.tables e below (T.setTop (mkF m pc Ls st)) t := by
  obtain ⟨⟨L, X, N'⟩, eT, b, hZ, hx, ho, hlk, _, _⟩ := id P
  subst hp
  exact X.ldcI hx ho (mvT hZ w) (g := mkF m pc Ls st) rfl hd kk
theorem pLdcIw {index : Nat} {v : Int32} {t : State} (P : Pos p l e R s m args below meth c Z own ws bd T h k n) (w : (Cond.constant own index v).before a0 Z = true) (hd : decode c.code pc = .ok (.ldc_w index, 3)) (hp : pc + 3 = pc') (kk : Steps p.tables e below (T.setTop (mkF m pc' Ls (.int v :: st))) t) : Steps p.tables e below (T.setTop (mkF m pc Ls st)) t := by
  obtain ⟨⟨L, X, N'⟩, eT, b, hZ, hx, ho, hlk, _, _⟩ := id P
  subst hp
  exact X.ldcWI hx ho (mvT hZ w) (g := mkF m pc Ls st) rfl hd kk
theorem pLdcJ {index : Nat} {v : Int64} {t : State} (P : Pos p l e R s m args below meth c Z own ws bd T h k n) (w : (Cond.constantLong own index v).before a0 Z = true) (hd : decode c.code pc = .ok (.ldc2_w index, 3)) (hp : pc + 3 = pc') (kk : Steps p.tables e below (T.setTop (mkF m pc' Ls (.long v :: st))) t) : Steps p.tables e below (T.setTop (mkF m pc Ls st)) t := by
  obtain ⟨⟨L, X, N'⟩, eT, b, hZ, hx, ho, hlk, _, _⟩ := id P
  subst hp
  exact X.ldc2J hx ho (mvT hZ w) (g := mkF m pc Ls st) rfl hd kk
theorem pLdcD {index : Nat} {v : UInt64} {t : State} (P : Pos p l e R s m args below meth c Z own ws bd T h k n) (w : (Cond.constantDouble own index v).before a0 Z = true) (hd : decode c.code pc = .ok (.ldc2_w index, 3)) (hp : pc + 3 = pc') (kk : Steps p.tables e below (T.setTop (mkF m pc' Ls (.double v :: st))) t) : Steps p.tables e below (T.setTop (mkF m pc Ls st)) t := by
  obtain ⟨⟨L, X, N'⟩, eT, b, hZ, hx, ho, hlk, _, _⟩ := id P
  subst hp
  exact X.ldc2DoubleC hx ho (mvT hZ w) (g := mkF m pc Ls st) rfl hd t kk
theorem pAcmp {cd : ACond} {x y : Value} {rest stk : List Value} {o : Int} {pc0 : Nat} {same : Bool} {t : State} (P : Pos p l e R s m args below meth c Z own ws bd T h k n) (h1 : x.isRef = true) (h2 : y.isRef = true) (hpc : pc = pc0) (hd : decode c.code pc = .ok (.if_acmp cd o, 3)) (hs : stk = y :: x :: rest) (hq : decide (x = y) = same) (ho : 0 ≤ (pc0 : Int) + o)
    (hp : pc' = if acV cd same = true then ((pc0 : Int) + o).toNat else pc0 + 3) (kk : Steps p.tables e below (T.setTop (mkF m pc' Ls rest)) t) : Steps p.tables e below (T.setTop (mkF m pc Ls stk)) t := by
  obtain ⟨⟨L, X, N'⟩, eT, b, hZ, hx, ho', hlk, _, _⟩ := id P
  exact Jvm.RoadKit.acmp (g := mkF m pc Ls stk) X hx rfl h1 h2 (pc0 := pc0) (pc' := pc') (same := same) hpc hd hs hq ho hp kk
end A
/-! conditions of branches -/
theorem iiW_lt_t {x y : Int32} (h : x < y) : if_icmp.holds .lt x y = true := (tlt h).1
theorem iiW_lt_f {x y : Int32} (h : ¬ (x < y)) : if_icmp.holds .lt x y = false := (flt h).1
theorem iiW_ge_t {x y : Int32} (h : ¬ (x < y)) : if_icmp.holds .ge x y = true := (flt h).2.1
theorem iiW_ge_f {x y : Int32} (h : ¬ ¬ (x < y)) : if_icmp.holds .ge x y = false := (tlt (Decidable.not_not.mp h)).2.1
theorem iiW_gt_t {x y : Int32} (h : y < x) : if_icmp.holds .gt x y = true := (tlt h).2.2.1
theorem iiW_gt_f {x y : Int32} (h : ¬ (y < x)) : if_icmp.holds .gt x y = false := (flt h).2.2.1
theorem iiW_le_t {x y : Int32} (h : ¬ (y < x)) : if_icmp.holds .le x y = true := (flt h).2.2.2
theorem iiW_le_f {x y : Int32} (h : ¬ ¬ (y < x)) : if_icmp.holds .le x y = false := (tlt (Decidable.not_not.mp h)).2.2.2
theorem iiW_eq_t {x y : Int32} (h : x = y) : if_icmp.holds .eq x y = true := (teq h).1
theorem iiW_eq_f {x y : Int32} (h : ¬ (x = y)) : if_icmp.holds .eq x y = false := (feq h).1
theorem iiW_ne_t {x y : Int32} (h : ¬ (x = y)) : if_icmp.holds .ne x y = true := (feq h).2
theorem iiW_ne_f {x y : Int32} (h : ¬ ¬ (x = y)) : if_icmp.holds .ne x y = false := (teq (Decidable.not_not.mp h)).2
theorem i0W_lt_t {x : Int32} (h : x < (0 : Int32)) : ifCond.holds .lt x = true := (if0 _ _).trans (iiW_lt_t h)
theorem i0W_lt_f {x : Int32} (h : ¬ (x < (0 : Int32))) : ifCond.holds .lt x = false := (if0 _ _).trans (iiW_lt_f h)
theorem i0W_ge_t {x : Int32} (h : ¬ (x < (0 : Int32))) : ifCond.holds .ge x = true := (if0 _ _).trans (iiW_ge_t h)
theorem i0W_ge_f {x : Int32} (h : ¬ ¬ (x < (0 : Int32))) : ifCond.holds .ge x = false := (if0 _ _).trans (iiW_ge_f h)
theorem i0W_gt_t {x : Int32} (h : (0 : Int32) < x) : ifCond.holds .gt x = true := (if0 _ _).trans (iiW_gt_t h)
theorem i0W_gt_f {x : Int32} (h : ¬ ((0 : Int32) < x)) : ifCond.holds .gt x = false := (if0 _ _).trans (iiW_gt_f h)
theorem i0W_le_t {x : Int32} (h : ¬ ((0 : Int32) < x)) : ifCond.holds .le x = true := (if0 _ _).trans (iiW_le_t h)
theorem i0W_le_f {x : Int32} (h : ¬ ¬ ((0 : Int32) < x)) : ifCond.holds .le x = false := (if0 _ _).trans (iiW_le_f h)
theorem i0W_eq_t {x : Int32} (h : x = (0 : Int32)) : ifCond.holds .eq x = true := (if0 _ _).trans (iiW_eq_t h)
theorem i0W_eq_f {x : Int32} (h : ¬ (x = (0 : Int32))) : ifCond.holds .eq x = false := (if0 _ _).trans (iiW_eq_f h)
theorem i0W_ne_t {x : Int32} (h : ¬ (x = (0 : Int32))) : ifCond.holds .ne x = true := (if0 _ _).trans (iiW_ne_t h)
theorem i0W_ne_f {x : Int32} (h : ¬ ¬ (x = (0 : Int32))) : ifCond.holds .ne x = false := (if0 _ _).trans (iiW_ne_f h)
theorem lcW_lt_t {x y : Int64} (h : x < y) : ifCond.holds .lt (lcmpW x y) = true := i0W_lt_t ((lw_lt x y).mpr h)
theorem lcW_lt_f {x y : Int64} (h : ¬ (x < y)) : ifCond.holds .lt (lcmpW x y) = false := i0W_lt_f fun q => h ((lw_lt x y).mp q)
theorem lcW_ge_t {x y : Int64} (h : ¬ (x < y)) : ifCond.holds .ge (lcmpW x y) = true := i0W_ge_t fun q => h ((lw_lt x y).mp q)
theorem lcW_ge_f {x y : Int64} (h : ¬ ¬ (x < y)) : ifCond.holds .ge (lcmpW x y) = false := i0W_ge_f fun q => h fun z => q ((lw_lt x y).mpr z)
theorem lcW_gt_t {x y : Int64} (h : y < x) : ifCond.holds .gt (lcmpW x y) = true := i0W_gt_t ((lw_gt x y).mpr h)
theorem lcW_gt_f {x y : Int64} (h : ¬ (y < x)) : ifCond.holds .gt (lcmpW x y) = false := i0W_gt_f fun q => h ((lw_gt x y).mp q)
theorem lcW_le_t {x y : Int64} (h : ¬ (y < x)) : ifCond.holds .le (lcmpW x y) = true := i0W_le_t fun q => h ((lw_gt x y).mp q)
theorem lcW_le_f {x y : Int64} (h : ¬ ¬ (y < x)) : ifCond.holds .le (lcmpW x y) = false := i0W_le_f fun q => h fun z => q ((lw_gt x y).mpr z)
theorem lcW_eq_t {x y : Int64} (h : x = y) : ifCond.holds .eq (lcmpW x y) = true := i0W_eq_t ((lw_eq x y).mpr h)
theorem lcW_eq_f {x y : Int64} (h : ¬ (x = y)) : ifCond.holds .eq (lcmpW x y) = false := i0W_eq_f fun q => h ((lw_eq x y).mp q)
theorem lcW_ne_t {x y : Int64} (h : ¬ (x = y)) : ifCond.holds .ne (lcmpW x y) = true := i0W_ne_t fun q => h ((lw_eq x y).mp q)
theorem lcW_ne_f {x y : Int64} (h : ¬ ¬ (x = y)) : ifCond.holds .ne (lcmpW x y) = false := i0W_ne_f fun q => h fun z => q ((lw_eq x y).mpr z)
/-- how two whole numbers compare, as dcmp pushes it -/
def cmpZ (i j : Int) : Int32 := if i < j then -1 else if i = j then 0 else 1
theorem cmpZ_lt (i j : Int) : cmpZ i j < (0 : Int32) ↔ i < j := by
  unfold cmpZ
  by_cases h1 : i < j
  · rw [if_pos h1]; exact ⟨fun _ => h1, fun _ => by decide⟩
  · rw [if_neg h1]
    by_cases h2 : i = j
    · rw [if_pos h2]; exact ⟨fun q => absurd q (by decide), fun q => absurd q h1⟩
    · rw [if_neg h2]; exact ⟨fun q => absurd q (by decide), fun q => absurd q h1⟩
theorem cmpZ_gt (i j : Int) : (0 : Int32) < cmpZ i j ↔ j < i := by
  unfold cmpZ
  by_cases h1 : i < j
  · rw [if_pos h1]; exact ⟨fun q => absurd q (by decide), fun q => by omega⟩
  · rw [if_neg h1]
    by_cases h2 : i = j
    · rw [if_pos h2]; exact ⟨fun q => absurd q (by decide), fun q => by omega⟩
    · rw [if_neg h2]; exact ⟨fun _ => by omega, fun _ => by decide⟩
theorem cmpZ_eq (i j : Int) : cmpZ i j = (0 : Int32) ↔ i = j := by
  unfold cmpZ
  by_cases h1 : i < j
  · rw [if_pos h1]; exact ⟨fun q => absurd q (by decide), fun q => by omega⟩
  · rw [if_neg h1]
    by_cases h2 : i = j
    · rw [if_pos h2]; exact ⟨fun _ => h2, fun _ => rfl⟩
    · rw [if_neg h2]; exact ⟨fun q => absurd q (by decide), fun q => absurd q h2⟩
theorem ciW_lt_t {x y : Int} (h : x < y) : ifCond.holds .lt (cmpZ x y) = true := i0W_lt_t ((cmpZ_lt x y).mpr h)
theorem ciW_lt_f {x y : Int} (h : ¬ (x < y)) : ifCond.holds .lt (cmpZ x y) = false := i0W_lt_f fun q => h ((cmpZ_lt x y).mp q)
theorem ciW_ge_t {x y : Int} (h : ¬ (x < y)) : ifCond.holds .ge (cmpZ x y) = true := i0W_ge_t fun q => h ((cmpZ_lt x y).mp q)
theorem ciW_ge_f {x y : Int} (h : ¬ ¬ (x < y)) : ifCond.holds .ge (cmpZ x y) = false := i0W_ge_f fun q => h fun z => q ((cmpZ_lt x y).mpr z)
theorem ciW_gt_t {x y : Int} (h : y < x) : ifCond.holds .gt (cmpZ x y) = true := i0W_gt_t ((cmpZ_gt x y).mpr h)
theorem ciW_gt_f {x y : Int} (h : ¬ (y < x)) : ifCond.holds .gt (cmpZ x y) = false := i0W_gt_f fun q => h ((cmpZ_gt x y).mp q)
theorem ciW_le_t {x y : Int} (h : ¬ (y < x)) : ifCond.holds .le (cmpZ x y) = true := i0W_le_t fun q => h ((cmpZ_gt x y).mp q)
theorem ciW_le_f {x y : Int} (h : ¬ ¬ (y < x)) : ifCond.holds .le (cmpZ x y) = false := i0W_le_f fun q => h fun z => q ((cmpZ_gt x y).mpr z)
theorem ciW_eq_t {x y : Int} (h : x = y) : ifCond.holds .eq (cmpZ x y) = true := i0W_eq_t ((cmpZ_eq x y).mpr h)
theorem ciW_eq_f {x y : Int} (h : ¬ (x = y)) : ifCond.holds .eq (cmpZ x y) = false := i0W_eq_f fun q => h ((cmpZ_eq x y).mp q)
theorem ciW_ne_t {x y : Int} (h : ¬ (x = y)) : ifCond.holds .ne (cmpZ x y) = true := i0W_ne_t fun q => h ((cmpZ_eq x y).mp q)
theorem ciW_ne_f {x y : Int} (h : ¬ ¬ (x = y)) : ifCond.holds .ne (cmpZ x y) = false := i0W_ne_f fun q => h fun z => q ((cmpZ_eq x y).mpr z)
section B
variable {C : Prop} [Decidable C]
theorem b01or (C : Prop) [Decidable C] : (if C then (1 : Int32) else (0 : Int32)) = 0 ∨ (if C then (1 : Int32) else (0 : Int32)) = 1 := by split <;> simp
theorem b01_eq_t (h : ¬ (C)) : ifCond.holds .eq (if C then (1 : Int32) else (0 : Int32)) = true := by rw [if_neg h]; rfl
theorem b01_eq_f (h : ¬ ¬ (C)) : ifCond.holds .eq (if C then (1 : Int32) else (0 : Int32)) = false := by rw [if_pos (Decidable.not_not.mp h)]; rfl
theorem b01_ne_t (h : C) : ifCond.holds .ne (if C then (1 : Int32) else (0 : Int32)) = true := by rw [if_pos h]; rfl
theorem b01_ne_f (h : ¬ (C)) : ifCond.holds .ne (if C then (1 : Int32) else (0 : Int32)) = false := by rw [if_neg h]; rfl
end B
theorem narrow_01 {x : Int32} (h : x = 0 ∨ x = 1) : narrow .boolean (.int x) = .int x := by rcases h with rfl | rfl <;> rfl
theorem fits_01 {x : Int32} (h : x = 0 ∨ x = 1) : fits .boolean (.int x) = true := by rcases h with rfl | rfl <;> rfl
theorem cat1 {v : Value} (h : v.isRef = true) : v.category = 1 := by cases v <;> first | rfl | (simp [Value.isRef] at h)
theorem narrow_refT {v : Value} {t : FieldType} (h : v.isRef = true) : narrow t v = v := by cases v <;> first | (simp [Value.isRef] at h; done) | (cases t <;> rfl)
theorem fits_refT {v : Value} {t : FieldType} (h : v.isRef = true) (ht : t.isReference = true) : fits t v = true := by cases v <;> first | (simp [Value.isRef] at h; done) | (cases t <;> first | rfl | (simp [FieldType.isReference] at ht; done))
theorem nab_mul {i j : Int} {A B : Nat} (h1 : i.natAbs ≤ A) (h2 : j.natAbs ≤ B) : (i * j).natAbs ≤ A * B := by rw [Int.natAbs_mul]; exact Nat.mul_le_mul h1 h2
theorem nab_add {i j : Int} {A B : Nat} (h1 : i.natAbs ≤ A) (h2 : j.natAbs ≤ B) : (i + j).natAbs ≤ A + B := by omega
theorem nab_sub {i j : Int} {A B : Nat} (h1 : i.natAbs ≤ A) (h2 : j.natAbs ≤ B) : (i - j).natAbs ≤ A + B := by omega
/-! whole numbers as doubles -/
section C
open Jvm.FP Jvm.FP.Core Jvm.Free.Fl
theorem dint_c0 : DInt 0 FP.dconst0 := by
  have h := i2d_int 0
  rwa [show Core.i2d 0 = FP.dconst0 from by decide +kernel] at h
theorem dint_c1 : DInt 1 FP.dconst1 := by
  have h := i2d_int 1
  rwa [show Core.i2d 1 = FP.dconst1 from by decide +kernel] at h
theorem dint_ite {C : Prop} [Decidable C] {i j : Int} {a b : UInt64} (h1 : C → DInt i a) (h0 : ¬ C → DInt j b) : DInt (if C then i else j) (if C then a else b) := by
  by_cases h : C
  · rw [if_pos h, if_pos h]; exact h1 h
  · rw [if_neg h, if_neg h]; exact h0 h
theorem nnD {i : Int} {a : UInt64} (h : DInt i a) : NoNaN64 a := val64_no.mpr (DInt_ne_nan h)
theorem dcmpZ {i j : Int} {a b : UInt64} (ha : DInt i a) (hb : DInt j b) {o : CmpOp} : cmpValue (FP.dcmp a b) o = cmpZ i j := by
  rw [show FP.dcmp a b = some (compare i j) from dcmp_int ha hb, compare_ite]
  unfold cmpZ
  split
  · rfl
  · split <;> rfl
end C
end Jvm.OwnW
namespace Jvm.OwnX
open Sem ClassFile Op Lib Jvm.Stand Jvm.Free Jvm.LawKit Jvm.RoadKit Jvm.OwnW
/-- where a walk stands that may have loaded String constants -/
def Pos (p : Program) (l : Launch) (e : Env) (R : Room) (s : State) (m : MethodId) (args : Array Value) (below : List Frame) (meth : Method) (c : Code) (Z : State) (own : String) (ws : List Addr) (bd : Nat) (T : State) (h : Heap) (k n : Nat) : Prop :=
  ∃ (vm0 : Vm) (k0 : Nat), s.Since vm0 k0 ∧ k0 ≤ h.size ∧ (∃ locs, Stand p l e R (s.setVm vm0) m args below meth c T locs k n ∧ Fw ws bd locs) ∧ T.heap = h ∧ bd ≤ h.size ∧ Z.Warmed39 (s.setVm vm0).vm ∧ p.tables.exec = Jvm.exec ∧ (s.setVm vm0).vm.findClass own = some m.cls ∧ meth.locks = false ∧ k ≤ R.cells ∧ n ≤ R.slots
/-- the walk that stands at the frame g in T comes to its return, and Q holds of what it returns and of the heap it leaves -/
def Done (p : Program) (l : Launch) (e : Env) (R : Room) (s : State) (m : MethodId) (args : Array Value) (below : List Frame) (meth : Method) (c : Code) (Z : State) (own : String) (ws : List Addr) (bd : Nat) (Q : Option Value → Heap → Prop) (T : State) (g : JFrame) : Prop :=
  ∃ v T' h' k n, Pos p l e R s m args below meth c Z own ws bd T' h' k n ∧ (meth.sig.returnType = none → v = none) ∧ Q v h' ∧
    ∀ fs, (∀ (f : JFrame) (acts : List Action), f.method = m → f.locked = none → f.entered = [] → (doReturn e (T'.setTop f) acts v).1 = T'.setFrames fs) → Steps p.tables e below (T.setTop g) (T'.setFrames fs)
/-- a method's contract, asked at one heap and one row of arguments; it writes what lies in 'ws' and what it makes, alone -/
def OMet (l : Launch) (y : MethodName) (bytes : ByteArray) (maxL : Nat) (ret : Option FieldType) (wd : List Cond) (rm : Room) (Z : State) (h : Heap) (ws : List Addr) (as' : Array Value) (Q : Option Value → Heap → Prop) : Prop :=
  MetFree l y (head1 (Cond.code y bytes maxL ret :: wd) rm) (fun a U => a = as' ∧ Z.Warmed39 U.vm ∧ U.heap = h) (fun _ _ _ _ _ => True) (fun _ U o U' => ∃ v L, o = .returned v ∧ (Q v U'.heap ∧ Fw ws h.size L ∧ Keep h U'.heap ws) ∧ ReturnedEndW U o U' L rm.cells rm.slots)
section A
variable {p : Program} {l : Launch} {e : Env} {R : Room} {s : State} {m : MethodId} {args : Array Value} {below : List Frame} {meth : Method} {c : Code} {Z : State} {own : String} {ws : List Addr} {bd : Nat} {T : State} {h h' : Heap} {k n : Nat} {a0 : Array Value} {Q : Option Value → Heap → Prop} {pc pc' : Nat} {Ls : Array Slot} {st : List Value} {T₁ : State} {g₁ : JFrame}
theorem Pos.here (P : Pos p l e R s m args below meth c Z own ws bd T h k n) : At T m c below := by obtain ⟨_, _, _, _, ⟨_, X, _⟩, _⟩ := P; exact X.here
theorem Pos.x (P : Pos p l e R s m args below meth c Z own ws bd T h k n) : p.tables.exec = Jvm.exec := by obtain ⟨_, _, _, _, _, _, _, _, q, _⟩ := P; exact q
theorem Pos.ge (P : Pos p l e R s m args below meth c Z own ws bd T h k n) : bd ≤ h.size := by obtain ⟨_, _, _, _, _, _, q, _⟩ := P; exact q
theorem Pos.more (P : Pos p l e R s m args below meth c Z own ws bd T h k n) {k' n' : Nat} (hk : k ≤ k') (hn : n ≤ n') (hk' : k' ≤ R.cells) (hn' : n' ≤ R.slots) : Pos p l e R s m args below meth c Z own ws bd T h k' n' := by
  obtain ⟨v, k0, S, K0, ⟨L, X, N'⟩, a, b, c, d, f, g, _, _⟩ := P
  exact ⟨v, k0, S, K0, ⟨L, X.more hk hn, N'⟩, a, b, c, d, f, g, hk', hn'⟩
theorem Pos.cast {k' n' : Nat} (P : Pos p l e R s m args below meth c Z own ws bd T h k n) (hk : k = k') (hn : n = n') : Pos p l e R s m args below meth c Z own ws bd T h k' n' := by subst hk hn; exact P






theorem Done.step {T' : State} {g g' : JFrame} (hs : ∀ t, Steps p.tables e below (T'.setTop g') t → Steps p.tables e below (T.setTop g) t) (D : Done p l e R s m args below meth c Z own ws bd Q T' g') : Done p l e R s m args below meth c Z own ws bd Q T g := by
  obtain ⟨v, T1, h1, k1, n1, P, hv, hq, st⟩ := D
  exact ⟨v, T1, h1, k1, n1, P, hv, hq, fun fs hl => hs _ (st fs hl)⟩
theorem Done.stepL {st' : List Value} (hs : ∀ t, Steps p.tables e below (T.setTop (mkF m pc' Ls st')) t → Steps p.tables e below (T.setTop (mkF m pc Ls st)) t) (D : Done p l e R s m args below meth c Z own ws bd Q T (mkF m pc' Ls st')) : Done p l e R s m args below meth c Z own ws bd Q T (mkF m pc Ls st) := Done.step hs D
theorem Done.imp {Q' : Option Value → Heap → Prop} {g : JFrame} (D : Done p l e R s m args below meth c Z own ws bd Q T g) (q : ∀ v h, Q v h → Q' v h) : Done p l e R s m args below meth c Z own ws bd Q' T g := by
  obtain ⟨v, T1, h1, k1, n1, P, hv, hq, st⟩ := D
  exact ⟨v, T1, h1, k1, n1, P, hv, q _ _ hq, st⟩

theorem wRet {w : Value} {t : FieldType} {i : Instr} (P : Pos p l e R s m args below meth c Z own ws bd T h k n) (hret : meth.sig.returnType = some t) (hn : narrow t w = w)
    (hi : (i = .ireturn ∧ (t = .int ∨ t = .boolean ∨ t = .byte ∨ t = .char ∨ t = .short) ∧ ∃ z, w = .int z) ∨ (i = .lreturn ∧ t = .long ∧ ∃ z, w = .long z) ∨ (i = .dreturn ∧ t = .double ∧ ∃ z, w = .double z) ∨ (i = .freturn ∧ t = .float ∧ ∃ z, w = .float z) ∨ (i = .areturn ∧ t.isReference = true ∧ w.isRef = true))
    (hd : decode c.code pc = .ok (i, 1)) (hq : Q (some w) h) : Done p l e R s m args below meth c Z own ws bd Q T (mkF m pc Ls (w :: st)) := by
  obtain ⟨vm0, k0, hS, hk0, ⟨L, X, N'⟩, r⟩ := id P
  exact ⟨some w, T, h, k, n, P, (fun q => by rw [hret] at q; cases q), hq, fun fs hl => retOut X P.x hret hn hi hd hl⟩
theorem wRetI {z : Int32} (P : Pos p l e R s m args below meth c Z own ws bd T h k n) (hret : meth.sig.returnType = some .int) (hd : decode c.code pc = .ok (.ireturn, 1)) (hq : Q (some (.int z)) h) : Done p l e R s m args below meth c Z own ws bd Q T (mkF m pc Ls (.int z :: st)) :=
  wRet P hret rfl (Or.inl ⟨rfl, Or.inl rfl, z, rfl⟩) hd hq
theorem wRetJ {z : Int64} (P : Pos p l e R s m args below meth c Z own ws bd T h k n) (hret : meth.sig.returnType = some .long) (hd : decode c.code pc = .ok (.lreturn, 1)) (hq : Q (some (.long z)) h) : Done p l e R s m args below meth c Z own ws bd Q T (mkF m pc Ls (.long z :: st)) :=
  wRet P hret rfl (Or.inr (Or.inl ⟨rfl, rfl, z, rfl⟩)) hd hq
theorem wRetD {z : UInt64} (P : Pos p l e R s m args below meth c Z own ws bd T h k n) (hret : meth.sig.returnType = some .double) (hd : decode c.code pc = .ok (.dreturn, 1)) (hq : Q (some (.double z)) h) : Done p l e R s m args below meth c Z own ws bd Q T (mkF m pc Ls (.double z :: st)) :=
  wRet P hret rfl (Or.inr (Or.inr (Or.inl ⟨rfl, rfl, z, rfl⟩))) hd hq
theorem wRetA {w : Value} {t : FieldType} (P : Pos p l e R s m args below meth c Z own ws bd T h k n) (hret : meth.sig.returnType = some t) (ht : t.isReference = true) (hw : w.isRef = true) (hd : decode c.code pc = .ok (.areturn, 1)) (hq : Q (some w) h) : Done p l e R s m args below meth c Z own ws bd Q T (mkF m pc Ls (w :: st)) :=
  wRet P hret (by cases w <;> first | rfl | (simp [Value.isRef] at hw; done) | (cases t <;> first | rfl | (simp [FieldType.isReference] at ht))) (Or.inr (Or.inr (Or.inr (Or.inr ⟨rfl, ht, hw⟩)))) hd hq
theorem wRetN {z : Int32} {t : FieldType} (P : Pos p l e R s m args below meth c Z own ws bd T h k n) (hret : meth.sig.returnType = some t) (ht : t = .boolean ∨ t = .byte ∨ t = .char ∨ t = .short) (hd : decode c.code pc = .ok (.ireturn, 1)) (hq : Q (some (.int (nar t z))) h) : Done p l e R s m args below meth c Z own ws bd Q T (mkF m pc Ls (.int z :: st)) := by
  obtain ⟨vm0, k0, hS, hk0, ⟨L, X, N'⟩, r⟩ := id P
  exact ⟨_, T, h, k, n, P, (fun q => by rw [hret] at q; cases q), hq, fun fs hl => retN X P.x hret ht hd hl⟩
theorem wRetV (P : Pos p l e R s m args below meth c Z own ws bd T h k n) (hret : meth.sig.returnType = none) (hd : decode c.code pc = .ok (.return_, 1)) (hq : Q none h) : Done p l e R s m args below meth c Z own ws bd Q T (mkF m pc Ls []) := by
  obtain ⟨vm0, k0, hS, hk0, ⟨L, X, N'⟩, r⟩ := id P
  exact ⟨none, T, h, k, n, P, fun _ => rfl, hq, fun fs hl => X.returnOut P.x hret hd hl⟩
theorem wGet {R0 O nm d host : String} {index : Nat} {a : Addr} {v : Value} (P : Pos p l e R s m args below meth c Z own ws bd T h k n) (w : (Cond.fieldLink own index R0 nm d).before a0 Z = true ∨ (Cond.fieldLinkNest own index R0 nm d host).before a0 Z = true) (via : Via Z R0 O nm d) (F : Fld Z h a O nm d v)
    (hd : decode c.code pc = .ok (.getfield index, 3)) (hp : pc + 3 = pc') (K : ∀ T', Pos p l e R s m args below meth c Z own ws bd T' h k n → Done p l e R s m args below meth c Z own ws bd Q T' (mkF m pc' Ls (v :: st))) : Done p l e R s m args below meth c Z own ws bd Q T (mkF m pc Ls (.ref a :: st)) := by
  obtain ⟨vm0, k0, hS, hk0, ⟨L, X, N'⟩, eT, b, hZ, hx, ho, r⟩ := id P
  obtain ⟨T', X', e', stp⟩ := getF X hx hZ ho w via eT F (g := mkF m pc Ls (.ref a :: st)) rfl rfl hd
  subst hp
  exact Done.step stp (K T' ⟨vm0, k0, hS, (hk0), ⟨L, X', N'⟩, e', b, hZ, hx, ho, r⟩)
theorem wGetS {R0 O nm d host : String} {index : Nat} {v : Value} (P : Pos p l e R s m args below meth c Z own ws bd T h k n) (w : (Cond.fieldLink own index R0 nm d).before a0 Z = true ∨ (Cond.fieldLinkNest own index R0 nm d host).before a0 Z = true) (via : Via Z R0 O nm d) (F : Sta Z h O nm d v)
    (hd : decode c.code pc = .ok (.getstatic index, 3)) (hp : pc + 3 = pc') (K : ∀ T', Pos p l e R s m args below meth c Z own ws bd T' h k n → Done p l e R s m args below meth c Z own ws bd Q T' (mkF m pc' Ls (v :: st))) : Done p l e R s m args below meth c Z own ws bd Q T (mkF m pc Ls st) := by
  obtain ⟨vm0, k0, hS, hk0, ⟨L, X, N'⟩, eT, b, hZ, hx, ho, r⟩ := id P
  obtain ⟨T', X', e', stp⟩ := getS2 X hx hZ ho w via eT F (g := mkF m pc Ls st) rfl hd
  subst hp
  exact Done.step stp (K T' ⟨vm0, k0, hS, (hk0), ⟨L, X', N'⟩, e', b, hZ, hx, ho, r⟩)
theorem wPut {R0 O nm d host C : String} {index kk : Nat} {ty : FieldType} {a : Addr} {v old : Value} (P : Pos p l e R s m args below meth c Z own ws bd T h k n) (w : (Cond.fieldLink own index R0 nm d).before a0 Z = true ∨ (Cond.fieldLinkNest own index R0 nm d host).before a0 Z = true) (via : Via Z R0 O nm d) (F : Fld Z h a O nm d old) (E : Exa Z h a C)
    (La : (Cond.lays C O nm d).before a0 Z = true ∨ ((Cond.laysFinal C O nm d).before a0 Z = true ∧ own = O ∧ meth.name = "<init>")) (wi : (Cond.instantiable C kk).before a0 Z = true) (hty : parseFieldDescriptor d = some ty) (hn : narrow ty v = v) (hf : fits ty v = true) (hge : a ∈ ws ∨ bd ≤ a)
    (hd : decode c.code pc = .ok (.putfield index, 3)) (hp : pc + 3 = pc') (K : ∀ T' h', Pos p l e R s m args below meth c Z own ws bd T' h' k n → Wr h h' a (Jvm.RoadKit.slotOf Z O nm d) v → Fld Z h' a O nm d v → Done p l e R s m args below meth c Z own ws bd Q T' (mkF m pc' Ls st)) : Done p l e R s m args below meth c Z own ws bd Q T (mkF m pc Ls (v :: .ref a :: st)) := by
  obtain ⟨vm0, k0, hS, hk0, ⟨L, X, N'⟩, eT, b, hZ, hx, ho, r⟩ := id P
  obtain ⟨T', h', X', e', W, stp⟩ := putF X hx hZ ho w via eT F E La wi hty hn hf (g := mkF m pc Ls (v :: .ref a :: st)) rfl rfl hd
  subst hp
  exact Done.step stp (K T' h' ⟨vm0, k0, hS, (by rw [W.size]; exact hk0), ⟨_, X', Fw.snoc N' hge⟩, e', by rw [W.size]; exact b, hZ, hx, ho, r⟩ W (F.same W))
theorem wPutN {R0 O nm d C : String} {index kk : Nat} {ty : FieldType} {a : Addr} {x x' : Int32} {old : Value} (P : Pos p l e R s m args below meth c Z own ws bd T h k n) (w : (Cond.fieldLink own index R0 nm d).before a0 Z = true) (via : Via Z R0 O nm d) (F : Fld Z h a O nm d old) (E : Exa Z h a C)
    (La : (Cond.lays C O nm d).before a0 Z = true ∨ ((Cond.laysFinal C O nm d).before a0 Z = true ∧ own = O ∧ meth.name = "<init>")) (wi : (Cond.instantiable C kk).before a0 Z = true) (hty : parseFieldDescriptor d = some ty) (hn : narrow ty (.int x) = .int x') (hf : fits ty (.int x') = true) (hge : a ∈ ws ∨ bd ≤ a)
    (hd : decode c.code pc = .ok (.putfield index, 3)) (hp : pc + 3 = pc') (K : ∀ T' h', Pos p l e R s m args below meth c Z own ws bd T' h' k n → Wr h h' a (Jvm.RoadKit.slotOf Z O nm d) (.int x') → Fld Z h' a O nm d (.int x') → Done p l e R s m args below meth c Z own ws bd Q T' (mkF m pc' Ls st)) : Done p l e R s m args below meth c Z own ws bd Q T (mkF m pc Ls (.int x :: .ref a :: st)) := by
  obtain ⟨vm0, k0, hS, hk0, ⟨L, X, N'⟩, eT, b, hZ, hx, ho, r⟩ := id P
  obtain ⟨T', h', X', e', W, stp⟩ := putFN X hx hZ ho w via eT F E La wi (v' := .int x') hty hn hf (g := mkF m pc Ls (.int x :: .ref a :: st)) rfl rfl hd
  subst hp
  exact Done.step stp (K T' h' ⟨vm0, k0, hS, (by rw [W.size]; exact hk0), ⟨_, X', Fw.snoc N' hge⟩, e', by rw [W.size]; exact b, hZ, hx, ho, r⟩ W (F.same W))
theorem wNew {C : String} {index nn : Nat} (P : Pos p l e R s m args below meth c Z own ws bd T h k n) (w : (Cond.classLink own index C).before a0 Z = true) (wi : (Cond.instantiable C nn).before a0 Z = true) (wz : (Cond.initialized C).before a0 Z = true)
    (hd : decode c.code pc = .ok (.new index, 3)) (hp : pc + 3 = pc') (hc : k + 1 ≤ R.cells) (hl : n + nn ≤ R.slots) {k' n' : Nat} (hk' : k + 1 = k') (hn' : n + nn = n')
    (K : ∀ T' h' a, a = h.size → h.size < h'.size → Pos p l e R s m args below meth c Z own ws bd T' h' k' n' → Ext h h' → Exa Z h' a C → (∀ {O nm d : String} {ty : FieldType}, Laid Z a0 C O nm d → parseFieldDescriptor d = some ty → Fld Z h' a O nm d (defaultValue ty)) → Done p l e R s m args below meth c Z own ws bd Q T' (mkF m pc' Ls (.ref a :: st))) : Done p l e R s m args below meth c Z own ws bd Q T (mkF m pc Ls st) := by
  obtain ⟨vm0, k0, hS, hk0, ⟨L, X, N'⟩, eT, b, hZ, hx, ho, hlk, _, _⟩ := id P
  obtain ⟨T', h', X', e', E, A, D, -, stp⟩ := newO X hx hZ ho w wi wz eT (g := mkF m pc Ls st) rfl hd hc hl
  subst hp hk' hn'
  exact Done.step stp (K T' h' h.size rfl A.lt ⟨vm0, k0, hS, (Nat.le_trans hk0 E.1), ⟨L, X', N'⟩, e', Nat.le_trans b E.1, hZ, hx, ho, hlk, hc, hl⟩ E A D)
theorem wNewA {aty : ArrayType} {z : Int32} {N cap : Nat} (P : Pos p l e R s m args below meth c Z own ws bd T h k n) (w : (Cond.arrayClass (newarray.typeOf aty)).before a0 Z = true) (hd : decode c.code pc = .ok (.newarray aty, 2)) (hp : pc + 2 = pc') (hz : z.toInt = (N : Int)) (hcap : N ≤ cap) (hb : cap * 8 ≤ 536870912) (hc : k + 1 ≤ R.cells) (hl : n + cap ≤ R.slots)
    {ad : String} (had : "[" ++ (newarray.typeOf aty).toString = ad) {ty : FieldType} {dv : Value} (hty : newarray.typeOf aty = ty) (hdv : defaultValue ty = dv) {k' n' : Nat} (hk' : k + 1 = k') (hn' : n + cap = n')
    (K : ∀ T' h' a, a = h.size → h.size < h'.size → Pos p l e R s m args below meth c Z own ws bd T' h' k' n' → Ext h h' → Ar Z h' a ty N (fun _ => dv) → Exa Z h' a ad → Done p l e R s m args below meth c Z own ws bd Q T' (mkF m pc' Ls (.ref a :: st))) : Done p l e R s m args below meth c Z own ws bd Q T (mkF m pc Ls (.int z :: st)) := by
  obtain ⟨vm0, k0, hS, hk0, ⟨L, X, N'⟩, eT, b, hZ, hx, ho, hlk, _, _⟩ := id P
  have hz0 : ¬ z < 0 := by rw [Int32.lt_iff_toInt_lt, hz, show (0 : Int32).toInt = 0 from rfl]; omega
  have hzn : z.toNatClampNeg = N := by rw [Int32.toNatClampNeg, hz]; omega
  have hN := z.toInt_lt
  obtain ⟨T', h', kA, X', e', E, A, Ex, stp⟩ := newPE X hx hZ w eT (g := mkF m pc Ls (.int z :: st)) rfl hd rfl hz0 (by rw [hzn]; exact hcap) hb hc hl had
  subst hp hk' hn' hty hdv
  refine Done.step stp (K T' h' h.size rfl A.lt ⟨vm0, k0, hS, (Nat.le_trans hk0 E.1), ⟨L, X', N'⟩, e', Nat.le_trans b E.1, hZ, hx, ho, hlk, hc, hl⟩ E ⟨_, A, by rw [sz_new, hzn], by omega, fun i hi => ?_⟩ Ex)
  simp [newA, hzn, hi]
theorem wLen {ty : FieldType} {N : Nat} {f : Nat → Value} {a : Addr} (P : Pos p l e R s m args below meth c Z own ws bd T h k n) (A : Ar Z h a ty N f) {z : Int32} (hz : z.toInt = (N : Int)) (hd : decode c.code pc = .ok (.arraylength, 1)) (hp : pc + 1 = pc')
    (K : Done p l e R s m args below meth c Z own ws bd Q T (mkF m pc' Ls (.int z :: st))) : Done p l e R s m args below meth c Z own ws bd Q T (mkF m pc Ls (.ref a :: st)) := by
  obtain ⟨vm0, k0, hS, hk0, ⟨L, X, N'⟩, eT, b, hZ, hx, ho, hlk, _, _⟩ := id P
  obtain ⟨cl, Ar, S, hN, H⟩ := A
  subst hp
  refine Done.step (fun t kk => X.arraylength hx (by rw [eT]; exact Ar.1) (State.isArrayOf_alike hZ.alike Ar.2.1) (g := mkF m pc Ls (.ref a :: st)) rfl rfl hd t ?_) K
  rw [S, show N.toInt32 = z from Int32.toInt_inj.mp (by rw [toI32 hN, hz])]
  exact kk
theorem wDaload {N i : Nat} {f : Nat → Value} {a : Addr} {j : Int32} (P : Pos p l e R s m args below meth c Z own ws bd T h k n) (A : Ar Z h a .double N f) (hj : j.toInt = (i : Int)) (hi : i < N) {v : Value} (hv : f i = v) (hd : decode c.code pc = .ok (.daload, 1)) (hp : pc + 1 = pc')
    (K : Done p l e R s m args below meth c Z own ws bd Q T (mkF m pc' Ls (v :: st))) : Done p l e R s m args below meth c Z own ws bd Q T (mkF m pc Ls (.int j :: .ref a :: st)) := by
  obtain ⟨vm0, k0, hS, hk0, ⟨L, X, N'⟩, eT, b, hZ, hx, ho, hlk, _, _⟩ := id P
  obtain ⟨cl, Ar, S, hN, H⟩ := A
  obtain ⟨q1, q2⟩ := in_of S hj hi
  subst hp hv
  exact Done.step (fun t kk => X.daload hx (by rw [eT]; exact Ar.1) (State.isArrayOf_alike hZ.alike Ar.2.1) Ar.2.2 q1 (by rw [q2]; exact H i hi) (g := mkF m pc Ls (.int j :: .ref a :: st)) rfl rfl hd t kk) K
theorem wIaload {N i : Nat} {f : Nat → Value} {a : Addr} {j : Int32} (P : Pos p l e R s m args below meth c Z own ws bd T h k n) (A : Ar Z h a .int N f) (hj : j.toInt = (i : Int)) (hi : i < N) {v : Value} (hv : f i = v) (hd : decode c.code pc = .ok (.iaload, 1)) (hp : pc + 1 = pc')
    (K : Done p l e R s m args below meth c Z own ws bd Q T (mkF m pc' Ls (v :: st))) : Done p l e R s m args below meth c Z own ws bd Q T (mkF m pc Ls (.int j :: .ref a :: st)) := by
  obtain ⟨vm0, k0, hS, hk0, ⟨L, X, N'⟩, eT, b, hZ, hx, ho, hlk, _, _⟩ := id P
  obtain ⟨cl, Ar, S, hN, H⟩ := A
  obtain ⟨q1, q2⟩ := in_of S hj hi
  subst hp hv
  exact Done.step (fun t kk => X.iaload hx (by rw [eT]; exact Ar.1) (State.isArrayOf_alike hZ.alike Ar.2.1) Ar.2.2 q1 (by rw [q2]; exact H i hi) (g := mkF m pc Ls (.int j :: .ref a :: st)) rfl rfl hd t kk) K
theorem wCaload {N i : Nat} {f : Nat → Value} {a : Addr} {j : Int32} (P : Pos p l e R s m args below meth c Z own ws bd T h k n) (A : Ar Z h a .char N f) (hj : j.toInt = (i : Int)) (hi : i < N) {v : Value} (hv : f i = v) (hd : decode c.code pc = .ok (.caload, 1)) (hp : pc + 1 = pc')
    (K : Done p l e R s m args below meth c Z own ws bd Q T (mkF m pc' Ls (v :: st))) : Done p l e R s m args below meth c Z own ws bd Q T (mkF m pc Ls (.int j :: .ref a :: st)) := by
  obtain ⟨vm0, k0, hS, hk0, ⟨L, X, N'⟩, eT, b, hZ, hx, ho, hlk, _, _⟩ := id P
  obtain ⟨cl, Ar, S, hN, H⟩ := A
  obtain ⟨q1, q2⟩ := in_of S hj hi
  subst hp hv
  exact Done.step (fun t kk => X.caload hx (by rw [eT]; exact Ar.1) (State.isArrayOf_alike hZ.alike Ar.2.1) Ar.2.2 q1 (by rw [q2]; exact H i hi) (g := mkF m pc Ls (.int j :: .ref a :: st)) rfl rfl hd t kk) K
theorem wAaload {N i : Nat} {f : Nat → Value} {a : Addr} {j : Int32} {ty : FieldType} (P : Pos p l e R s m args below meth c Z own ws bd T h k n) (A : Ar Z h a ty N f) (hty : ty.isReference = true) (hj : j.toInt = (i : Int)) (hi : i < N) {v : Value} (hv : f i = v) (hd : decode c.code pc = .ok (.aaload, 1)) (hp : pc + 1 = pc')
    (K : Done p l e R s m args below meth c Z own ws bd Q T (mkF m pc' Ls (v :: st))) : Done p l e R s m args below meth c Z own ws bd Q T (mkF m pc Ls (.int j :: .ref a :: st)) := by
  obtain ⟨vm0, k0, hS, hk0, ⟨L, X, N'⟩, eT, b, hZ, hx, ho, hlk, _, _⟩ := id P
  obtain ⟨cl, Ar, S, hN, H⟩ := A
  obtain ⟨q1, q2⟩ := in_of S hj hi
  subst hp hv
  exact Done.step (fun t kk => X.aaload hx (by rw [eT]; exact Ar.1) (State.isArrayOf_alike hZ.alike Ar.2.1) hty Ar.2.2 q1 (by rw [q2]; exact H i hi) (g := mkF m pc Ls (.int j :: .ref a :: st)) rfl rfl hd t kk) K
theorem wDastore {N i : Nat} {f : Nat → UInt64} {a : Addr} {j : Int32} {x : UInt64} (P : Pos p l e R s m args below meth c Z own ws bd T h k n) (A : Ar Z h a .double N (fun i => .double (f i))) (hj : j.toInt = (i : Int)) (hi : i < N) (hge : a ∈ ws ∨ bd ≤ a) (hd : decode c.code pc = .ok (.dastore, 1)) (hp : pc + 1 = pc')
    (K : ∀ T' h', Pos p l e R s m args below meth c Z own ws bd T' h' k n → Wr h h' a i (.double x) → Ar Z h' a .double N (fun j => .double (oupd f i x j)) → Done p l e R s m args below meth c Z own ws bd Q T' (mkF m pc' Ls st)) : Done p l e R s m args below meth c Z own ws bd Q T (mkF m pc Ls (.double x :: .int j :: .ref a :: st)) := by
  obtain ⟨vm0, k0, hS, hk0, ⟨L, X, N'⟩, eT, b, hZ, hx, ho, r⟩ := id P
  obtain ⟨cl, Ar', S, hN, H⟩ := A
  obtain ⟨q1, q2⟩ := in_of S hj hi
  obtain ⟨T', h', X', e', W, stp⟩ := stD X hx hZ eT Ar' q1 (g := mkF m pc Ls (.double x :: .int j :: .ref a :: st)) rfl rfl hd
  subst hp
  rw [q2] at W
  refine Done.step stp (K T' h' ⟨vm0, k0, hS, (by rw [W.size]; exact hk0), ⟨_, X', Fw.snoc N' hge⟩, e', by rw [W.size]; exact b, hZ, hx, ho, r⟩ W ((Ar.set Ar' S hN H hi W).congr fun j _ => ?_))
  unfold oupd; split <;> rfl
theorem wIastore {N i : Nat} {f : Nat → Int32} {a : Addr} {j : Int32} {x : Int32} (P : Pos p l e R s m args below meth c Z own ws bd T h k n) (A : Ar Z h a .int N (fun i => .int (f i))) (hj : j.toInt = (i : Int)) (hi : i < N) (hge : a ∈ ws ∨ bd ≤ a) (hd : decode c.code pc = .ok (.iastore, 1)) (hp : pc + 1 = pc')
    (K : ∀ T' h', Pos p l e R s m args below meth c Z own ws bd T' h' k n → Wr h h' a i (.int x) → Ar Z h' a .int N (fun j => .int (oupd f i x j)) → Done p l e R s m args below meth c Z own ws bd Q T' (mkF m pc' Ls st)) : Done p l e R s m args below meth c Z own ws bd Q T (mkF m pc Ls (.int x :: .int j :: .ref a :: st)) := by
  obtain ⟨vm0, k0, hS, hk0, ⟨L, X, N'⟩, eT, b, hZ, hx, ho, r⟩ := id P
  obtain ⟨cl, Ar', S, hN, H⟩ := A
  obtain ⟨q1, q2⟩ := in_of S hj hi
  obtain ⟨T', h', X', e', W, stp⟩ := stI X hx hZ eT Ar' q1 (g := mkF m pc Ls (.int x :: .int j :: .ref a :: st)) rfl rfl hd
  subst hp
  rw [q2] at W
  refine Done.step stp (K T' h' ⟨vm0, k0, hS, (by rw [W.size]; exact hk0), ⟨_, X', Fw.snoc N' hge⟩, e', by rw [W.size]; exact b, hZ, hx, ho, r⟩ W ((Ar.set Ar' S hN H hi W).congr fun j _ => ?_))
  unfold oupd; split <;> rfl
theorem wCastore {N i : Nat} {f : Nat → Int32} {a : Addr} {j : Int32} {x : Int32} (P : Pos p l e R s m args below meth c Z own ws bd T h k n) (A : Ar Z h a .char N (fun i => .int (f i))) (hj : j.toInt = (i : Int)) (hi : i < N) (hge : a ∈ ws ∨ bd ≤ a) (hd : decode c.code pc = .ok (.castore, 1)) (hp : pc + 1 = pc')
    (K : ∀ T' h', Pos p l e R s m args below meth c Z own ws bd T' h' k n → Wr h h' a i (.int (nar .char x)) → Ar Z h' a .char N (fun j => .int (oupd f i (nar .char x) j)) → Done p l e R s m args below meth c Z own ws bd Q T' (mkF m pc' Ls st)) : Done p l e R s m args below meth c Z own ws bd Q T (mkF m pc Ls (.int x :: .int j :: .ref a :: st)) := by
  obtain ⟨vm0, k0, hS, hk0, ⟨L, X, N'⟩, eT, b, hZ, hx, ho, r⟩ := id P
  obtain ⟨cl, Ar', S, hN, H⟩ := A
  obtain ⟨q1, q2⟩ := in_of S hj hi
  obtain ⟨T', h', X', e', W, stp⟩ := stC X hx hZ eT Ar' q1 (g := mkF m pc Ls (.int x :: .int j :: .ref a :: st)) rfl rfl hd
  subst hp
  rw [q2] at W
  refine Done.step stp (K T' h' ⟨vm0, k0, hS, (by rw [W.size]; exact hk0), ⟨_, X', Fw.snoc N' hge⟩, e', by rw [W.size]; exact b, hZ, hx, ho, r⟩ W ((Ar.set Ar' S hN H hi W).congr fun j _ => ?_))
  unfold oupd; split <;> rfl
theorem wBastore {N i : Nat} {f : Nat → Int32} {a : Addr} {j : Int32} {x : Int32} (P : Pos p l e R s m args below meth c Z own ws bd T h k n) (A : Ar Z h a .byte N (fun i => .int (f i))) (hj : j.toInt = (i : Int)) (hi : i < N) (hge : a ∈ ws ∨ bd ≤ a) (hd : decode c.code pc = .ok (.bastore, 1)) (hp : pc + 1 = pc')
    (K : ∀ T' h', Pos p l e R s m args below meth c Z own ws bd T' h' k n → Wr h h' a i (.int (nar .byte x)) → Ar Z h' a .byte N (fun j => .int (oupd f i (nar .byte x) j)) → Done p l e R s m args below meth c Z own ws bd Q T' (mkF m pc' Ls st)) : Done p l e R s m args below meth c Z own ws bd Q T (mkF m pc Ls (.int x :: .int j :: .ref a :: st)) := by
  obtain ⟨vm0, k0, hS, hk0, ⟨L, X, N'⟩, eT, b, hZ, hx, ho, r⟩ := id P
  obtain ⟨cl, Ar', S, hN, H⟩ := A
  obtain ⟨q1, q2⟩ := in_of S hj hi
  obtain ⟨T', h', X', e', W, stp⟩ := stB X hx hZ eT Ar' q1 (g := mkF m pc Ls (.int x :: .int j :: .ref a :: st)) rfl rfl hd
  subst hp
  rw [q2] at W
  refine Done.step stp (K T' h' ⟨vm0, k0, hS, (by rw [W.size]; exact hk0), ⟨_, X', Fw.snoc N' hge⟩, e', by rw [W.size]; exact b, hZ, hx, ho, r⟩ W ((Ar.set Ar' S hN H hi W).congr fun j _ => ?_))
  unfold oupd; split <;> rfl
theorem wZastore {N i : Nat} {f : Nat → Int32} {a : Addr} {j : Int32} {x : Int32} (P : Pos p l e R s m args below meth c Z own ws bd T h k n) (A : Ar Z h a .boolean N (fun i => .int (f i))) (hj : j.toInt = (i : Int)) (hi : i < N) (hge : a ∈ ws ∨ bd ≤ a) (hd : decode c.code pc = .ok (.bastore, 1)) (hp : pc + 1 = pc')
    (K : ∀ T' h', Pos p l e R s m args below meth c Z own ws bd T' h' k n → Wr h h' a i (.int (nar .boolean x)) → Ar Z h' a .boolean N (fun j => .int (oupd f i (nar .boolean x) j)) → Done p l e R s m args below meth c Z own ws bd Q T' (mkF m pc' Ls st)) : Done p l e R s m args below meth c Z own ws bd Q T (mkF m pc Ls (.int x :: .int j :: .ref a :: st)) := by
  obtain ⟨vm0, k0, hS, hk0, ⟨L, X, N'⟩, eT, b, hZ, hx, ho, r⟩ := id P
  obtain ⟨cl, Ar', S, hN, H⟩ := A
  obtain ⟨q1, q2⟩ := in_of S hj hi
  obtain ⟨T', h', X', e', W, stp⟩ := stZ X hx hZ eT Ar' q1 (g := mkF m pc Ls (.int x :: .int j :: .ref a :: st)) rfl rfl hd
  subst hp
  rw [q2] at W
  refine Done.step stp (K T' h' ⟨vm0, k0, hS, (by rw [W.size]; exact hk0), ⟨_, X', Fw.snoc N' hge⟩, e', by rw [W.size]; exact b, hZ, hx, ho, r⟩ W ((Ar.set Ar' S hN H hi W).congr fun j _ => ?_))
  unfold oupd; split <;> rfl
theorem wBaload {N i : Nat} {f : Nat → Value} {a : Addr} {j : Int32} (P : Pos p l e R s m args below meth c Z own ws bd T h k n) (A : Ar Z h a .byte N f) (hj : j.toInt = (i : Int)) (hi : i < N) {v : Value} (hv : f i = v) (hd : decode c.code pc = .ok (.baload, 1)) (hp : pc + 1 = pc')
    (K : Done p l e R s m args below meth c Z own ws bd Q T (mkF m pc' Ls (v :: st))) : Done p l e R s m args below meth c Z own ws bd Q T (mkF m pc Ls (.int j :: .ref a :: st)) := by
  obtain ⟨vm0, k0, hS, hk0, ⟨L, X, N'⟩, eT, b, hZ, hx, ho, hlk, _, _⟩ := id P
  obtain ⟨cl, Ar, S, hN, H⟩ := A
  obtain ⟨q1, q2⟩ := in_of S hj hi
  subst hp hv
  exact Done.step (fun t kk => X.baloadBytes hx (by rw [eT]; exact Ar.1) (State.isArrayOf_alike hZ.alike Ar.2.1) Ar.2.2 q1 (by rw [q2]; exact H i hi) (g := mkF m pc Ls (.int j :: .ref a :: st)) rfl rfl hd t kk) K
theorem wCast {K : String} {index : Nat} {a : Addr} (P : Pos p l e R s m args below meth c Z own ws bd T h k n) (w : (Cond.classLink own index K).before a0 Z = true) (F : Ins Z h a K true) (hd : decode c.code pc = .ok (.checkcast index, 3)) (hp : pc + 3 = pc')
    (K' : ∀ T', Pos p l e R s m args below meth c Z own ws bd T' h k n → Done p l e R s m args below meth c Z own ws bd Q T' (mkF m pc' Ls (.ref a :: st))) : Done p l e R s m args below meth c Z own ws bd Q T (mkF m pc Ls (.ref a :: st)) := by
  obtain ⟨vm0, k0, hS, hk0, ⟨L, X, N'⟩, eT, b, hZ, hx, ho, r⟩ := id P
  obtain ⟨T', X', e', stp⟩ := castY X hx hZ ho w eT F (g := mkF m pc Ls (.ref a :: st)) rfl rfl hd
  subst hp
  exact Done.step stp (K' T' ⟨vm0, k0, hS, (hk0), ⟨L, X', N'⟩, e', b, hZ, hx, ho, r⟩)
theorem wInstY {K : String} {index : Nat} {a : Addr} (P : Pos p l e R s m args below meth c Z own ws bd T h k n) (w : (Cond.classLink own index K).before a0 Z = true) (F : Ins Z h a K true) (hd : decode c.code pc = .ok (.instanceof index, 3)) (hp : pc + 3 = pc')
    (K' : ∀ T', Pos p l e R s m args below meth c Z own ws bd T' h k n → Done p l e R s m args below meth c Z own ws bd Q T' (mkF m pc' Ls (.int 1 :: st))) : Done p l e R s m args below meth c Z own ws bd Q T (mkF m pc Ls (.ref a :: st)) := by
  obtain ⟨vm0, k0, hS, hk0, ⟨L, X, N'⟩, eT, b, hZ, hx, ho, r⟩ := id P
  obtain ⟨T', X', e', stp⟩ := instY X hx hZ ho w eT F (g := mkF m pc Ls (.ref a :: st)) rfl rfl hd
  subst hp
  exact Done.step stp (K' T' ⟨vm0, k0, hS, (hk0), ⟨L, X', N'⟩, e', b, hZ, hx, ho, r⟩)
theorem wInstN {K C : String} {index : Nat} {a : Addr} (P : Pos p l e R s m args below meth c Z own ws bd T h k n) (w : (Cond.classLink own index K).before a0 Z = true) (E : Exa Z h a C) (F : ∃ c t, Z.vm.findClass C = some c ∧ Z.vm.findClass K = some t ∧ Z.vm.assignable c t = false) (hd : decode c.code pc = .ok (.instanceof index, 3)) (hp : pc + 3 = pc')
    (K' : ∀ T', Pos p l e R s m args below meth c Z own ws bd T' h k n → Done p l e R s m args below meth c Z own ws bd Q T' (mkF m pc' Ls (.int 0 :: st))) : Done p l e R s m args below meth c Z own ws bd Q T (mkF m pc Ls (.ref a :: st)) := by
  obtain ⟨vm0, k0, hS, hk0, ⟨L, X, N'⟩, eT, b, hZ, hx, ho, r⟩ := id P
  obtain ⟨T', X', e', stp⟩ := instNo X hx hZ ho w eT E F (g := mkF m pc Ls (.ref a :: st)) rfl rfl hd
  subst hp
  exact Done.step stp (K' T' ⟨vm0, k0, hS, (hk0), ⟨L, X', N'⟩, e', b, hZ, hx, ho, r⟩)
theorem wInst0 {index : Nat} (P : Pos p l e R s m args below meth c Z own ws bd T h k n) (hd : decode c.code pc = .ok (.instanceof index, 3)) (hp : pc + 3 = pc') (D : Done p l e R s m args below meth c Z own ws bd Q T (mkF m pc' Ls (.int 0 :: st))) : Done p l e R s m args below meth c Z own ws bd Q T (mkF m pc Ls (.null :: st)) := by
  obtain ⟨vm0, k0, hS, hk0, ⟨L, X, N'⟩, eT, b, hZ, hx, ho, r⟩ := id P
  subst hp
  exact Done.step (Jvm.Stand.instanceofNull X hx (g := mkF m pc Ls (.null :: st)) rfl rfl hd) D
theorem wInit {index : Nat} {a : Addr} {W : Nat} (P : Pos p l e R s m args below meth c Z own ws bd T h k n) (w1 : (Cond.methodLink own index Lib.objectInit).before a0 Z = true) (w2 : (Cond.instanceMethod Lib.objectInit).before a0 Z = true) (w3 : (Cond.code Lib.objectInit ⟨#[0xb1]⟩ 1 none).before a0 Z = true) (hml : Ls.size = c.maxLocals)
    (hd : decode c.code pc = .ok (.invokespecial index, 3)) (hf : 1 ≤ R.frames) (hW : (st.map fun v => v.category).sum ≤ W) (hl : W + 12 ≤ R.locals) (hp : pc + 3 = pc')
    (K : ∀ T', Pos p l e R s m args below meth c Z own ws bd T' h k n → Done p l e R s m args below meth c Z own ws bd Q T' (mkF m pc' Ls st)) : Done p l e R s m args below meth c Z own ws bd Q T (mkF m pc Ls (.ref a :: st)) := by
  obtain ⟨vm0, k0, hS, hk0, ⟨L, X, N'⟩, eT, b, hZ, hx, ho, r⟩ := id P
  obtain ⟨T', X', e', stp⟩ := initO X hx hZ ho w1 w2 w3 eT (g := mkF m pc Ls (.ref a :: st)) rfl hml rfl hd hf (W := W) (by show 2 * 0 + _ ≤ _; omega) hl
  subst hp
  exact Done.step stp (K T' ⟨vm0, k0, hS, (hk0), ⟨L, X', N'⟩, e', b, hZ, hx, ho, r⟩)
theorem wCallS {y : MethodName} {bytes : ByteArray} {maxL : Nat} {ret : Option FieldType} {rm : Room} {as' : Array Value} {ws' : List Addr} {Q' : Option Value → Heap → Prop} {index W : Nat} {argsL rest stk : List Value} (P : Pos p l e R s m args below meth c Z own ws bd T h k n) (M : Jvm.OwnW.OMet l y bytes maxL ret [] rm Z h ws' as' Q')
    (w1 : (Cond.methodLink own index y).before a0 Z = true) (w2 : (Cond.static y).before a0 Z = true) (w3 : (Cond.initialized y.cls).before a0 Z = true) (w4 : (Cond.code y bytes maxL ret).before a0 Z = true) (hy : y.cls ≠ "java/lang/invoke/MethodHandle" ∧ y.cls ≠ "java/lang/invoke/VarHandle") (hml : Ls.size = c.maxLocals)
    (hlen : ∀ sig, parseMethodDescriptor y.desc = some sig → argsL.length = sig.parameters.length) (has : (argsL).toArray = as') (hst : stk = argsL.reverse ++ rest) (hW : (rest.map fun v => v.category).sum ≤ W) (hf : rm.frames + 1 ≤ R.frames) (hl : W + (maxL + 11) + rm.locals ≤ R.locals) (hc : k + rm.cells ≤ R.cells) (hs : n + rm.slots ≤ R.slots)
    (hws : ∀ x ∈ ws', x ∈ ws ∨ bd ≤ x) (hd : decode c.code pc = .ok (.invokestatic index, 3)) (hp : pc + 3 = pc') {k' n' : Nat} (hk' : k + rm.cells = k') (hn' : n + rm.slots = n')
    (K : ∀ T' h' v, Pos p l e R s m args below meth c Z own ws bd T' h' k' n' → Keep h h' ws' → Q' v h' → Done p l e R s m args below meth c Z own ws bd Q T' (mkF m pc' Ls (v.toList ++ rest))) : Done p l e R s m args below meth c Z own ws bd Q T (mkF m pc Ls stk) := by
  obtain ⟨vm0, k0, hS, hk0, ⟨L, X, N'⟩, eT, b, hZ, hx, ho, hlk, _, _⟩ := id P
  subst hst has hp hk' hn'
  obtain ⟨v, _, ⟨T', L', k1, n1⟩, -, X', ⟨Lc, hq, l', y', z'⟩, stp⟩ := Jvm.LawKit.callS X hx (y := y) ho (mvT hZ w1) (mvT hZ w2) (mvT hZ w3) (mvT hZ w4) hy (backOf (W := W) (Q := fun v h' L => Q' v h' ∧ Fw ws' h.size L ∧ Keep h h' ws') M hZ w4 w3 hf hl) (g := mkF m pc Ls (argsL.reverse ++ rest)) rfl hml (argsL := argsL) (rest := rest) hlen rfl (by show 2 * 0 + _ ≤ _; omega) hd (fun _ _ => ⟨rfl, eT, hc, hs⟩)
  dsimp only [Pt.U, Pt.locs, Pt.cells, Pt.slots] at X' l' y' z' stp hq
  subst l' y' z'
  exact Done.step (stp) (K T' T'.heap v ⟨vm0, k0, hS, (Nat.le_trans hk0 hq.2.2.1), ⟨_, X', N'.app fun y hy => (hq.2.1 y hy).elim (fun q => hws _ q) (fun q => Or.inr (Nat.le_trans b q))⟩, rfl, Nat.le_trans b hq.2.2.1, hZ, hx, ho, hlk, hc, hs⟩ hq.2.2 hq.1)
theorem wCallI {y : MethodName} {bytes : ByteArray} {maxL : Nat} {rm : Room} {as' : Array Value} {ws' : List Addr} {Q' : Option Value → Heap → Prop} {index W : Nat} {argsL rest stk : List Value} {a : Addr} (P : Pos p l e R s m args below meth c Z own ws bd T h k n) (M : Jvm.OwnW.OMet l y bytes maxL none [] rm Z h ws' as' Q')
    (hyn : y.name = "<init>") (w1 : (Cond.methodLink own index y).before a0 Z = true) (w2 : (Cond.instanceMethod y).before a0 Z = true) (w3 : (Cond.initialized y.cls).before a0 Z = true) (w4 : (Cond.code y bytes maxL none).before a0 Z = true) (hy : y.cls ≠ "java/lang/invoke/MethodHandle" ∧ y.cls ≠ "java/lang/invoke/VarHandle") (hml : Ls.size = c.maxLocals)
    (hlen : ∀ sig, parseMethodDescriptor y.desc = some sig → argsL.length = sig.parameters.length) (has : (.ref a :: argsL).toArray = as') (hst : stk = argsL.reverse ++ .ref a :: rest) (hW : (rest.map fun v => v.category).sum ≤ W) (hf : rm.frames + 1 ≤ R.frames) (hl : W + (maxL + 11) + rm.locals ≤ R.locals) (hc : k + rm.cells ≤ R.cells) (hs : n + rm.slots ≤ R.slots)
    (hws : ∀ x ∈ ws', x ∈ ws ∨ bd ≤ x) (hd : decode c.code pc = .ok (.invokespecial index, 3)) (hp : pc + 3 = pc') {k' n' : Nat} (hk' : k + rm.cells = k') (hn' : n + rm.slots = n')
    (K : ∀ T' h' v, Pos p l e R s m args below meth c Z own ws bd T' h' k' n' → Keep h h' ws' → Q' v h' → Done p l e R s m args below meth c Z own ws bd Q T' (mkF m pc' Ls (v.toList ++ rest))) : Done p l e R s m args below meth c Z own ws bd Q T (mkF m pc Ls stk) := by
  obtain ⟨vm0, k0, hS, hk0, ⟨L, X, N'⟩, eT, b, hZ, hx, ho, hlk, _, _⟩ := id P
  subst hst has hp hk' hn'
  obtain ⟨v, _, ⟨T', L', k1, n1⟩, -, X', ⟨Lc, hq, l', y', z'⟩, stp⟩ := X.specialBack hx (y := y) hyn ho (mvT hZ w1) (mvT hZ w2) (mvT hZ w4) hy (backOf (W := W) (Q := fun v h' L => Q' v h' ∧ Fw ws' h.size L ∧ Keep h h' ws') M hZ w4 w3 hf hl) (g := mkF m pc Ls (argsL.reverse ++ .ref a :: rest)) rfl hml (Steps.refl _) (a := a) (argsL := argsL) (rest := rest) hlen rfl (by show 2 * 0 + _ ≤ _; omega) hd (fun _ _ => ⟨rfl, eT, hc, hs⟩)
  dsimp only [Pt.U, Pt.locs, Pt.cells, Pt.slots] at X' l' y' z' stp hq
  subst l' y' z'
  exact Done.step (fun t kk => stp.trans kk) (K T' T'.heap v ⟨vm0, k0, hS, (Nat.le_trans hk0 hq.2.2.1), ⟨_, X', N'.app fun y hy => (hq.2.1 y hy).elim (fun q => hws _ q) (fun q => Or.inr (Nat.le_trans b q))⟩, rfl, Nat.le_trans b hq.2.2.1, hZ, hx, ho, hlk, hc, hs⟩ hq.2.2 hq.1)
theorem wCallV {y : MethodName} {bytes : ByteArray} {maxL : Nat} {ret : Option FieldType} {rm : Room} {as' : Array Value} {ws' : List Addr} {Q' : Option Value → Heap → Prop} {index W : Nat} {argsL rest stk : List Value} {z : MethodName} {C : String} {a : Addr} (P : Pos p l e R s m args below meth c Z own ws bd T h k n) (M : Jvm.OwnW.OMet l z bytes maxL ret [] rm Z h ws' as' Q')
    (w1 : (Cond.methodLink own index y).before a0 Z = true) (w2 : (Cond.declares y).before a0 Z = true) (w5 : (Cond.selects C y z).before a0 Z = true) {D : String} (w7 : (Cond.selects D y y).before a0 Z = true) (w6 : (Cond.instanceMethod z).before a0 Z = true) (w3 : (Cond.initialized z.cls).before a0 Z = true) (w4 : (Cond.code z bytes maxL ret).before a0 Z = true) (hy : y.cls ≠ "java/lang/invoke/MethodHandle" ∧ y.cls ≠ "java/lang/invoke/VarHandle") (E : Exa Z h a C) (hml : Ls.size = c.maxLocals)
    (hlen : ∀ sig, parseMethodDescriptor y.desc = some sig → argsL.length = sig.parameters.length) (has : (.ref a :: argsL).toArray = as') (hst : stk = argsL.reverse ++ .ref a :: rest) (hW : (rest.map fun v => v.category).sum ≤ W) (hf : rm.frames + 1 ≤ R.frames) (hl : W + (maxL + 11) + rm.locals ≤ R.locals) (hc : k + rm.cells ≤ R.cells) (hs : n + rm.slots ≤ R.slots)
    (hws : ∀ x ∈ ws', x ∈ ws ∨ bd ≤ x) (hd : decode c.code pc = .ok (.invokevirtual index, 3)) (hp : pc + 3 = pc') {k' n' : Nat} (hk' : k + rm.cells = k') (hn' : n + rm.slots = n')
    (K : ∀ T' h' v, Pos p l e R s m args below meth c Z own ws bd T' h' k' n' → Keep h h' ws' → Q' v h' → Done p l e R s m args below meth c Z own ws bd Q T' (mkF m pc' Ls (v.toList ++ rest))) : Done p l e R s m args below meth c Z own ws bd Q T (mkF m pc Ls stk) := by
  obtain ⟨vm0, k0, hS, hk0, ⟨L, X, N'⟩, eT, b, hZ, hx, ho, hlk, _, _⟩ := id P
  subst hst has hp hk' hn'
  obtain ⟨cq, kq, qa, qb, qc⟩ := isOf hZ eT E
  obtain ⟨v, _, ⟨T', L', k1, n1⟩, -, X', ⟨Lc, hq, l', y', z'⟩, stp⟩ := X.virtualBack hx (y := y) (z := z) ho (mvT hZ w1) (mvT hZ w2) (notFace_of_selects (args := #[]) (mvT hZ w7)) (mvT hZ w5) (mvT hZ w6) hy (backOf (W := W) (Q := fun v h' L => Q' v h' ∧ Fw ws' h.size L ∧ Keep h h' ws') M hZ w4 w3 hf hl) qa qc (g := mkF m pc Ls (argsL.reverse ++ .ref a :: rest)) rfl hml (Steps.refl _) (argsL := argsL) (rest := rest) hlen rfl (by show 2 * 0 + _ ≤ _; omega) hd (fun _ _ => ⟨rfl, eT, hc, hs⟩)
  dsimp only [Pt.U, Pt.locs, Pt.cells, Pt.slots] at X' l' y' z' stp hq
  subst l' y' z'
  exact Done.step (fun t kk => stp.trans kk) (K T' T'.heap v ⟨vm0, k0, hS, (Nat.le_trans hk0 hq.2.2.1), ⟨_, X', N'.app fun y hy => (hq.2.1 y hy).elim (fun q => hws _ q) (fun q => Or.inr (Nat.le_trans b q))⟩, rfl, Nat.le_trans b hq.2.2.1, hZ, hx, ho, hlk, hc, hs⟩ hq.2.2 hq.1)
theorem wCallP {y : MethodName} {bytes : ByteArray} {maxL : Nat} {ret : Option FieldType} {rm : Room} {as' : Array Value} {ws' : List Addr} {Q' : Option Value → Heap → Prop} {index W kk : Nat} {argsL rest stk : List Value} {a : Addr} {C : String} (P : Pos p l e R s m args below meth c Z own ws bd T h k n) (M : Jvm.OwnW.OMet l y bytes maxL ret [] rm Z h ws' as' Q')
    (w1 : (Cond.methodLink own index y).before a0 Z = true) (w2 : (Cond.instanceMethod y).before a0 Z = true) (w5 : (Cond.privateMethod y).before a0 Z = true) (wi : (Cond.instantiable y.cls kk).before a0 Z = true) (w3 : (Cond.initialized y.cls).before a0 Z = true) (w4 : (Cond.code y bytes maxL ret).before a0 Z = true) (hy : y.cls ≠ "java/lang/invoke/MethodHandle" ∧ y.cls ≠ "java/lang/invoke/VarHandle") (E : Exa Z h a C) (hml : Ls.size = c.maxLocals)
    (hlen : ∀ sig, parseMethodDescriptor y.desc = some sig → argsL.length = sig.parameters.length) (has : (.ref a :: argsL).toArray = as') (hst : stk = argsL.reverse ++ .ref a :: rest) (hW : (rest.map fun v => v.category).sum ≤ W) (hf : rm.frames + 1 ≤ R.frames) (hl : W + (maxL + 11) + rm.locals ≤ R.locals) (hc : k + rm.cells ≤ R.cells) (hs : n + rm.slots ≤ R.slots)
    (hws : ∀ x ∈ ws', x ∈ ws ∨ bd ≤ x) (hd : decode c.code pc = .ok (.invokevirtual index, 3)) (hp : pc + 3 = pc') {k' n' : Nat} (hk' : k + rm.cells = k') (hn' : n + rm.slots = n')
    (K : ∀ T' h' v, Pos p l e R s m args below meth c Z own ws bd T' h' k' n' → Keep h h' ws' → Q' v h' → Done p l e R s m args below meth c Z own ws bd Q T' (mkF m pc' Ls (v.toList ++ rest))) : Done p l e R s m args below meth c Z own ws bd Q T (mkF m pc Ls stk) := by
  obtain ⟨vm0, k0, hS, hk0, ⟨L, X, N'⟩, eT, b, hZ, hx, ho, hlk, _, _⟩ := id P
  subst hst has hp hk' hn'
  obtain ⟨cl, hcl, hst⟩ := E.cell
  have hpr : (s.setVm vm0).PrivateAt y := Cond.privateMethod_at (mvP hZ w5 (args := #[]))
  obtain ⟨ci, ki, hi1, hi2, -, hi3, -⟩ := Cond.instantiable_spec (mvT hZ wi : (Cond.instantiable y.cls kk).before args (s.setVm vm0) = true)
  have hsel : (Cond.selects y.cls y y).before args (s.setVm vm0) = true := selects_self_of_private hi1 hi2 (by simp only [Bool.or_eq_false_iff] at hi3; exact hi3.1) hpr (mvT hZ w2) hy
  obtain ⟨v, _, ⟨T', L', k1, n1⟩, -, X', ⟨Lc, hq, l', y', z'⟩, stp⟩ := X.privateBack hx (y := y) ho (mvT hZ w1) (mvT hZ w2) hsel hpr (mvT hZ w4) hy (backOf (W := W) (Q := fun v h' L => Q' v h' ∧ Fw ws' h.size L ∧ Keep h h' ws') M hZ w4 w3 hf hl) (g := mkF m pc Ls (argsL.reverse ++ .ref a :: rest)) rfl hml (Steps.refl _) (a := a) (by rw [eT]; exact hcl) hst (argsL := argsL) (rest := rest) hlen rfl (by show 2 * 0 + _ ≤ _; omega) hd (fun _ _ => ⟨rfl, eT, hc, hs⟩)
  dsimp only [Pt.U, Pt.locs, Pt.cells, Pt.slots] at X' l' y' z' stp hq
  subst l' y' z'
  exact Done.step (fun t kk => stp.trans kk) (K T' T'.heap v ⟨vm0, k0, hS, (Nat.le_trans hk0 hq.2.2.1), ⟨_, X', N'.app fun y hy => (hq.2.1 y hy).elim (fun q => hws _ q) (fun q => Or.inr (Nat.le_trans b q))⟩, rfl, Nat.le_trans b hq.2.2.1, hZ, hx, ho, hlk, hc, hs⟩ hq.2.2 hq.1)
theorem wNat {y : MethodName} {by0 : ByteArray} {ml : Nat} {rt : Option FieldType} {index W : Nat} {F : Array Value → Prop} {val : Value} {argsL rest stk : List Value} (P : Pos p l e R s m args below meth c Z own ws bd T h k n)
    (w1 : (Cond.methodLink own index y).before a0 Z = true) (w2 : (Cond.static y).before a0 Z = true) (w3 : (Cond.initialized y.cls).before a0 Z = true) (w4 : (Cond.code y by0 ml rt).before a0 Z = true) (hy : y.cls ≠ "java/lang/invoke/MethodHandle" ∧ y.cls ≠ "java/lang/invoke/VarHandle")
    (hK : ∀ s, (Cond.code y by0 ml rt).before args s = true → Back l R p e below s args y 3 W (fun A a' => A.cells ≤ R.cells ∧ A.slots ≤ R.slots ∧ F a') (fun A _ v B => v = some val ∧ B = A)) (hml : Ls.size = c.maxLocals)
    (hlen : ∀ sig, parseMethodDescriptor y.desc = some sig → argsL.length = sig.parameters.length) (hst : stk = argsL.reverse ++ rest) (hW : (rest.map fun v => v.category).sum ≤ W) (hd : decode c.code pc = .ok (.invokestatic index, 3)) (hp : pc + 3 = pc') (hF : F argsL.toArray)
    (K : ∀ T', Pos p l e R s m args below meth c Z own ws bd T' h k n → Done p l e R s m args below meth c Z own ws bd Q T' (mkF m pc' Ls (val :: rest))) : Done p l e R s m args below meth c Z own ws bd Q T (mkF m pc Ls stk) := by
  obtain ⟨vm0, k0, hS, hk0, ⟨L, X, N'⟩, eT, b, hZ, hx, ho, hlk, hc, hs⟩ := id P
  subst hst hp
  obtain ⟨T', X', e', stp⟩ := natS X hx hZ ho w1 w2 w3 w4 hy eT (hK _) (g := mkF m pc Ls (argsL.reverse ++ rest)) rfl hml hlen rfl (by show 2 * 0 + _ ≤ _; omega) hd hc hs hF rfl
  exact Done.step stp (K T' ⟨vm0, k0, hS, (hk0), ⟨L, X', N'⟩, e', b, hZ, hx, ho, hlk, hc, hs⟩)
theorem wClone {N cap index W : Nat} {f : Nat → UInt64} {a : Addr} (P : Pos p l e R s m args below meth c Z own ws bd T h k n) (A : Ar Z h a .double N (fun i => .double (f i))) (E : Exa Z h a "[D")
    (w1 : (Cond.methodLink own index ⟨"[D", "clone", "()Ljava/lang/Object;"⟩).before a0 Z = true) (w2 : (Cond.sameMethod "[D" "java/lang/Object" "clone" "()Ljava/lang/Object;").before a0 Z = true) (w3 : (Cond.native ⟨"java/lang/Object", "clone", "()Ljava/lang/Object;"⟩).before a0 Z = true)
    (w4 : (Cond.instanceMethod ⟨"java/lang/Object", "clone", "()Ljava/lang/Object;"⟩).before a0 Z = true) (w5 : (Cond.selects "[D" ⟨"[D", "clone", "()Ljava/lang/Object;"⟩ ⟨"java/lang/Object", "clone", "()Ljava/lang/Object;"⟩).before a0 Z = true) (w6 : (Cond.castable "[D" "java/lang/Cloneable").before a0 Z = true)
    (hml : Ls.size = c.maxLocals) (hd : decode c.code pc = .ok (.invokevirtual index, 3)) (hp : pc + 3 = pc') (hf : 1 ≤ R.frames) (hW : (st.map fun v => v.category).sum ≤ W) (hl : W + 14 ≤ R.locals) (hcap : N ≤ cap) (hc : k + 1 ≤ R.cells) (hsl : n + cap ≤ R.slots) {k' n' : Nat} (hk' : k + 1 = k') (hn' : n + cap = n')
    (K : ∀ T' h' b, b = h.size → h.size < h'.size → Pos p l e R s m args below meth c Z own ws bd T' h' k' n' → Ext h h' → Ar Z h' b .double N (fun i => .double (f i)) → Exa Z h' b "[D" → Done p l e R s m args below meth c Z own ws bd Q T' (mkF m pc' Ls (.ref b :: st))) : Done p l e R s m args below meth c Z own ws bd Q T (mkF m pc Ls (.ref a :: st)) := by
  obtain ⟨vm0, k0, hS, hk0, ⟨L, X, N'⟩, eT, b, hZ, hx, ho, hlk, _, _⟩ := id P
  obtain ⟨cl, Ar, S, hN, H⟩ := A
  have FC : FitC Z cl := fitC_of Ar fun i hi v hv => by rw [H i (by omega)] at hv; cases hv; rfl
  obtain ⟨T', h', X', e', ex, A', E', stp⟩ := cloneA X hx hZ ho w1 w2 w3 w4 w5 w6 eT Ar E FC (g := mkF m pc Ls (.ref a :: st)) rfl hml rfl hd hf (W := W) (by show 2 * 0 + _ ≤ _; omega) hl (cap := cap) (by omega) hc hsl
  subst hp hk' hn'
  exact Done.step stp (K T' h' h.size rfl A'.lt ⟨vm0, k0, hS, (Nat.le_trans hk0 ex.1), ⟨L, X', N'⟩, e', Nat.le_trans b ex.1, hZ, hx, ho, hlk, hc, hsl⟩ ex ⟨_, A', S, hN, H⟩ E')
theorem wCopyD {N M K0 index W : Nat} {f g : Nat → UInt64} {a b : Addr} {nn : Int32} (P : Pos p l e R s m args below meth c Z own [] bd T h k n) (A : Ar Z h a .double N (fun i => .double (f i))) (B : Ar Z h b .double M (fun i => .double (g i))) (hnn : nn.toInt = (K0 : Int)) (h1 : K0 ≤ N) (h2 : K0 ≤ M) (ge : bd ≤ b)
    (w1 : (Cond.methodLink own index Jvm.Stand.acN).before a0 Z = true) (w2 : (Cond.native Jvm.Stand.acN).before a0 Z = true) (w3 : (Cond.static Jvm.Stand.acN).before a0 Z = true) (w4 : (Cond.initialized "java/lang/System").before a0 Z = true)
    (hml : Ls.size = c.maxLocals) (hd : decode c.code pc = .ok (.invokestatic index, 3)) (hp : pc + 3 = pc') (hf : 1 ≤ R.frames) (hW : (st.map fun v => v.category).sum ≤ W) (hlo : W + (nativeFrameWords "java/lang/System" "arraycopy" 5 + 11) ≤ R.locals)
    (K : ∀ T' h', Pos p l e R s m args below meth c Z own [] bd T' h' k n → Keep h h' [b] → Ar Z h' b .double M (fun i => .double (if i < K0 then f i else g i)) → Done p l e R s m args below meth c Z own [] bd Q T' (mkF m pc' Ls st)) :
    Done p l e R s m args below meth c Z own [] bd Q T (mkF m pc Ls (.int nn :: .int 0 :: .ref b :: .int 0 :: .ref a :: st)) := by
  obtain ⟨vm0, k0, hS, hk0, ⟨L, X, N'⟩, eT, hb', hZ, hx, ho, r⟩ := id P
  have hN := A.len
  have hM := B.len
  obtain ⟨kA, VA⟩ := A.toArv (.double 0) (fun _ => rfl) rfl
  obtain ⟨kB, VB⟩ := B.toArv (.double 0) (fun _ => rfl) rfl
  have z0 : ¬ (0 : Int32) < 0 := by decide
  have z1 : (0 : Int32).toNatClampNeg = 0 := by decide
  have q0 : ¬ nn < 0 := by rw [Int32.lt_iff_toInt_lt, hnn, show (0 : Int32).toInt = 0 from rfl]; omega
  have q1 : nn.toNatClampNeg = K0 := by rw [Int32.toNatClampNeg, hnn]; omega
  obtain ⟨T', h', L', X', e', F', Kp, V', stp⟩ := cpA X hx hZ ho w1 w2 w3 w4 eT VA VB (Or.inl ⟨rfl, rfl⟩) z0 z0 q0 (by rw [z1, q1, (n32 hN).2]; omega) (by rw [z1, q1, (n32 hM).2]; omega) rfl (by rw [z1, q1]; simp; omega) (n0 := bd) N'.toFr ge (g := mkF m pc Ls (.int nn :: .int 0 :: .ref b :: .int 0 :: .ref a :: st)) rfl hml rfl hd hf (W := W) (by show 2 * 0 + _ ≤ _; omega) hlo
  subst hp
  refine Done.step stp (K T' h' ⟨vm0, k0, hS, (Nat.le_trans hk0 Kp.1), ⟨L', X', Fw.ofFr F'⟩, e', Nat.le_trans hb' Kp.1, hZ, hx, ho, r⟩ Kp ((Ar.ofArv hM V').congr fun i hi => ?_))
  rw [z1, q1]
  by_cases q : i < K0
  · rw [if_pos q]
    simp [List.getD_eq_getElem?_getD, List.getElem?_append, q]
    rw [List.getElem?_range (by omega)]
    rfl
  · rw [if_neg q]
    simp [List.getD_eq_getElem?_getD, List.getElem?_append, q]
    have e2 : K0 + (i - K0) = i := by omega
    simp [e2, hi]
theorem pLdcI {index : Nat} {v : Int32} {t : State} (P : Pos p l e R s m args below meth c Z own ws bd T h k n) (w : (Cond.constant own index v).before a0 Z = true) (hd : decode c.code pc = .ok (.ldc index, 2)) (hp : pc + 2 = pc') (kk : Steps p.tables e below (T.setTop (mkF m pc' Ls (.int v :: st))) t) : Steps p.tables e below (T.setTop (mkF m pc Ls st)) t := by
  obtain ⟨vm0, k0, hS, hk0, ⟨L, X, N'⟩, eT, b, hZ, hx, ho, hlk, _, _⟩ := id P
  subst hp
  exact X.ldcI hx ho (mvT hZ w) (g := mkF m pc Ls st) rfl hd kk
theorem pLdcIw {index : Nat} {v : Int32} {t : State} (P : Pos p l e R s m args below meth c Z own ws bd T h k n) (w : (Cond.constant own index v).before a0 Z = true) (hd : decode c.code pc = .ok (.ldc_w index, 3)) (hp : pc + 3 = pc') (kk : Steps p.tables e below (T.setTop (mkF m pc' Ls (.int v :: st))) t) : Steps p.tables e below (T.setTop (mkF m pc Ls st)) t := by
  obtain ⟨vm0, k0, hS, hk0, ⟨L, X, N'⟩, eT, b, hZ, hx, ho, hlk, _, _⟩ := id P
  subst hp
  exact X.ldcWI hx ho (mvT hZ w) (g := mkF m pc Ls st) rfl hd kk
theorem pLdcJ {index : Nat} {v : Int64} {t : State} (P : Pos p l e R s m args below meth c Z own ws bd T h k n) (w : (Cond.constantLong own index v).before a0 Z = true) (hd : decode c.code pc = .ok (.ldc2_w index, 3)) (hp : pc + 3 = pc') (kk : Steps p.tables e below (T.setTop (mkF m pc' Ls (.long v :: st))) t) : Steps p.tables e below (T.setTop (mkF m pc Ls st)) t := by
  obtain ⟨vm0, k0, hS, hk0, ⟨L, X, N'⟩, eT, b, hZ, hx, ho, hlk, _, _⟩ := id P
  subst hp
  exact X.ldc2J hx ho (mvT hZ w) (g := mkF m pc Ls st) rfl hd kk
theorem pLdcD {index : Nat} {v : UInt64} {t : State} (P : Pos p l e R s m args below meth c Z own ws bd T h k n) (w : (Cond.constantDouble own index v).before a0 Z = true) (hd : decode c.code pc = .ok (.ldc2_w index, 3)) (hp : pc + 3 = pc') (kk : Steps p.tables e below (T.setTop (mkF m pc' Ls (.double v :: st))) t) : Steps p.tables e below (T.setTop (mkF m pc Ls st)) t := by
  obtain ⟨vm0, k0, hS, hk0, ⟨L, X, N'⟩, eT, b, hZ, hx, ho, hlk, _, _⟩ := id P
  subst hp
  exact X.ldc2DoubleC hx ho (mvT hZ w) (g := mkF m pc Ls st) rfl hd t kk
theorem pAcmp {cd : ACond} {x y : Value} {rest stk : List Value} {o : Int} {pc0 : Nat} {same : Bool} {t : State} (P : Pos p l e R s m args below meth c Z own ws bd T h k n) (h1 : x.isRef = true) (h2 : y.isRef = true) (hpc : pc = pc0) (hd : decode c.code pc = .ok (.if_acmp cd o, 3)) (hs : stk = y :: x :: rest) (hq : decide (x = y) = same) (ho : 0 ≤ (pc0 : Int) + o)
    (hp : pc' = if acV cd same = true then ((pc0 : Int) + o).toNat else pc0 + 3) (kk : Steps p.tables e below (T.setTop (mkF m pc' Ls rest)) t) : Steps p.tables e below (T.setTop (mkF m pc Ls stk)) t := by
  obtain ⟨vm0, k0, hS, hk0, ⟨L, X, N'⟩, eT, b, hZ, hx, ho', hlk, _, _⟩ := id P
  exact Jvm.RoadKit.acmp (g := mkF m pc Ls stk) X hx rfl h1 h2 (pc0 := pc0) (pc' := pc') (same := same) hpc hd hs hq ho hp kk
/-- ldc of a String constant: a reference, nothing more is told of it -/
theorem wLdcS {text : String} {index N : Nat} (P : Pos p l e R s m args below meth c Z own ws bd T h k n) (w : (Cond.stringLink own index text).before a0 Z = true) (wS : ∀ a ∈ Bundle.stringAtoms, a.before a0 Z = true) (hd : decode c.code pc = .ok (.ldc index, 2)) (hp : pc + 2 = pc') (hn : 4 * text.toList.length ≤ N) (hbig : N ≤ 536870912) (hc : k + 2 ≤ R.cells) (hl : n + (N + 4) ≤ R.slots) {k' n' : Nat} (hk' : k + 2 = k') (hn' : n + (N + 4) = n')
    (K : ∀ T' h' a, Pos p l e R s m args below meth c Z own ws bd T' h' k' n' → Ext h h' → Done p l e R s m args below meth c Z own ws bd Q T' (mkF m pc' Ls (.ref a :: st))) : Done p l e R s m args below meth c Z own ws bd Q T (mkF m pc Ls st) := by
  obtain ⟨vm0, k0, hS, hk0, ⟨L, X, N'⟩, eT, b, hZ, hx, ho, hlk, _, _⟩ := id P
  subst hp hk' hn'
  obtain ⟨a, T', h', k1, X', e', E, S', hk1, hZ', ho', stp⟩ := ldcS X hx hZ ho w wS eT hS hk0 (g := mkF m pc Ls st) rfl hd hn hbig hc hl
  exact Done.step stp (K T' h' a ⟨T'.vm, k1, S', hk1, ⟨L, X', N'⟩, e', Nat.le_trans b E.1, hZ', hx, ho', hlk, hc, hl⟩ E)
/-- a contract out of a walk -/
theorem OMet.of {y : MethodName} {bytes : ByteArray} {maxL : Nat} {ret : Option FieldType} {wd : List Cond} {rm : Room} {as' : Array Value} {nm : String} (hy : plainFor y = true) (hyc : y.cls = own) (hyn : y.name = nm)
    (H : ∀ p e s m below meth c s₁, Pos p l e rm s m as' below meth c Z own ws h.size s₁ h 0 0 → c.code = bytes → c.maxLocals = maxL → meth.sig.returnType = ret → meth.name = nm → Done p l e rm s m as' below meth c Z own ws h.size Q s₁ (entryFrame m as' maxL)) :
    OMet l y bytes maxL ret wd rm Z h ws as' Q := by
  subst hyc hyn
  refine MetFree.of_bodySF hy hisR ?_
  intro p e s m args below meth c s₁ Bd hml hP hK
  obtain ⟨rfl, hZ, hh⟩ := hP
  have hown : s.vm.findClass y.cls = some m.cls := findClass_of_methodNamed Bd.named
  have hnm := (name_of_methodNamed Bd.named Bd.method).1
  have X0 : Stand p l e rm s m args below meth c s₁ [] 0 0 := Stand.of_body Bd
  have e0 : s₁.heap = h := by rw [← hh, Bd.state]; rfl
  obtain ⟨v, T', h', k, n, ⟨vm0, k0, hS, hk0, ⟨L, X, N⟩, eT, _, _, _, _, hlk, hk, hnn⟩, hv, hq, st⟩ := H p e s m below meth c s₁ ⟨s.vm, s.heap.size, (State.WarmedH.refl s).since _, (by rw [← hh]; exact Nat.le_refl _), ⟨[], X0, Fw.nil _ _⟩, e0, Nat.le_refl _, hZ, Bd.exec, hown, Bd.notSynchronized, Nat.zero_le _, Nat.zero_le _⟩ Bd.bytes hml Bd.returns hnm
  obtain ⟨fs, hr, hrun, hended, e1, e2, e3, hsame⟩ := X.leaveW hS (by rw [eT]; exact hk0) (v := v) hv hlk
  refine ⟨_, _, st fs hr, hrun, hended, v, L, rfl, ⟨?_, N, ?_⟩, e1, e2, e3, hsame.mono hk hnn⟩
  · rw [show (T'.setFrames fs).heap = T'.heap from rfl, eT]
    exact hq
  · subst hh
    have q := keepOf hsame N
    exact q
theorem wCallSW {y : MethodName} {bytes : ByteArray} {maxL : Nat} {ret : Option FieldType} {rm : Room} {as' : Array Value} {ws' : List Addr} {Q' : Option Value → Heap → Prop} {index W : Nat} {argsL rest stk : List Value} (P : Pos p l e R s m args below meth c Z own ws bd T h k n) (M : OMet l y bytes maxL ret [] rm Z h ws' as' Q')
    (w1 : (Cond.methodLink own index y).before a0 Z = true) (w2 : (Cond.static y).before a0 Z = true) (w3 : (Cond.initialized y.cls).before a0 Z = true) (w4 : (Cond.code y bytes maxL ret).before a0 Z = true) (hy : y.cls ≠ "java/lang/invoke/MethodHandle" ∧ y.cls ≠ "java/lang/invoke/VarHandle") (hml : Ls.size = c.maxLocals)
    (hlen : ∀ sig, parseMethodDescriptor y.desc = some sig → argsL.length = sig.parameters.length) (has : (argsL).toArray = as') (hst : stk = argsL.reverse ++ rest) (hW : (rest.map fun v => v.category).sum ≤ W) (hf : rm.frames + 1 ≤ R.frames) (hl : W + (maxL + 11) + rm.locals ≤ R.locals) (hc : k + rm.cells ≤ R.cells) (hs : n + rm.slots ≤ R.slots)
    (hws : ∀ x ∈ ws', x ∈ ws ∨ bd ≤ x) (hd : decode c.code pc = .ok (.invokestatic index, 3)) (hp : pc + 3 = pc') {k' n' : Nat} (hk' : k + rm.cells = k') (hn' : n + rm.slots = n')
    (K : ∀ T' h' v, Pos p l e R s m args below meth c Z own ws bd T' h' k' n' → Keep h h' ws' → Q' v h' → Done p l e R s m args below meth c Z own ws bd Q T' (mkF m pc' Ls (v.toList ++ rest))) : Done p l e R s m args below meth c Z own ws bd Q T (mkF m pc Ls stk) := by
  obtain ⟨vm0, k0, hS, hk0, ⟨L, X, N'⟩, eT, b, hZ, hx, ho, hlk, _, _⟩ := id P
  subst hst has hp hk' hn'
  obtain ⟨v, _, ⟨T', L', k1, n1⟩, -, X', hS2, hgr, ⟨Lc, hq, l', y', z'⟩, stp⟩ := Jvm.RoadKit.callSS X hx (y := y) ho (mvT hZ w1) (mvT hZ w2) (mvT hZ w3) (mvT hZ w4) hy (backOfS (W := W) (Q := fun v h' L => Q' v h' ∧ Fw ws' h.size L ∧ Keep h h' ws') M hZ w4 w3 hf hl) (g := mkF m pc Ls (argsL.reverse ++ rest)) rfl hml (argsL := argsL) (rest := rest) hlen rfl (by show 2 * 0 + _ ≤ _; omega) hd (fun _ _ => ⟨rfl, eT, hc, hs⟩)
  dsimp only [Pt.U, Pt.locs, Pt.cells, Pt.slots] at X' hS2 hgr l' y' z' stp hq
  subst l' y' z'
  obtain ⟨X2, S2, Z2, O2⟩ := rebS hS (n1 := h.size) hk0 X' hS2 (by rw [← eT]; exact hgr) hZ ho
  exact Done.step (fun t kk => stp.trans kk) (K T' T'.heap v ⟨_, _, S2, Nat.le_refl _, ⟨_, X2, N'.app fun y hy => (hq.2.1 y hy).elim (fun q => hws _ q) (fun q => Or.inr (Nat.le_trans b q))⟩, rfl, Nat.le_trans b hq.2.2.1, Z2, hx, O2, hlk, hc, hs⟩ hq.2.2 hq.1)
theorem wCallIW {y : MethodName} {bytes : ByteArray} {maxL : Nat} {rm : Room} {as' : Array Value} {ws' : List Addr} {Q' : Option Value → Heap → Prop} {index W : Nat} {argsL rest stk : List Value} {a : Addr} (P : Pos p l e R s m args below meth c Z own ws bd T h k n) (M : OMet l y bytes maxL none [] rm Z h ws' as' Q')
    (hyn : y.name = "<init>") (w1 : (Cond.methodLink own index y).before a0 Z = true) (w2 : (Cond.instanceMethod y).before a0 Z = true) (w3 : (Cond.initialized y.cls).before a0 Z = true) (w4 : (Cond.code y bytes maxL none).before a0 Z = true) (hy : y.cls ≠ "java/lang/invoke/MethodHandle" ∧ y.cls ≠ "java/lang/invoke/VarHandle") (hml : Ls.size = c.maxLocals)
    (hlen : ∀ sig, parseMethodDescriptor y.desc = some sig → argsL.length = sig.parameters.length) (has : (.ref a :: argsL).toArray = as') (hst : stk = argsL.reverse ++ .ref a :: rest) (hW : (rest.map fun v => v.category).sum ≤ W) (hf : rm.frames + 1 ≤ R.frames) (hl : W + (maxL + 11) + rm.locals ≤ R.locals) (hc : k + rm.cells ≤ R.cells) (hs : n + rm.slots ≤ R.slots)
    (hws : ∀ x ∈ ws', x ∈ ws ∨ bd ≤ x) (hd : decode c.code pc = .ok (.invokespecial index, 3)) (hp : pc + 3 = pc') {k' n' : Nat} (hk' : k + rm.cells = k') (hn' : n + rm.slots = n')
    (K : ∀ T' h' v, Pos p l e R s m args below meth c Z own ws bd T' h' k' n' → Keep h h' ws' → Q' v h' → Done p l e R s m args below meth c Z own ws bd Q T' (mkF m pc' Ls (v.toList ++ rest))) : Done p l e R s m args below meth c Z own ws bd Q T (mkF m pc Ls stk) := by
  obtain ⟨vm0, k0, hS, hk0, ⟨L, X, N'⟩, eT, b, hZ, hx, ho, hlk, _, _⟩ := id P
  subst hst has hp hk' hn'
  obtain ⟨v, _, ⟨T', L', k1, n1⟩, -, X', hS2, hgr, ⟨Lc, hq, l', y', z'⟩, stp⟩ := X.specialBackS hx (y := y) hyn ho (mvT hZ w1) (mvT hZ w2) (mvT hZ w4) hy (backOfS (W := W) (Q := fun v h' L => Q' v h' ∧ Fw ws' h.size L ∧ Keep h h' ws') M hZ w4 w3 hf hl) (g := mkF m pc Ls (argsL.reverse ++ .ref a :: rest)) rfl hml (Steps.refl _) (a := a) (argsL := argsL) (rest := rest) hlen rfl (by show 2 * 0 + _ ≤ _; omega) hd (fun _ _ => ⟨rfl, eT, hc, hs⟩)
  dsimp only [Pt.U, Pt.locs, Pt.cells, Pt.slots] at X' hS2 hgr l' y' z' stp hq
  subst l' y' z'
  obtain ⟨X2, S2, Z2, O2⟩ := rebS hS (n1 := h.size) hk0 X' hS2 (by rw [← eT]; exact hgr) hZ ho
  exact Done.step (fun t kk => stp.trans kk) (K T' T'.heap v ⟨_, _, S2, Nat.le_refl _, ⟨_, X2, N'.app fun y hy => (hq.2.1 y hy).elim (fun q => hws _ q) (fun q => Or.inr (Nat.le_trans b q))⟩, rfl, Nat.le_trans b hq.2.2.1, Z2, hx, O2, hlk, hc, hs⟩ hq.2.2 hq.1)
theorem wCallVW {y : MethodName} {bytes : ByteArray} {maxL : Nat} {ret : Option FieldType} {rm : Room} {as' : Array Value} {ws' : List Addr} {Q' : Option Value → Heap → Prop} {index W : Nat} {argsL rest stk : List Value} {z : MethodName} {C : String} {a : Addr} (P : Pos p l e R s m args below meth c Z own ws bd T h k n) (M : OMet l z bytes maxL ret [] rm Z h ws' as' Q')
    (w1 : (Cond.methodLink own index y).before a0 Z = true) (w2 : (Cond.declares y).before a0 Z = true) (w5 : (Cond.selects C y z).before a0 Z = true) {D : String} (w7 : (Cond.selects D y y).before a0 Z = true) (w6 : (Cond.instanceMethod z).before a0 Z = true) (w3 : (Cond.initialized z.cls).before a0 Z = true) (w4 : (Cond.code z bytes maxL ret).before a0 Z = true) (hy : y.cls ≠ "java/lang/invoke/MethodHandle" ∧ y.cls ≠ "java/lang/invoke/VarHandle") (E : Exa Z h a C) (hml : Ls.size = c.maxLocals)
    (hlen : ∀ sig, parseMethodDescriptor y.desc = some sig → argsL.length = sig.parameters.length) (has : (.ref a :: argsL).toArray = as') (hst : stk = argsL.reverse ++ .ref a :: rest) (hW : (rest.map fun v => v.category).sum ≤ W) (hf : rm.frames + 1 ≤ R.frames) (hl : W + (maxL + 11) + rm.locals ≤ R.locals) (hc : k + rm.cells ≤ R.cells) (hs : n + rm.slots ≤ R.slots)
    (hws : ∀ x ∈ ws', x ∈ ws ∨ bd ≤ x) (hd : decode c.code pc = .ok (.invokevirtual index, 3)) (hp : pc + 3 = pc') {k' n' : Nat} (hk' : k + rm.cells = k') (hn' : n + rm.slots = n')
    (K : ∀ T' h' v, Pos p l e R s m args below meth c Z own ws bd T' h' k' n' → Keep h h' ws' → Q' v h' → Done p l e R s m args below meth c Z own ws bd Q T' (mkF m pc' Ls (v.toList ++ rest))) : Done p l e R s m args below meth c Z own ws bd Q T (mkF m pc Ls stk) := by
  obtain ⟨vm0, k0, hS, hk0, ⟨L, X, N'⟩, eT, b, hZ, hx, ho, hlk, _, _⟩ := id P
  subst hst has hp hk' hn'
  obtain ⟨cq, kq, qa, qb, qc⟩ := isOf hZ eT E
  obtain ⟨v, _, ⟨T', L', k1, n1⟩, -, X', hS2, hgr, ⟨Lc, hq, l', y', z'⟩, stp⟩ := X.virtualBackS hx (y := y) (z := z) ho (mvT hZ w1) (mvT hZ w2) (notFace_of_selects (args := #[]) (mvT hZ w7)) (mvT hZ w5) (mvT hZ w6) hy (backOfS (W := W) (Q := fun v h' L => Q' v h' ∧ Fw ws' h.size L ∧ Keep h h' ws') M hZ w4 w3 hf hl) qa qc (g := mkF m pc Ls (argsL.reverse ++ .ref a :: rest)) rfl hml (Steps.refl _) (argsL := argsL) (rest := rest) hlen rfl (by show 2 * 0 + _ ≤ _; omega) hd (fun _ _ => ⟨rfl, eT, hc, hs⟩)
  dsimp only [Pt.U, Pt.locs, Pt.cells, Pt.slots] at X' hS2 hgr l' y' z' stp hq
  subst l' y' z'
  obtain ⟨X2, S2, Z2, O2⟩ := rebS hS (n1 := h.size) hk0 X' hS2 (by rw [← eT]; exact hgr) hZ ho
  exact Done.step (fun t kk => stp.trans kk) (K T' T'.heap v ⟨_, _, S2, Nat.le_refl _, ⟨_, X2, N'.app fun y hy => (hq.2.1 y hy).elim (fun q => hws _ q) (fun q => Or.inr (Nat.le_trans b q))⟩, rfl, Nat.le_trans b hq.2.2.1, Z2, hx, O2, hlk, hc, hs⟩ hq.2.2 hq.1)
end A
end Jvm.OwnX
namespace Jvm.Pilot.@@N@@
open Jvm Jvm.ClassFile Sem Op Lib Jvm.Free Jvm.Stand Jvm.LawKit Jvm.RoadKit Jvm.OwnW Bundle Jvm.Pilot.@@N@@.Jvm.D
open Jvm.FP.Core (DInt i2d_int l2d_int dadd_int dsub_int dmul_int dneg_int zval b64 val64 dcmp_zval compare_ite i2d_ne_zero DInt_ne_nan dcmp_int dcmp_l2d)

theorem own_ru {f : Nat → UInt64} {i : Nat} {u : UInt64} (h : f i = u) (n : Jvm.Free.Fl.NoNaN64 u) : cmpValue (FP.dcmp (if (1 : Int32) = (0 : Int32) then FP.dconst1 else f i) u) .l = (0 : Int32) := by
  rw [if_neg (by decide), h]
  exact dcmpV_self n _
theorem tw0 {a0 : Array Value} {Z : State} (hw : ∀ d ∈ tables_1, d.before a0 Z = true) : (Jvm.Cond.arrayClass Jvm.ClassFile.FieldType.double).before a0 Z = true := hw _ (List.mem_of_getElem? (i := 0) rfl)
theorem tw1 {a0 : Array Value} {Z : State} (hw : ∀ d ∈ tables_1, d.before a0 Z = true) : (Jvm.Cond.constant "com/example/marginfold/marginfold/perimeter/MeasureWithRowsInMwPinLaw" (7 : Nat) (65535 : Int32)).before a0 Z = true := hw _ (List.mem_of_getElem? (i := 1) rfl)
theorem tw2 {a0 : Array Value} {Z : State} (hw : ∀ d ∈ tables_1, d.before a0 Z = true) : (Jvm.Cond.constantDouble "com/example/marginfold/marginfold/perimeter/MeasureWithRowsInMwPinLaw" (8 : Nat) (4611686018427387904 : UInt64)).before a0 Z = true := hw _ (List.mem_of_getElem? (i := 2) rfl)
theorem tw3 {a0 : Array Value} {Z : State} (hw : ∀ d ∈ tables_1, d.before a0 Z = true) : (Jvm.Cond.classLink "com/example/marginfold/marginfold/perimeter/MeasureWithRowsInMwPinLaw" (10 : Nat) "com/example/marginfold/marginfold/perimeter/LinearMargin").before a0 Z = true := hw _ (List.mem_of_getElem? (i := 3) rfl)
theorem tw4 {a0 : Array Value} {Z : State} (hw : ∀ d ∈ tables_1, d.before a0 Z = true) : (Jvm.Cond.instantiable "com/example/marginfold/marginfold/perimeter/LinearMargin" (3 : Nat)).before a0 Z = true := hw _ (List.mem_of_getElem? (i := 4) rfl)
theorem tw5 {a0 : Array Value} {Z : State} (hw : ∀ d ∈ tables_1, d.before a0 Z = true) : (Jvm.Cond.initialized "com/example/marginfold/marginfold/perimeter/LinearMargin").before a0 Z = true := hw _ (List.mem_of_getElem? (i := 5) rfl)
theorem tw6 {a0 : Array Value} {Z : State} (hw : ∀ d ∈ tables_1, d.before a0 Z = true) : (Jvm.Cond.stringLink "com/example/marginfold/marginfold/perimeter/MeasureWithRowsInMwPinLaw" (12 : Nat) "max").before a0 Z = true := hw _ (List.mem_of_getElem? (i := 6) rfl)
theorem tw7 {a0 : Array Value} {Z : State} (hw : ∀ d ∈ tables_1, d.before a0 Z = true) : (Jvm.Cond.initialized "java/lang/String").before a0 Z = true := hw _ (List.mem_of_getElem? (i := 7) rfl)
theorem tw8 {a0 : Array Value} {Z : State} (hw : ∀ d ∈ tables_1, d.before a0 Z = true) : (Jvm.Cond.instantiable "java/lang/String" (4 : Nat)).before a0 Z = true := hw _ (List.mem_of_getElem? (i := 8) rfl)
theorem tw9 {a0 : Array Value} {Z : State} (hw : ∀ d ∈ tables_1, d.before a0 Z = true) : (Jvm.Cond.arrayClass Jvm.ClassFile.FieldType.byte).before a0 Z = true := hw _ (List.mem_of_getElem? (i := 9) rfl)
theorem tw10 {a0 : Array Value} {Z : State} (hw : ∀ d ∈ tables_1, d.before a0 Z = true) : (Jvm.Cond.laysFinal "java/lang/String" "java/lang/String" "value" "[B").before a0 Z = true := hw _ (List.mem_of_getElem? (i := 10) rfl)
theorem tw11 {a0 : Array Value} {Z : State} (hw : ∀ d ∈ tables_1, d.before a0 Z = true) : (Jvm.Cond.laysFinal "java/lang/String" "java/lang/String" "coder" "B").before a0 Z = true := hw _ (List.mem_of_getElem? (i := 11) rfl)
theorem tw12 {a0 : Array Value} {Z : State} (hw : ∀ d ∈ tables_1, d.before a0 Z = true) : (Jvm.Cond.soleField "java/lang/String" "value").before a0 Z = true := hw _ (List.mem_of_getElem? (i := 12) rfl)
theorem tw13 {a0 : Array Value} {Z : State} (hw : ∀ d ∈ tables_1, d.before a0 Z = true) : (Jvm.Cond.soleField "java/lang/String" "coder").before a0 Z = true := hw _ (List.mem_of_getElem? (i := 13) rfl)
theorem tw14 {a0 : Array Value} {Z : State} (hw : ∀ d ∈ tables_1, d.before a0 Z = true) : (Jvm.Cond.methodLink "com/example/marginfold/marginfold/perimeter/MeasureWithRowsInMwPinLaw" (14 : Nat) ({ cls := "com/example/marginfold/marginfold/perimeter/LinearMargin", name := "<init>", desc := "(Ljava/lang/String;D[D)V" } : Jvm.MethodName)).before a0 Z = true := hw _ (List.mem_of_getElem? (i := 14) rfl)
theorem tw15 {a0 : Array Value} {Z : State} (hw : ∀ d ∈ tables_1, d.before a0 Z = true) : (Jvm.Cond.instanceMethod ({ cls := "com/example/marginfold/marginfold/perimeter/LinearMargin", name := "<init>", desc := "(Ljava/lang/String;D[D)V" } : Jvm.MethodName)).before a0 Z = true := hw _ (List.mem_of_getElem? (i := 15) rfl)
theorem tw16 {a0 : Array Value} {Z : State} (hw : ∀ d ∈ tables_1, d.before a0 Z = true) : (Jvm.Cond.code ({ cls := "com/example/marginfold/marginfold/perimeter/LinearMargin", name := "<init>", desc := "(Ljava/lang/String;D[D)V" } : Jvm.MethodName) prog_26_method_1_code (5 : Nat) (Option.none : Option Jvm.ClassFile.FieldType)).before a0 Z = true := hw _ (List.mem_of_getElem? (i := 16) rfl)
theorem tw17 {a0 : Array Value} {Z : State} (hw : ∀ d ∈ tables_1, d.before a0 Z = true) : (Jvm.Cond.methodLink "com/example/marginfold/marginfold/perimeter/LinearMargin" (1 : Nat) ({ cls := "java/lang/Record", name := "<init>", desc := "()V" } : Jvm.MethodName)).before a0 Z = true := hw _ (List.mem_of_getElem? (i := 17) rfl)
theorem tw18 {a0 : Array Value} {Z : State} (hw : ∀ d ∈ tables_1, d.before a0 Z = true) : (Jvm.Cond.instanceMethod ({ cls := "java/lang/Record", name := "<init>", desc := "()V" } : Jvm.MethodName)).before a0 Z = true := hw _ (List.mem_of_getElem? (i := 18) rfl)
theorem tw20 {a0 : Array Value} {Z : State} (hw : ∀ d ∈ tables_1, d.before a0 Z = true) : (Jvm.Cond.initialized "java/lang/Record").before a0 Z = true := hw _ (List.mem_of_getElem? (i := 20) rfl)
theorem tw21 {a0 : Array Value} {Z : State} (hw : ∀ d ∈ tables_1, d.before a0 Z = true) : (Jvm.Cond.code ({ cls := "java/lang/Record", name := "<init>", desc := "()V" } : Jvm.MethodName) jdk_30_method_1_code (1 : Nat) (Option.none : Option Jvm.ClassFile.FieldType)).before a0 Z = true := hw _ (List.mem_of_getElem? (i := 21) rfl)
theorem tw22 {a0 : Array Value} {Z : State} (hw : ∀ d ∈ tables_1, d.before a0 Z = true) : (Jvm.Cond.methodLink "java/lang/Record" (1 : Nat) ({ cls := "java/lang/Object", name := "<init>", desc := "()V" } : Jvm.MethodName)).before a0 Z = true := hw _ (List.mem_of_getElem? (i := 22) rfl)
theorem tw23 {a0 : Array Value} {Z : State} (hw : ∀ d ∈ tables_1, d.before a0 Z = true) : (Jvm.Cond.instanceMethod ({ cls := "java/lang/Object", name := "<init>", desc := "()V" } : Jvm.MethodName)).before a0 Z = true := hw _ (List.mem_of_getElem? (i := 23) rfl)
theorem tw24 {a0 : Array Value} {Z : State} (hw : ∀ d ∈ tables_1, d.before a0 Z = true) : (Jvm.Cond.code ({ cls := "java/lang/Object", name := "<init>", desc := "()V" } : Jvm.MethodName) object_method_1_code (1 : Nat) (Option.none : Option Jvm.ClassFile.FieldType)).before a0 Z = true := hw _ (List.mem_of_getElem? (i := 24) rfl)
theorem tw25 {a0 : Array Value} {Z : State} (hw : ∀ d ∈ tables_1, d.before a0 Z = true) : (Jvm.Cond.fieldLink "com/example/marginfold/marginfold/perimeter/LinearMargin" (7 : Nat) "com/example/marginfold/marginfold/perimeter/LinearMargin" "threshold" "Ljava/lang/String;").before a0 Z = true := hw _ (List.mem_of_getElem? (i := 25) rfl)
theorem tw26 {a0 : Array Value} {Z : State} (hw : ∀ d ∈ tables_1, d.before a0 Z = true) : (Jvm.Cond.laysFinal "com/example/marginfold/marginfold/perimeter/LinearMargin" "com/example/marginfold/marginfold/perimeter/LinearMargin" "threshold" "Ljava/lang/String;").before a0 Z = true := hw _ (List.mem_of_getElem? (i := 26) rfl)
theorem tw27 {a0 : Array Value} {Z : State} (hw : ∀ d ∈ tables_1, d.before a0 Z = true) : (Jvm.Cond.fieldLink "com/example/marginfold/marginfold/perimeter/LinearMargin" (13 : Nat) "com/example/marginfold/marginfold/perimeter/LinearMargin" "constant" "D").before a0 Z = true := hw _ (List.mem_of_getElem? (i := 27) rfl)
theorem tw28 {a0 : Array Value} {Z : State} (hw : ∀ d ∈ tables_1, d.before a0 Z = true) : (Jvm.Cond.laysFinal "com/example/marginfold/marginfold/perimeter/LinearMargin" "com/example/marginfold/marginfold/perimeter/LinearMargin" "constant" "D").before a0 Z = true := hw _ (List.mem_of_getElem? (i := 28) rfl)
theorem tw29 {a0 : Array Value} {Z : State} (hw : ∀ d ∈ tables_1, d.before a0 Z = true) : (Jvm.Cond.fieldLink "com/example/marginfold/marginfold/perimeter/LinearMargin" (17 : Nat) "com/example/marginfold/marginfold/perimeter/LinearMargin" "coefficients" "[D").before a0 Z = true := hw _ (List.mem_of_getElem? (i := 29) rfl)
theorem tw30 {a0 : Array Value} {Z : State} (hw : ∀ d ∈ tables_1, d.before a0 Z = true) : (Jvm.Cond.laysFinal "com/example/marginfold/marginfold/perimeter/LinearMargin" "com/example/marginfold/marginfold/perimeter/LinearMargin" "coefficients" "[D").before a0 Z = true := hw _ (List.mem_of_getElem? (i := 30) rfl)
theorem tw31 {a0 : Array Value} {Z : State} (hw : ∀ d ∈ tables_1, d.before a0 Z = true) : (Jvm.Cond.classLink "com/example/marginfold/marginfold/perimeter/MeasureWithRowsInMwPinLaw" (17 : Nat) "com/example/marginfold/marginfold/perimeter/Measure").before a0 Z = true := hw _ (List.mem_of_getElem? (i := 31) rfl)
theorem tw32 {a0 : Array Value} {Z : State} (hw : ∀ d ∈ tables_1, d.before a0 Z = true) : (Jvm.Cond.instantiable "com/example/marginfold/marginfold/perimeter/Measure" (4 : Nat)).before a0 Z = true := hw _ (List.mem_of_getElem? (i := 32) rfl)
theorem tw33 {a0 : Array Value} {Z : State} (hw : ∀ d ∈ tables_1, d.before a0 Z = true) : (Jvm.Cond.initialized "com/example/marginfold/marginfold/perimeter/Measure").before a0 Z = true := hw _ (List.mem_of_getElem? (i := 33) rfl)
theorem tw34 {a0 : Array Value} {Z : State} (hw : ∀ d ∈ tables_1, d.before a0 Z = true) : (Jvm.Cond.methodLink "com/example/marginfold/marginfold/perimeter/MeasureWithRowsInMwPinLaw" (19 : Nat) ({ cls := "com/example/marginfold/marginfold/perimeter/Measure", name := "<init>", desc := "([DDZZ)V" } : Jvm.MethodName)).before a0 Z = true := hw _ (List.mem_of_getElem? (i := 34) rfl)
theorem tw35 {a0 : Array Value} {Z : State} (hw : ∀ d ∈ tables_1, d.before a0 Z = true) : (Jvm.Cond.instanceMethod ({ cls := "com/example/marginfold/marginfold/perimeter/Measure", name := "<init>", desc := "([DDZZ)V" } : Jvm.MethodName)).before a0 Z = true := hw _ (List.mem_of_getElem? (i := 35) rfl)
theorem tw36 {a0 : Array Value} {Z : State} (hw : ∀ d ∈ tables_1, d.before a0 Z = true) : (Jvm.Cond.code ({ cls := "com/example/marginfold/marginfold/perimeter/Measure", name := "<init>", desc := "([DDZZ)V" } : Jvm.MethodName) prog_27_method_1_code (6 : Nat) (Option.none : Option Jvm.ClassFile.FieldType)).before a0 Z = true := hw _ (List.mem_of_getElem? (i := 36) rfl)
theorem tw37 {a0 : Array Value} {Z : State} (hw : ∀ d ∈ tables_1, d.before a0 Z = true) : (Jvm.Cond.methodLink "com/example/marginfold/marginfold/perimeter/Measure" (1 : Nat) ({ cls := "java/lang/Record", name := "<init>", desc := "()V" } : Jvm.MethodName)).before a0 Z = true := hw _ (List.mem_of_getElem? (i := 37) rfl)
theorem tw38 {a0 : Array Value} {Z : State} (hw : ∀ d ∈ tables_1, d.before a0 Z = true) : (Jvm.Cond.fieldLink "com/example/marginfold/marginfold/perimeter/Measure" (7 : Nat) "com/example/marginfold/marginfold/perimeter/Measure" "units" "[D").before a0 Z = true := hw _ (List.mem_of_getElem? (i := 38) rfl)
theorem tw39 {a0 : Array Value} {Z : State} (hw : ∀ d ∈ tables_1, d.before a0 Z = true) : (Jvm.Cond.laysFinal "com/example/marginfold/marginfold/perimeter/Measure" "com/example/marginfold/marginfold/perimeter/Measure" "units" "[D").before a0 Z = true := hw _ (List.mem_of_getElem? (i := 39) rfl)
theorem tw40 {a0 : Array Value} {Z : State} (hw : ∀ d ∈ tables_1, d.before a0 Z = true) : (Jvm.Cond.fieldLink "com/example/marginfold/marginfold/perimeter/Measure" (13 : Nat) "com/example/marginfold/marginfold/perimeter/Measure" "weight" "D").before a0 Z = true := hw _ (List.mem_of_getElem? (i := 40) rfl)
theorem tw41 {a0 : Array Value} {Z : State} (hw : ∀ d ∈ tables_1, d.before a0 Z = true) : (Jvm.Cond.laysFinal "com/example/marginfold/marginfold/perimeter/Measure" "com/example/marginfold/marginfold/perimeter/Measure" "weight" "D").before a0 Z = true := hw _ (List.mem_of_getElem? (i := 41) rfl)
theorem tw42 {a0 : Array Value} {Z : State} (hw : ∀ d ∈ tables_1, d.before a0 Z = true) : (Jvm.Cond.fieldLink "com/example/marginfold/marginfold/perimeter/Measure" (17 : Nat) "com/example/marginfold/marginfold/perimeter/Measure" "nonNegative" "Z").before a0 Z = true := hw _ (List.mem_of_getElem? (i := 42) rfl)
theorem tw43 {a0 : Array Value} {Z : State} (hw : ∀ d ∈ tables_1, d.before a0 Z = true) : (Jvm.Cond.laysFinal "com/example/marginfold/marginfold/perimeter/Measure" "com/example/marginfold/marginfold/perimeter/Measure" "nonNegative" "Z").before a0 Z = true := hw _ (List.mem_of_getElem? (i := 43) rfl)
theorem tw44 {a0 : Array Value} {Z : State} (hw : ∀ d ∈ tables_1, d.before a0 Z = true) : (Jvm.Cond.fieldLink "com/example/marginfold/marginfold/perimeter/Measure" (21 : Nat) "com/example/marginfold/marginfold/perimeter/Measure" "rowsInMw" "Z").before a0 Z = true := hw _ (List.mem_of_getElem? (i := 44) rfl)
theorem tw45 {a0 : Array Value} {Z : State} (hw : ∀ d ∈ tables_1, d.before a0 Z = true) : (Jvm.Cond.laysFinal "com/example/marginfold/marginfold/perimeter/Measure" "com/example/marginfold/marginfold/perimeter/Measure" "rowsInMw" "Z").before a0 Z = true := hw _ (List.mem_of_getElem? (i := 45) rfl)
theorem tw46 {a0 : Array Value} {Z : State} (hw : ∀ d ∈ tables_1, d.before a0 Z = true) : (Jvm.Cond.methodLink "com/example/marginfold/marginfold/perimeter/MeasureWithRowsInMwPinLaw" (22 : Nat) ({ cls := "com/example/marginfold/marginfold/perimeter/Measure", name := "withRowsInMw", desc := "()Lcom/example/marginfold/marginfold/perimeter/Measure;" } : Jvm.MethodName)).before a0 Z = true := hw _ (List.mem_of_getElem? (i := 46) rfl)
theorem tw47 {a0 : Array Value} {Z : State} (hw : ∀ d ∈ tables_1, d.before a0 Z = true) : (Jvm.Cond.declares ({ cls := "com/example/marginfold/marginfold/perimeter/Measure", name := "withRowsInMw", desc := "()Lcom/example/marginfold/marginfold/perimeter/Measure;" } : Jvm.MethodName)).before a0 Z = true := hw _ (List.mem_of_getElem? (i := 47) rfl)
theorem tw48 {a0 : Array Value} {Z : State} (hw : ∀ d ∈ tables_1, d.before a0 Z = true) : (Jvm.Cond.instanceMethod ({ cls := "com/example/marginfold/marginfold/perimeter/Measure", name := "withRowsInMw", desc := "()Lcom/example/marginfold/marginfold/perimeter/Measure;" } : Jvm.MethodName)).before a0 Z = true := hw _ (List.mem_of_getElem? (i := 48) rfl)
theorem tw49 {a0 : Array Value} {Z : State} (hw : ∀ d ∈ tables_1, d.before a0 Z = true) : (Jvm.Cond.selects "com/example/marginfold/marginfold/perimeter/Measure" ({ cls := "com/example/marginfold/marginfold/perimeter/Measure", name := "withRowsInMw", desc := "()Lcom/example/marginfold/marginfold/perimeter/Measure;" } : Jvm.MethodName) ({ cls := "com/example/marginfold/marginfold/perimeter/Measure", name := "withRowsInMw", desc := "()Lcom/example/marginfold/marginfold/perimeter/Measure;" } : Jvm.MethodName)).before a0 Z = true := hw _ (List.mem_of_getElem? (i := 49) rfl)
theorem tw50 {a0 : Array Value} {Z : State} (hw : ∀ d ∈ tables_1, d.before a0 Z = true) : (Jvm.Cond.code ({ cls := "com/example/marginfold/marginfold/perimeter/Measure", name := "withRowsInMw", desc := "()Lcom/example/marginfold/marginfold/perimeter/Measure;" } : Jvm.MethodName) prog_27_method_4_code (1 : Nat) (Option.some (Jvm.ClassFile.FieldType.object "com/example/marginfold/marginfold/perimeter/Measure"))).before a0 Z = true := hw _ (List.mem_of_getElem? (i := 50) rfl)
theorem tw51 {a0 : Array Value} {Z : State} (hw : ∀ d ∈ tables_1, d.before a0 Z = true) : (Jvm.Cond.classLink "com/example/marginfold/marginfold/perimeter/Measure" (8 : Nat) "com/example/marginfold/marginfold/perimeter/Measure").before a0 Z = true := hw _ (List.mem_of_getElem? (i := 51) rfl)
theorem tw52 {a0 : Array Value} {Z : State} (hw : ∀ d ∈ tables_1, d.before a0 Z = true) : (Jvm.Cond.methodLink "com/example/marginfold/marginfold/perimeter/Measure" (42 : Nat) ({ cls := "com/example/marginfold/marginfold/perimeter/Measure", name := "<init>", desc := "([DDZZ)V" } : Jvm.MethodName)).before a0 Z = true := hw _ (List.mem_of_getElem? (i := 52) rfl)
theorem tw53 {a0 : Array Value} {Z : State} (hw : ∀ d ∈ tables_1, d.before a0 Z = true) : (Jvm.Cond.methodLink "com/example/marginfold/marginfold/perimeter/MeasureWithRowsInMwPinLaw" (26 : Nat) ({ cls := "com/example/marginfold/marginfold/perimeter/Measure", name := "units", desc := "()[D" } : Jvm.MethodName)).before a0 Z = true := hw _ (List.mem_of_getElem? (i := 53) rfl)
theorem tw54 {a0 : Array Value} {Z : State} (hw : ∀ d ∈ tables_1, d.before a0 Z = true) : (Jvm.Cond.declares ({ cls := "com/example/marginfold/marginfold/perimeter/Measure", name := "units", desc := "()[D" } : Jvm.MethodName)).before a0 Z = true := hw _ (List.mem_of_getElem? (i := 54) rfl)
theorem tw55 {a0 : Array Value} {Z : State} (hw : ∀ d ∈ tables_1, d.before a0 Z = true) : (Jvm.Cond.instanceMethod ({ cls := "com/example/marginfold/marginfold/perimeter/Measure", name := "units", desc := "()[D" } : Jvm.MethodName)).before a0 Z = true := hw _ (List.mem_of_getElem? (i := 55) rfl)
theorem tw56 {a0 : Array Value} {Z : State} (hw : ∀ d ∈ tables_1, d.before a0 Z = true) : (Jvm.Cond.selects "com/example/marginfold/marginfold/perimeter/Measure" ({ cls := "com/example/marginfold/marginfold/perimeter/Measure", name := "units", desc := "()[D" } : Jvm.MethodName) ({ cls := "com/example/marginfold/marginfold/perimeter/Measure", name := "units", desc := "()[D" } : Jvm.MethodName)).before a0 Z = true := hw _ (List.mem_of_getElem? (i := 56) rfl)
theorem tw57 {a0 : Array Value} {Z : State} (hw : ∀ d ∈ tables_1, d.before a0 Z = true) : (Jvm.Cond.code ({ cls := "com/example/marginfold/marginfold/perimeter/Measure", name := "units", desc := "()[D" } : Jvm.MethodName) prog_27_method_12_code (1 : Nat) (Option.some (Jvm.ClassFile.FieldType.array Jvm.ClassFile.FieldType.double))).before a0 Z = true := hw _ (List.mem_of_getElem? (i := 57) rfl)
theorem tw58 {a0 : Array Value} {Z : State} (hw : ∀ d ∈ tables_1, d.before a0 Z = true) : (Jvm.Cond.methodLink "com/example/marginfold/marginfold/perimeter/MeasureWithRowsInMwPinLaw" (30 : Nat) ({ cls := "com/example/marginfold/marginfold/perimeter/Measure", name := "weight", desc := "()D" } : Jvm.MethodName)).before a0 Z = true := hw _ (List.mem_of_getElem? (i := 58) rfl)
theorem tw59 {a0 : Array Value} {Z : State} (hw : ∀ d ∈ tables_1, d.before a0 Z = true) : (Jvm.Cond.declares ({ cls := "com/example/marginfold/marginfold/perimeter/Measure", name := "weight", desc := "()D" } : Jvm.MethodName)).before a0 Z = true := hw _ (List.mem_of_getElem? (i := 59) rfl)
theorem tw60 {a0 : Array Value} {Z : State} (hw : ∀ d ∈ tables_1, d.before a0 Z = true) : (Jvm.Cond.instanceMethod ({ cls := "com/example/marginfold/marginfold/perimeter/Measure", name := "weight", desc := "()D" } : Jvm.MethodName)).before a0 Z = true := hw _ (List.mem_of_getElem? (i := 60) rfl)
theorem tw61 {a0 : Array Value} {Z : State} (hw : ∀ d ∈ tables_1, d.before a0 Z = true) : (Jvm.Cond.selects "com/example/marginfold/marginfold/perimeter/Measure" ({ cls := "com/example/marginfold/marginfold/perimeter/Measure", name := "weight", desc := "()D" } : Jvm.MethodName) ({ cls := "com/example/marginfold/marginfold/perimeter/Measure", name := "weight", desc := "()D" } : Jvm.MethodName)).before a0 Z = true := hw _ (List.mem_of_getElem? (i := 61) rfl)
theorem tw62 {a0 : Array Value} {Z : State} (hw : ∀ d ∈ tables_1, d.before a0 Z = true) : (Jvm.Cond.code ({ cls := "com/example/marginfold/marginfold/perimeter/Measure", name := "weight", desc := "()D" } : Jvm.MethodName) prog_27_method_13_code (1 : Nat) (Option.some Jvm.ClassFile.FieldType.double)).before a0 Z = true := hw _ (List.mem_of_getElem? (i := 62) rfl)
theorem tw63 {a0 : Array Value} {Z : State} (hw : ∀ d ∈ tables_1, d.before a0 Z = true) : (Jvm.Cond.methodLink "com/example/marginfold/marginfold/perimeter/MeasureWithRowsInMwPinLaw" (34 : Nat) ({ cls := "com/example/marginfold/marginfold/perimeter/Measure", name := "nonNegative", desc := "()Z" } : Jvm.MethodName)).before a0 Z = true := hw _ (List.mem_of_getElem? (i := 63) rfl)
theorem tw64 {a0 : Array Value} {Z : State} (hw : ∀ d ∈ tables_1, d.before a0 Z = true) : (Jvm.Cond.declares ({ cls := "com/example/marginfold/marginfold/perimeter/Measure", name := "nonNegative", desc := "()Z" } : Jvm.MethodName)).before a0 Z = true := hw _ (List.mem_of_getElem? (i := 64) rfl)
theorem tw65 {a0 : Array Value} {Z : State} (hw : ∀ d ∈ tables_1, d.before a0 Z = true) : (Jvm.Cond.instanceMethod ({ cls := "com/example/marginfold/marginfold/perimeter/Measure", name := "nonNegative", desc := "()Z" } : Jvm.MethodName)).before a0 Z = true := hw _ (List.mem_of_getElem? (i := 65) rfl)
theorem tw66 {a0 : Array Value} {Z : State} (hw : ∀ d ∈ tables_1, d.before a0 Z = true) : (Jvm.Cond.selects "com/example/marginfold/marginfold/perimeter/Measure" ({ cls := "com/example/marginfold/marginfold/perimeter/Measure", name := "nonNegative", desc := "()Z" } : Jvm.MethodName) ({ cls := "com/example/marginfold/marginfold/perimeter/Measure", name := "nonNegative", desc := "()Z" } : Jvm.MethodName)).before a0 Z = true := hw _ (List.mem_of_getElem? (i := 66) rfl)
theorem tw67 {a0 : Array Value} {Z : State} (hw : ∀ d ∈ tables_1, d.before a0 Z = true) : (Jvm.Cond.code ({ cls := "com/example/marginfold/marginfold/perimeter/Measure", name := "nonNegative", desc := "()Z" } : Jvm.MethodName) prog_27_method_14_code (1 : Nat) (Option.some Jvm.ClassFile.FieldType.boolean)).before a0 Z = true := hw _ (List.mem_of_getElem? (i := 67) rfl)
theorem tw68 {a0 : Array Value} {Z : State} (hw : ∀ d ∈ tables_1, d.before a0 Z = true) : (Jvm.Cond.methodLink "com/example/marginfold/marginfold/perimeter/MeasureWithRowsInMwPinLaw" (38 : Nat) ({ cls := "com/example/marginfold/marginfold/perimeter/Measure", name := "rowsInMw", desc := "()Z" } : Jvm.MethodName)).before a0 Z = true := hw _ (List.mem_of_getElem? (i := 68) rfl)
theorem tw69 {a0 : Array Value} {Z : State} (hw : ∀ d ∈ tables_1, d.before a0 Z = true) : (Jvm.Cond.declares ({ cls := "com/example/marginfold/marginfold/perimeter/Measure", name := "rowsInMw", desc := "()Z" } : Jvm.MethodName)).before a0 Z = true := hw _ (List.mem_of_getElem? (i := 69) rfl)
theorem tw70 {a0 : Array Value} {Z : State} (hw : ∀ d ∈ tables_1, d.before a0 Z = true) : (Jvm.Cond.instanceMethod ({ cls := "com/example/marginfold/marginfold/perimeter/Measure", name := "rowsInMw", desc := "()Z" } : Jvm.MethodName)).before a0 Z = true := hw _ (List.mem_of_getElem? (i := 70) rfl)
theorem tw71 {a0 : Array Value} {Z : State} (hw : ∀ d ∈ tables_1, d.before a0 Z = true) : (Jvm.Cond.selects "com/example/marginfold/marginfold/perimeter/Measure" ({ cls := "com/example/marginfold/marginfold/perimeter/Measure", name := "rowsInMw", desc := "()Z" } : Jvm.MethodName) ({ cls := "com/example/marginfold/marginfold/perimeter/Measure", name := "rowsInMw", desc := "()Z" } : Jvm.MethodName)).before a0 Z = true := hw _ (List.mem_of_getElem? (i := 71) rfl)
theorem tw72 {a0 : Array Value} {Z : State} (hw : ∀ d ∈ tables_1, d.before a0 Z = true) : (Jvm.Cond.code ({ cls := "com/example/marginfold/marginfold/perimeter/Measure", name := "rowsInMw", desc := "()Z" } : Jvm.MethodName) prog_27_method_15_code (1 : Nat) (Option.some Jvm.ClassFile.FieldType.boolean)).before a0 Z = true := hw _ (List.mem_of_getElem? (i := 72) rfl)
theorem tw73 {a0 : Array Value} {Z : State} (hw : ∀ d ∈ tables_1, d.before a0 Z = true) : (Jvm.Cond.methodLink "com/example/marginfold/marginfold/perimeter/MeasureWithRowsInMwPinLaw" (41 : Nat) ({ cls := "com/example/marginfold/marginfold/perimeter/Measure", name := "rowUnit", desc := "(I)D" } : Jvm.MethodName)).before a0 Z = true := hw _ (List.mem_of_getElem? (i := 73) rfl)
theorem tw74 {a0 : Array Value} {Z : State} (hw : ∀ d ∈ tables_1, d.before a0 Z = true) : (Jvm.Cond.declares ({ cls := "com/example/marginfold/marginfold/perimeter/Measure", name := "rowUnit", desc := "(I)D" } : Jvm.MethodName)).before a0 Z = true := hw _ (List.mem_of_getElem? (i := 74) rfl)
theorem tw75 {a0 : Array Value} {Z : State} (hw : ∀ d ∈ tables_1, d.before a0 Z = true) : (Jvm.Cond.instanceMethod ({ cls := "com/example/marginfold/marginfold/perimeter/Measure", name := "rowUnit", desc := "(I)D" } : Jvm.MethodName)).before a0 Z = true := hw _ (List.mem_of_getElem? (i := 75) rfl)
theorem tw76 {a0 : Array Value} {Z : State} (hw : ∀ d ∈ tables_1, d.before a0 Z = true) : (Jvm.Cond.selects "com/example/marginfold/marginfold/perimeter/Measure" ({ cls := "com/example/marginfold/marginfold/perimeter/Measure", name := "rowUnit", desc := "(I)D" } : Jvm.MethodName) ({ cls := "com/example/marginfold/marginfold/perimeter/Measure", name := "rowUnit", desc := "(I)D" } : Jvm.MethodName)).before a0 Z = true := hw _ (List.mem_of_getElem? (i := 76) rfl)
theorem tw77 {a0 : Array Value} {Z : State} (hw : ∀ d ∈ tables_1, d.before a0 Z = true) : (Jvm.Cond.code ({ cls := "com/example/marginfold/marginfold/perimeter/Measure", name := "rowUnit", desc := "(I)D" } : Jvm.MethodName) prog_27_method_7_code (2 : Nat) (Option.some Jvm.ClassFile.FieldType.double)).before a0 Z = true := hw _ (List.mem_of_getElem? (i := 77) rfl)
theorem tw78 {a0 : Array Value} {Z : State} (hw : ∀ d ∈ tables_1, d.before a0 Z = true) : (Jvm.Cond.methodLink "com/example/marginfold/marginfold/perimeter/MeasureWithRowsInMwPinLaw" (45 : Nat) ({ cls := "com/example/marginfold/marginfold/perimeter/Measure", name := "row", desc := "(ILcom/example/marginfold/marginfold/perimeter/LinearMargin;)Lcom/example/marginfold/marginfold/perimeter/LinearMargin;" } : Jvm.MethodName)).before a0 Z = true := hw _ (List.mem_of_getElem? (i := 78) rfl)
theorem tw79 {a0 : Array Value} {Z : State} (hw : ∀ d ∈ tables_1, d.before a0 Z = true) : (Jvm.Cond.declares ({ cls := "com/example/marginfold/marginfold/perimeter/Measure", name := "row", desc := "(ILcom/example/marginfold/marginfold/perimeter/LinearMargin;)Lcom/example/marginfold/marginfold/perimeter/LinearMargin;" } : Jvm.MethodName)).before a0 Z = true := hw _ (List.mem_of_getElem? (i := 79) rfl)
theorem tw80 {a0 : Array Value} {Z : State} (hw : ∀ d ∈ tables_1, d.before a0 Z = true) : (Jvm.Cond.instanceMethod ({ cls := "com/example/marginfold/marginfold/perimeter/Measure", name := "row", desc := "(ILcom/example/marginfold/marginfold/perimeter/LinearMargin;)Lcom/example/marginfold/marginfold/perimeter/LinearMargin;" } : Jvm.MethodName)).before a0 Z = true := hw _ (List.mem_of_getElem? (i := 80) rfl)
theorem tw81 {a0 : Array Value} {Z : State} (hw : ∀ d ∈ tables_1, d.before a0 Z = true) : (Jvm.Cond.selects "com/example/marginfold/marginfold/perimeter/Measure" ({ cls := "com/example/marginfold/marginfold/perimeter/Measure", name := "row", desc := "(ILcom/example/marginfold/marginfold/perimeter/LinearMargin;)Lcom/example/marginfold/marginfold/perimeter/LinearMargin;" } : Jvm.MethodName) ({ cls := "com/example/marginfold/marginfold/perimeter/Measure", name := "row", desc := "(ILcom/example/marginfold/marginfold/perimeter/LinearMargin;)Lcom/example/marginfold/marginfold/perimeter/LinearMargin;" } : Jvm.MethodName)).before a0 Z = true := hw _ (List.mem_of_getElem? (i := 81) rfl)
theorem tw82 {a0 : Array Value} {Z : State} (hw : ∀ d ∈ tables_1, d.before a0 Z = true) : (Jvm.Cond.code ({ cls := "com/example/marginfold/marginfold/perimeter/Measure", name := "row", desc := "(ILcom/example/marginfold/marginfold/perimeter/LinearMargin;)Lcom/example/marginfold/marginfold/perimeter/LinearMargin;" } : Jvm.MethodName) prog_27_method_6_code (3 : Nat) (Option.some (Jvm.ClassFile.FieldType.object "com/example/marginfold/marginfold/perimeter/LinearMargin"))).before a0 Z = true := hw _ (List.mem_of_getElem? (i := 82) rfl)
theorem pn_0 : plainName "java/lang/Record" = true := by first | (simp [plainName, overriddenIn]; done) | decide +kernel
theorem pd_0 : parseMethodDescriptor "()V" = some ⟨[], none⟩ := by decide +kernel
theorem pn_1 : plainName "com/example/marginfold/marginfold/perimeter/Measure" = true := by first | (simp [plainName, overriddenIn]; done) | decide +kernel
theorem pn_2 : plainName "com/example/marginfold/marginfold/perimeter/LinearMargin" = true := by first | (simp [plainName, overriddenIn]; done) | decide +kernel
theorem pd_1 : parseMethodDescriptor "([DDZZ)V" = some ⟨[(.array .double), .double, .boolean, .boolean], none⟩ := by decide +kernel
theorem own_c0 {P : Cond → Prop} : ∀ y ∈ ([] : List Cond), P y := fun _ h => absurd h List.not_mem_nil
theorem own_cS {P : Cond → Prop} {x : Cond} {xs : List Cond} (h : P x) (q : ∀ y ∈ xs, P y) : ∀ y ∈ x :: xs, P y := List.forall_mem_cons.mpr ⟨h, q⟩
theorem own_wS {a0 : Array Value} {Z : State} (hw : ∀ d ∈ tables_1, d.before a0 Z = true) : ∀ a ∈ Bundle.stringAtoms, a.before a0 Z = true := by
  show ∀ a ∈ ([Jvm.Cond.initialized "java/lang/String", Jvm.Cond.instantiable "java/lang/String" (4 : Nat), Jvm.Cond.arrayClass Jvm.ClassFile.FieldType.byte, Jvm.Cond.laysFinal "java/lang/String" "java/lang/String" "value" "[B", Jvm.Cond.laysFinal "java/lang/String" "java/lang/String" "coder" "B", Jvm.Cond.soleField "java/lang/String" "value", Jvm.Cond.soleField "java/lang/String" "coder"] : List Cond), a.before a0 Z = true
  exact (own_cS (P := fun a => a.before a0 Z = true) (tw7 hw) (own_cS (P := fun a => a.before a0 Z = true) (tw8 hw) (own_cS (P := fun a => a.before a0 Z = true) (tw9 hw) (own_cS (P := fun a => a.before a0 Z = true) (tw10 hw) (own_cS (P := fun a => a.before a0 Z = true) (tw11 hw) (own_cS (P := fun a => a.before a0 Z = true) (tw12 hw) (own_cS (P := fun a => a.before a0 Z = true) (tw13 hw) own_c0)))))))
theorem pd_2 : parseMethodDescriptor "(Ljava/lang/String;D[D)V" = some ⟨[(.object "java/lang/String"), .double, (.array .double)], none⟩ := by decide +kernel
theorem pd_3 : parseMethodDescriptor "()Lcom/example/marginfold/marginfold/perimeter/Measure;" = some ⟨[], some (.object "com/example/marginfold/marginfold/perimeter/Measure")⟩ := by decide +kernel
theorem pd_4 : parseMethodDescriptor "()[D" = some ⟨[], some (.array .double)⟩ := by decide +kernel
theorem pd_5 : parseMethodDescriptor "()D" = some ⟨[], some .double⟩ := by decide +kernel
theorem pd_6 : parseMethodDescriptor "()Z" = some ⟨[], some .boolean⟩ := by decide +kernel
theorem pd_7 : parseMethodDescriptor "(I)D" = some ⟨[.int], some .double⟩ := by decide +kernel
theorem pd_8 : parseMethodDescriptor "(ILcom/example/marginfold/marginfold/perimeter/LinearMargin;)Lcom/example/marginfold/marginfold/perimeter/LinearMargin;" = some ⟨[.int, (.object "com/example/marginfold/marginfold/perimeter/LinearMargin")], some (.object "com/example/marginfold/marginfold/perimeter/LinearMargin")⟩ := by decide +kernel
theorem pn_3 : plainName "com/example/marginfold/marginfold/perimeter/MeasureWithRowsInMwPinLaw" = true := by first | (simp [plainName, overriddenIn]; done) | decide +kernel
theorem ef_rec (m : MethodId) (x0 : Addr) : entryFrame m #[(.ref x0)] 1 = mkF m 0 #[.val (.ref x0)] [] := by first | (simp [entryFrame, mkF, argsToLocals, Value.category]; done) | rfl
theorem d_rec_0 : decode jdk_30_method_1_code 0 = .ok (.aload_n 0, 1) := by decide +kernel
theorem d_rec_1 : decode jdk_30_method_1_code 1 = .ok (.invokespecial 1, 3) := by decide +kernel
theorem d_rec_4 : decode jdk_30_method_1_code 4 = .ok (.return_, 1) := by decide +kernel
set_option maxRecDepth 65536 in
set_option maxHeartbeats 4000000 in
theorem m_rec (l : Launch) (Z : State) (a0 : Array Value) (hw : ∀ d ∈ tables_1, d.before a0 Z = true) (a : Addr) (h0 : Heap)  :
    OMet l (⟨"java/lang/Record", "<init>", "()V"⟩ : MethodName) jdk_30_method_1_code 1 (Option.none : Option FieldType) [] ({ frames := 1, cells := 0, slots := 0, locals := 12 } : Room) Z h0 [] #[(.ref a)] (fun v h' => v = none ∧ h0 = h') := by
  refine OMet.of (own := "java/lang/Record") (nm := "<init>") (plainFor_of_name pn_0) rfl rfl ?_
  intro p e s m below meth c T0 P0 hby hml hret hnm
  refine Done.step (T' := T0) (g' := (mkF m 0 #[.val (.ref a)] [])) (fun t kk => castTop (ef_rec m a) kk) ?_
  refine Done.stepL (pc' := 1) (st' := [(.ref a)]) (fun t kk => ?_) ?_
  · show Steps p.tables e below (T0.setTop (mkF m 0 _ [])) t
    refine XS.aloadN P0.here P0.x rfl (hb hby d_rec_0) rfl rfl ?_
    exact kk
  refine wInit P0 (tw22 hw) (tw23 hw) (tw24 hw) (by rw [hml]; rfl) (hb hby d_rec_1) (by decide) (W := 0) (Nat.le_of_eq rfl) (by decide) rfl (fun T1 P2 => ?_)
  show Done _ _ _ _ _ _ _ _ _ _ _ _ _ _ _ T1 (mkF m 4 _ [])
  exact wRetV P2 hret (hb hby d_rec_4) ⟨rfl, rfl⟩
theorem ef_init (m : MethodId) (x0 : Addr) (x1 : Addr) (x2 : UInt64) (x3 : Int32) (x4 : Int32) : entryFrame m #[(.ref x0), (.ref x1), (.double x2), (.int x3), (.int x4)] 6 = mkF m 0 #[.val (.ref x0), .val (.ref x1), .val (.double x2), .second, .val (.int x3), .val (.int x4)] [] := by first | (simp [entryFrame, mkF, argsToLocals, Value.category]; done) | rfl
theorem d_init_0 : decode prog_27_method_1_code 0 = .ok (.aload_n 0, 1) := by decide +kernel
theorem d_init_1 : decode prog_27_method_1_code 1 = .ok (.invokespecial 1, 3) := by decide +kernel
theorem d_init_4 : decode prog_27_method_1_code 4 = .ok (.aload_n 0, 1) := by decide +kernel
theorem d_init_5 : decode prog_27_method_1_code 5 = .ok (.aload_n 1, 1) := by decide +kernel
theorem d_init_6 : decode prog_27_method_1_code 6 = .ok (.putfield 7, 3) := by decide +kernel
theorem d_init_9 : decode prog_27_method_1_code 9 = .ok (.aload_n 0, 1) := by decide +kernel
theorem d_init_10 : decode prog_27_method_1_code 10 = .ok (.dload_n 2, 1) := by decide +kernel
theorem d_init_11 : decode prog_27_method_1_code 11 = .ok (.putfield 13, 3) := by decide +kernel
theorem d_init_14 : decode prog_27_method_1_code 14 = .ok (.aload_n 0, 1) := by decide +kernel
theorem d_init_15 : decode prog_27_method_1_code 15 = .ok (.iload 4, 2) := by decide +kernel
theorem d_init_17 : decode prog_27_method_1_code 17 = .ok (.putfield 17, 3) := by decide +kernel
theorem d_init_20 : decode prog_27_method_1_code 20 = .ok (.aload_n 0, 1) := by decide +kernel
theorem d_init_21 : decode prog_27_method_1_code 21 = .ok (.iload 5, 2) := by decide +kernel
theorem d_init_23 : decode prog_27_method_1_code 23 = .ok (.putfield 21, 3) := by decide +kernel
theorem d_init_26 : decode prog_27_method_1_code 26 = .ok (.return_, 1) := by decide +kernel
set_option maxRecDepth 65536 in
set_option maxHeartbeats 4000000 in
theorem m_init (l : Launch) (Z : State) (a0 : Array Value) (hw : ∀ d ∈ tables_1, d.before a0 Z = true) (a : Addr) (p0 : Addr) (p1 : UInt64) (p2 : Int32) (p3 : Int32) (h0 : Heap) (E0 : Exa Z h0 a "com/example/marginfold/marginfold/perimeter/Measure") (b2 : p2 = 0 ∨ p2 = 1) (b3 : p3 = 0 ∨ p3 = 1) (F_units : Fld Z h0 a "com/example/marginfold/marginfold/perimeter/Measure" "units" "[D" .null) (F_weight : Fld Z h0 a "com/example/marginfold/marginfold/perimeter/Measure" "weight" "D" (.double (0 : UInt64))) (F_nonNegative : Fld Z h0 a "com/example/marginfold/marginfold/perimeter/Measure" "nonNegative" "Z" (.int (0 : Int32))) (F_rowsInMw : Fld Z h0 a "com/example/marginfold/marginfold/perimeter/Measure" "rowsInMw" "Z" (.int (0 : Int32))) :
    OMet l (⟨"com/example/marginfold/marginfold/perimeter/Measure", "<init>", "([DDZZ)V"⟩ : MethodName) prog_27_method_1_code 6 (Option.none : Option FieldType) [] ({ frames := 2, cells := 0, slots := 0, locals := 24 } : Room) Z h0 [a] #[(.ref a), (.ref p0), (.double p1), (.int p2), (.int p3)] (fun v h' => v = none ∧ Fld Z h' a "com/example/marginfold/marginfold/perimeter/Measure" "units" "[D" (.ref p0) ∧ Fld Z h' a "com/example/marginfold/marginfold/perimeter/Measure" "weight" "D" (.double p1) ∧ Fld Z h' a "com/example/marginfold/marginfold/perimeter/Measure" "nonNegative" "Z" (.int p2) ∧ Fld Z h' a "com/example/marginfold/marginfold/perimeter/Measure" "rowsInMw" "Z" (.int p3)) := by
  refine OMet.of (own := "com/example/marginfold/marginfold/perimeter/Measure") (nm := "<init>") (plainFor_of_name pn_1) rfl rfl ?_
  intro p e s m below meth c T0 P0 hby hml hret hnm
  refine Done.step (T' := T0) (g' := (mkF m 0 #[.val (.ref a), .val (.ref p0), .val (.double p1), .second, .val (.int p2), .val (.int p3)] [])) (fun t kk => castTop (ef_init m a p0 p1 p2 p3) kk) ?_
  refine Done.stepL (pc' := 1) (st' := [(.ref a)]) (fun t kk => ?_) ?_
  · show Steps p.tables e below (T0.setTop (mkF m 0 _ [])) t
    refine XS.aloadN P0.here P0.x rfl (hb hby d_init_0) rfl rfl ?_
    exact kk
  refine wCallI P0 (m_rec l Z a0 hw a h0) rfl (tw37 hw) (tw18 hw) (tw20 hw) (tw21 hw) (by decide) (a := a) (by rw [hml]; rfl) (lenOf pd_0 rfl) (argsL := []) (rest := []) rfl rfl (W := 0) (Nat.le_of_eq rfl) (by decide) (by decide) (by decide) (by decide) (by simp) (hb hby d_init_1) rfl (k' := 0) (n' := 0) rfl rfl ?_
  rintro T1 _ _ P2 - ⟨rfl, rfl⟩
  show Done _ _ _ _ _ _ _ _ _ _ _ _ _ _ _ T1 (mkF m 4 _ [])
  refine Done.stepL (pc' := 6) (st' := [(.ref p0), (.ref a)]) (fun t kk => ?_) ?_
  · show Steps p.tables e below (T1.setTop (mkF m 4 _ [])) t
    refine XS.aloadN P2.here P2.x rfl (hb hby d_init_4) rfl rfl ?_
    show Steps p.tables e below (T1.setTop (mkF m 5 _ [(.ref a)])) t
    refine XS.aloadN P2.here P2.x rfl (hb hby d_init_5) rfl rfl ?_
    exact kk
  refine wPut P2 (host := "") (Or.inl (tw38 hw)) Via.refl F_units E0 (Or.inr ⟨(tw39 hw), rfl, hnm⟩) (tw32 hw) (ty := (.array .double)) (by decide) rfl rfl (Or.inl (by simp)) (hb hby d_init_6) rfl (fun T3 h5 P4 W6 F7 => ?_)
  have szh5 : h5.size = h0.size := W6.size
  show Done _ _ _ _ _ _ _ _ _ _ _ _ _ _ _ T3 (mkF m 9 _ [])
  refine Done.stepL (pc' := 11) (st' := [(.double p1), (.ref a)]) (fun t kk => ?_) ?_
  · show Steps p.tables e below (T3.setTop (mkF m 9 _ [])) t
    refine XS.aloadN P4.here P4.x rfl (hb hby d_init_9) rfl rfl ?_
    show Steps p.tables e below (T3.setTop (mkF m 10 _ [(.ref a)])) t
    refine XS.dloadN P4.here P4.x rfl (hb hby d_init_10) rfl ?_
    exact kk
  have f8 := (F_weight.other W6 (Or.inr (slot_ne (Or.inr (tw41 hw)) (Or.inr (tw39 hw)) (by decide) (t := .double) (t' := (.array .double)) (by decide) (by decide))))
  have f9 := (E0.wr W6)
  refine wPut P4 (host := "") (Or.inl (tw40 hw)) Via.refl f8 f9 (Or.inr ⟨(tw41 hw), rfl, hnm⟩) (tw32 hw) (ty := .double) (by decide) rfl rfl (Or.inl (by simp)) (hb hby d_init_11) rfl (fun T10 h12 P11 W13 F14 => ?_)
  have szh12 : h12.size = h5.size := W13.size
  show Done _ _ _ _ _ _ _ _ _ _ _ _ _ _ _ T10 (mkF m 14 _ [])
  refine Done.stepL (pc' := 17) (st' := [(.int p2), (.ref a)]) (fun t kk => ?_) ?_
  · show Steps p.tables e below (T10.setTop (mkF m 14 _ [])) t
    refine XS.aloadN P11.here P11.x rfl (hb hby d_init_14) rfl rfl ?_
    show Steps p.tables e below (T10.setTop (mkF m 15 _ [(.ref a)])) t
    refine XS.iload P11.here P11.x rfl (hb hby d_init_15) rfl ?_
    exact kk
  have f15 := ((F_nonNegative.other W6 (Or.inr (slot_ne (Or.inr (tw43 hw)) (Or.inr (tw39 hw)) (by decide) (t := .boolean) (t' := (.array .double)) (by decide) (by decide)))).other W13 (Or.inr (slot_ne (Or.inr (tw43 hw)) (Or.inr (tw41 hw)) (by decide) (t := .boolean) (t' := .double) (by decide) (by decide))))
  have f16 := (f9.wr W13)
  refine wPut P11 (host := "") (Or.inl (tw42 hw)) Via.refl f15 f16 (Or.inr ⟨(tw43 hw), rfl, hnm⟩) (tw32 hw) (ty := .boolean) (by decide) (narrow_01 b2) (fits_01 b2) (Or.inl (by simp)) (hb hby d_init_17) rfl (fun T17 h19 P18 W20 F21 => ?_)
  have szh19 : h19.size = h12.size := W20.size
  show Done _ _ _ _ _ _ _ _ _ _ _ _ _ _ _ T17 (mkF m 20 _ [])
  refine Done.stepL (pc' := 23) (st' := [(.int p3), (.ref a)]) (fun t kk => ?_) ?_
  · show Steps p.tables e below (T17.setTop (mkF m 20 _ [])) t
    refine XS.aloadN P18.here P18.x rfl (hb hby d_init_20) rfl rfl ?_
    show Steps p.tables e below (T17.setTop (mkF m 21 _ [(.ref a)])) t
    refine XS.iload P18.here P18.x rfl (hb hby d_init_21) rfl ?_
    exact kk
  have f22 := (((F_rowsInMw.other W6 (Or.inr (slot_ne (Or.inr (tw45 hw)) (Or.inr (tw39 hw)) (by decide) (t := .boolean) (t' := (.array .double)) (by decide) (by decide)))).other W13 (Or.inr (slot_ne (Or.inr (tw45 hw)) (Or.inr (tw41 hw)) (by decide) (t := .boolean) (t' := .double) (by decide) (by decide)))).other W20 (Or.inr (slot_ne (Or.inr (tw45 hw)) (Or.inr (tw43 hw)) (by decide) (t := .boolean) (t' := .boolean) (by decide) (by decide))))
  have f23 := (f16.wr W20)
  refine wPut P18 (host := "") (Or.inl (tw44 hw)) Via.refl f22 f23 (Or.inr ⟨(tw45 hw), rfl, hnm⟩) (tw32 hw) (ty := .boolean) (by decide) (narrow_01 b3) (fits_01 b3) (Or.inl (by simp)) (hb hby d_init_23) rfl (fun T24 h26 P25 W27 F28 => ?_)
  have szh26 : h26.size = h19.size := W27.size
  show Done _ _ _ _ _ _ _ _ _ _ _ _ _ _ _ T24 (mkF m 26 _ [])
  have f29 := (((F7.other W13 (Or.inr (slot_ne (Or.inr (tw39 hw)) (Or.inr (tw41 hw)) (by decide) (t := (.array .double)) (t' := .double) (by decide) (by decide)))).other W20 (Or.inr (slot_ne (Or.inr (tw39 hw)) (Or.inr (tw43 hw)) (by decide) (t := (.array .double)) (t' := .boolean) (by decide) (by decide)))).other W27 (Or.inr (slot_ne (Or.inr (tw39 hw)) (Or.inr (tw45 hw)) (by decide) (t := (.array .double)) (t' := .boolean) (by decide) (by decide))))
  have f30 := ((F14.other W20 (Or.inr (slot_ne (Or.inr (tw41 hw)) (Or.inr (tw43 hw)) (by decide) (t := .double) (t' := .boolean) (by decide) (by decide)))).other W27 (Or.inr (slot_ne (Or.inr (tw41 hw)) (Or.inr (tw45 hw)) (by decide) (t := .double) (t' := .boolean) (by decide) (by decide))))
  have f31 := (F21.other W27 (Or.inr (slot_ne (Or.inr (tw43 hw)) (Or.inr (tw45 hw)) (by decide) (t := .boolean) (t' := .boolean) (by decide) (by decide))))
  exact wRetV P25 hret (hb hby d_init_26) ⟨rfl, f29, f30, f31, F28⟩
theorem ef_lmInit (m : MethodId) (x0 : Addr) (x1 : Addr) (x2 : UInt64) (x3 : Addr) : entryFrame m #[(.ref x0), (.ref x1), (.double x2), (.ref x3)] 5 = mkF m 0 #[.val (.ref x0), .val (.ref x1), .val (.double x2), .second, .val (.ref x3)] [] := by first | (simp [entryFrame, mkF, argsToLocals, Value.category]; done) | rfl
theorem d_lmInit_0 : decode prog_26_method_1_code 0 = .ok (.aload_n 0, 1) := by decide +kernel
theorem d_lmInit_1 : decode prog_26_method_1_code 1 = .ok (.invokespecial 1, 3) := by decide +kernel
theorem d_lmInit_4 : decode prog_26_method_1_code 4 = .ok (.aload_n 0, 1) := by decide +kernel
theorem d_lmInit_5 : decode prog_26_method_1_code 5 = .ok (.aload_n 1, 1) := by decide +kernel
theorem d_lmInit_6 : decode prog_26_method_1_code 6 = .ok (.putfield 7, 3) := by decide +kernel
theorem d_lmInit_9 : decode prog_26_method_1_code 9 = .ok (.aload_n 0, 1) := by decide +kernel
theorem d_lmInit_10 : decode prog_26_method_1_code 10 = .ok (.dload_n 2, 1) := by decide +kernel
theorem d_lmInit_11 : decode prog_26_method_1_code 11 = .ok (.putfield 13, 3) := by decide +kernel
theorem d_lmInit_14 : decode prog_26_method_1_code 14 = .ok (.aload_n 0, 1) := by decide +kernel
theorem d_lmInit_15 : decode prog_26_method_1_code 15 = .ok (.aload 4, 2) := by decide +kernel
theorem d_lmInit_17 : decode prog_26_method_1_code 17 = .ok (.putfield 17, 3) := by decide +kernel
theorem d_lmInit_20 : decode prog_26_method_1_code 20 = .ok (.return_, 1) := by decide +kernel
set_option maxRecDepth 65536 in
set_option maxHeartbeats 4000000 in
theorem m_lmInit (l : Launch) (Z : State) (a0 : Array Value) (hw : ∀ d ∈ tables_1, d.before a0 Z = true) (a : Addr) (p0 : Addr) (p1 : UInt64) (p2 : Addr) (h0 : Heap) (E0 : Exa Z h0 a "com/example/marginfold/marginfold/perimeter/LinearMargin") (F_threshold : Fld Z h0 a "com/example/marginfold/marginfold/perimeter/LinearMargin" "threshold" "Ljava/lang/String;" .null) (F_constant : Fld Z h0 a "com/example/marginfold/marginfold/perimeter/LinearMargin" "constant" "D" (.double (0 : UInt64))) (F_coefficients : Fld Z h0 a "com/example/marginfold/marginfold/perimeter/LinearMargin" "coefficients" "[D" .null) :
    OMet l (⟨"com/example/marginfold/marginfold/perimeter/LinearMargin", "<init>", "(Ljava/lang/String;D[D)V"⟩ : MethodName) prog_26_method_1_code 5 (Option.none : Option FieldType) [] ({ frames := 2, cells := 0, slots := 0, locals := 24 } : Room) Z h0 [a] #[(.ref a), (.ref p0), (.double p1), (.ref p2)] (fun v h' => v = none ∧ Fld Z h' a "com/example/marginfold/marginfold/perimeter/LinearMargin" "threshold" "Ljava/lang/String;" (.ref p0) ∧ Fld Z h' a "com/example/marginfold/marginfold/perimeter/LinearMargin" "constant" "D" (.double p1) ∧ Fld Z h' a "com/example/marginfold/marginfold/perimeter/LinearMargin" "coefficients" "[D" (.ref p2)) := by
  refine OMet.of (own := "com/example/marginfold/marginfold/perimeter/LinearMargin") (nm := "<init>") (plainFor_of_name pn_2) rfl rfl ?_
  intro p e s m below meth c T0 P0 hby hml hret hnm
  refine Done.step (T' := T0) (g' := (mkF m 0 #[.val (.ref a), .val (.ref p0), .val (.double p1), .second, .val (.ref p2)] [])) (fun t kk => castTop (ef_lmInit m a p0 p1 p2) kk) ?_
  refine Done.stepL (pc' := 1) (st' := [(.ref a)]) (fun t kk => ?_) ?_
  · show Steps p.tables e below (T0.setTop (mkF m 0 _ [])) t
    refine XS.aloadN P0.here P0.x rfl (hb hby d_lmInit_0) rfl rfl ?_
    exact kk
  refine wCallI P0 (m_rec l Z a0 hw a h0) rfl (tw17 hw) (tw18 hw) (tw20 hw) (tw21 hw) (by decide) (a := a) (by rw [hml]; rfl) (lenOf pd_0 rfl) (argsL := []) (rest := []) rfl rfl (W := 0) (Nat.le_of_eq rfl) (by decide) (by decide) (by decide) (by decide) (by simp) (hb hby d_lmInit_1) rfl (k' := 0) (n' := 0) rfl rfl ?_
  rintro T1 _ _ P2 - ⟨rfl, rfl⟩
  show Done _ _ _ _ _ _ _ _ _ _ _ _ _ _ _ T1 (mkF m 4 _ [])
  refine Done.stepL (pc' := 6) (st' := [(.ref p0), (.ref a)]) (fun t kk => ?_) ?_
  · show Steps p.tables e below (T1.setTop (mkF m 4 _ [])) t
    refine XS.aloadN P2.here P2.x rfl (hb hby d_lmInit_4) rfl rfl ?_
    show Steps p.tables e below (T1.setTop (mkF m 5 _ [(.ref a)])) t
    refine XS.aloadN P2.here P2.x rfl (hb hby d_lmInit_5) rfl rfl ?_
    exact kk
  refine wPut P2 (host := "") (Or.inl (tw25 hw)) Via.refl F_threshold E0 (Or.inr ⟨(tw26 hw), rfl, hnm⟩) (tw4 hw) (ty := (.object "java/lang/String")) (by decide) rfl rfl (Or.inl (by simp)) (hb hby d_lmInit_6) rfl (fun T3 h5 P4 W6 F7 => ?_)
  have szh5 : h5.size = h0.size := W6.size
  show Done _ _ _ _ _ _ _ _ _ _ _ _ _ _ _ T3 (mkF m 9 _ [])
  refine Done.stepL (pc' := 11) (st' := [(.double p1), (.ref a)]) (fun t kk => ?_) ?_
  · show Steps p.tables e below (T3.setTop (mkF m 9 _ [])) t
    refine XS.aloadN P4.here P4.x rfl (hb hby d_lmInit_9) rfl rfl ?_
    show Steps p.tables e below (T3.setTop (mkF m 10 _ [(.ref a)])) t
    refine XS.dloadN P4.here P4.x rfl (hb hby d_lmInit_10) rfl ?_
    exact kk
  have f8 := (F_constant.other W6 (Or.inr (slot_ne (Or.inr (tw28 hw)) (Or.inr (tw26 hw)) (by decide) (t := .double) (t' := (.object "java/lang/String")) (by decide) (by decide))))
  have f9 := (E0.wr W6)
  refine wPut P4 (host := "") (Or.inl (tw27 hw)) Via.refl f8 f9 (Or.inr ⟨(tw28 hw), rfl, hnm⟩) (tw4 hw) (ty := .double) (by decide) rfl rfl (Or.inl (by simp)) (hb hby d_lmInit_11) rfl (fun T10 h12 P11 W13 F14 => ?_)
  have szh12 : h12.size = h5.size := W13.size
  show Done _ _ _ _ _ _ _ _ _ _ _ _ _ _ _ T10 (mkF m 14 _ [])
  refine Done.stepL (pc' := 17) (st' := [(.ref p2), (.ref a)]) (fun t kk => ?_) ?_
  · show Steps p.tables e below (T10.setTop (mkF m 14 _ [])) t
    refine XS.aloadN P11.here P11.x rfl (hb hby d_lmInit_14) rfl rfl ?_
    show Steps p.tables e below (T10.setTop (mkF m 15 _ [(.ref a)])) t
    refine XS.aload P11.here P11.x rfl (hb hby d_lmInit_15) rfl rfl ?_
    exact kk
  have f15 := ((F_coefficients.other W6 (Or.inr (slot_ne (Or.inr (tw30 hw)) (Or.inr (tw26 hw)) (by decide) (t := (.array .double)) (t' := (.object "java/lang/String")) (by decide) (by decide)))).other W13 (Or.inr (slot_ne (Or.inr (tw30 hw)) (Or.inr (tw28 hw)) (by decide) (t := (.array .double)) (t' := .double) (by decide) (by decide))))
  have f16 := (f9.wr W13)
  refine wPut P11 (host := "") (Or.inl (tw29 hw)) Via.refl f15 f16 (Or.inr ⟨(tw30 hw), rfl, hnm⟩) (tw4 hw) (ty := (.array .double)) (by decide) rfl rfl (Or.inl (by simp)) (hb hby d_lmInit_17) rfl (fun T17 h19 P18 W20 F21 => ?_)
  have szh19 : h19.size = h12.size := W20.size
  show Done _ _ _ _ _ _ _ _ _ _ _ _ _ _ _ T17 (mkF m 20 _ [])
  have f22 := ((F7.other W13 (Or.inr (slot_ne (Or.inr (tw26 hw)) (Or.inr (tw28 hw)) (by decide) (t := (.object "java/lang/String")) (t' := .double) (by decide) (by decide)))).other W20 (Or.inr (slot_ne (Or.inr (tw26 hw)) (Or.inr (tw30 hw)) (by decide) (t := (.object "java/lang/String")) (t' := (.array .double)) (by decide) (by decide))))
  have f23 := (F14.other W20 (Or.inr (slot_ne (Or.inr (tw28 hw)) (Or.inr (tw30 hw)) (by decide) (t := .double) (t' := (.array .double)) (by decide) (by decide))))
  exact wRetV P18 hret (hb hby d_lmInit_20) ⟨rfl, f22, f23, F21⟩
theorem ef_rowUnit (m : MethodId) (x0 : Addr) (x1 : Int32) : entryFrame m #[(.ref x0), (.int x1)] 2 = mkF m 0 #[.val (.ref x0), .val (.int x1)] [] := by first | (simp [entryFrame, mkF, argsToLocals, Value.category]; done) | rfl
theorem d_rowUnit_0 : decode prog_27_method_7_code 0 = .ok (.aload_n 0, 1) := by decide +kernel
theorem d_rowUnit_1 : decode prog_27_method_7_code 1 = .ok (.getfield 21, 3) := by decide +kernel
theorem d_rowUnit_4 : decode prog_27_method_7_code 4 = .ok (.ifCond .eq 12, 3) := by decide +kernel
theorem d_rowUnit_16 : decode prog_27_method_7_code 16 = .ok (.dconst 1, 1) := by decide +kernel
theorem d_rowUnit_17 : decode prog_27_method_7_code 17 = .ok (.dreturn, 1) := by decide +kernel
theorem d_rowUnit_7 : decode prog_27_method_7_code 7 = .ok (.aload_n 0, 1) := by decide +kernel
theorem d_rowUnit_8 : decode prog_27_method_7_code 8 = .ok (.getfield 7, 3) := by decide +kernel
theorem d_rowUnit_11 : decode prog_27_method_7_code 11 = .ok (.iload_n 1, 1) := by decide +kernel
theorem d_rowUnit_12 : decode prog_27_method_7_code 12 = .ok (.daload, 1) := by decide +kernel
theorem d_rowUnit_13 : decode prog_27_method_7_code 13 = .ok (.goto 4, 3) := by decide +kernel
set_option maxRecDepth 65536 in
set_option maxHeartbeats 4000000 in
theorem m_rowUnit (l : Launch) (Z : State) (a0 : Array Value) (hw : ∀ d ∈ tables_1, d.before a0 Z = true) (a : Addr) (j : Int32) (r : Int32) (u : Addr) (N i : Nat) (f : Nat → UInt64) (h0 : Heap) (F1 : Fld Z h0 a "com/example/marginfold/marginfold/perimeter/Measure" "rowsInMw" "Z" (.int r)) (F2 : Fld Z h0 a "com/example/marginfold/marginfold/perimeter/Measure" "units" "[D" (.ref u)) (A : Ar Z h0 u .double N (fun i => .double (f i))) (hj : j.toInt = (i : Int)) (hi : i < N) :
    OMet l (⟨"com/example/marginfold/marginfold/perimeter/Measure", "rowUnit", "(I)D"⟩ : MethodName) prog_27_method_7_code 2 (Option.some FieldType.double) [] ({ frames := 0, cells := 0, slots := 0, locals := 0 } : Room) Z h0 [] #[(.ref a), (.int j)] (fun v h' => v = some (.double (if r = (0 : Int32) then FP.dconst1 else f i)) ∧ h0 = h') := by
  refine OMet.of (own := "com/example/marginfold/marginfold/perimeter/Measure") (nm := "rowUnit") (plainFor_of_name pn_1) rfl rfl ?_
  intro p e s m below meth c T0 P0 hby hml hret hnm
  refine Done.step (T' := T0) (g' := (mkF m 0 #[.val (.ref a), .val (.int j)] [])) (fun t kk => castTop (ef_rowUnit m a j) kk) ?_
  refine Done.stepL (pc' := 1) (st' := [(.ref a)]) (fun t kk => ?_) ?_
  · show Steps p.tables e below (T0.setTop (mkF m 0 _ [])) t
    refine XS.aloadN P0.here P0.x rfl (hb hby d_rowUnit_0) rfl rfl ?_
    exact kk
  refine wGet P0 (host := "") (Or.inl (tw44 hw)) Via.refl F1 (hb hby d_rowUnit_1) rfl (fun T1 P2 => ?_)
  show Done _ _ _ _ _ _ _ _ _ _ _ _ _ _ _ T1 (mkF m 4 _ [(.int r)])
  by_cases hc : r = (0 : Int32)
  · refine Done.stepL (pc' := 17) (st' := [(.double FP.dconst1)]) (fun t kk => ?_) ?_
    · show Steps p.tables e below (T1.setTop (mkF m 4 _ [(.int r)])) t
      refine XS.ifYes P2.here P2.x rfl (pc0 := 4) (pc' := 16) rfl (hb hby d_rowUnit_4) rfl (i0W_eq_t hc) (by decide) (by decide) ?_
      show Steps p.tables e below (T1.setTop (mkF m 16 _ [])) t
      refine XS.dconst1 P2.here P2.x rfl (hb hby d_rowUnit_16) rfl ?_
      exact kk
    exact wRetD P2 hret (hb hby d_rowUnit_17) ⟨by rw [if_pos hc], rfl⟩
  · refine Done.stepL (pc' := 8) (st' := [(.ref a)]) (fun t kk => ?_) ?_
    · show Steps p.tables e below (T1.setTop (mkF m 4 _ [(.int r)])) t
      refine XS.ifNo P2.here P2.x rfl (hb hby d_rowUnit_4) rfl (i0W_eq_f (show ¬ (r = (0 : Int32)) from hc)) ?_
      show Steps p.tables e below (T1.setTop (mkF m 7 _ [])) t
      refine XS.aloadN P2.here P2.x rfl (hb hby d_rowUnit_7) rfl rfl ?_
      exact kk
    refine wGet P2 (host := "") (Or.inl (tw38 hw)) Via.refl F2 (hb hby d_rowUnit_8) rfl (fun T3 P4 => ?_)
    show Done _ _ _ _ _ _ _ _ _ _ _ _ _ _ _ T3 (mkF m 11 _ [(.ref u)])
    refine Done.stepL (pc' := 12) (st' := [(.int j), (.ref u)]) (fun t kk => ?_) ?_
    · show Steps p.tables e below (T3.setTop (mkF m 11 _ [(.ref u)])) t
      refine XS.iloadN P4.here P4.x rfl (hb hby d_rowUnit_11) rfl ?_
      exact kk
    refine wDaload P4 A (j := j) (i := i) hj hi (v := (.double (f i))) rfl (hb hby d_rowUnit_12) rfl ?_
    show Done _ _ _ _ _ _ _ _ _ _ _ _ _ _ _ T3 (mkF m 13 _ [(.double (f i))])
    refine Done.stepL (pc' := 17) (st' := [(.double (f i))]) (fun t kk => ?_) ?_
    · show Steps p.tables e below (T3.setTop (mkF m 13 _ [(.double (f i))])) t
      refine XS.goto P4.here P4.x rfl (pc0 := 13) (pc' := 17) rfl (hb hby d_rowUnit_13) (by decide) (by decide) ?_
      exact kk
    exact wRetD P4 hret (hb hby d_rowUnit_17) ⟨by rw [if_neg hc], rfl⟩
theorem ef_withRows (m : MethodId) (x0 : Addr) : entryFrame m #[(.ref x0)] 1 = mkF m 0 #[.val (.ref x0)] [] := by first | (simp [entryFrame, mkF, argsToLocals, Value.category]; done) | rfl
theorem d_withRows_0 : decode prog_27_method_4_code 0 = .ok (.new 8, 3) := by decide +kernel
theorem d_withRows_3 : decode prog_27_method_4_code 3 = .ok (.dup, 1) := by decide +kernel
theorem d_withRows_4 : decode prog_27_method_4_code 4 = .ok (.aload_n 0, 1) := by decide +kernel
theorem d_withRows_5 : decode prog_27_method_4_code 5 = .ok (.getfield 7, 3) := by decide +kernel
theorem d_withRows_8 : decode prog_27_method_4_code 8 = .ok (.aload_n 0, 1) := by decide +kernel
theorem d_withRows_9 : decode prog_27_method_4_code 9 = .ok (.getfield 13, 3) := by decide +kernel
theorem d_withRows_12 : decode prog_27_method_4_code 12 = .ok (.aload_n 0, 1) := by decide +kernel
theorem d_withRows_13 : decode prog_27_method_4_code 13 = .ok (.getfield 17, 3) := by decide +kernel
theorem d_withRows_16 : decode prog_27_method_4_code 16 = .ok (.iconst 1, 1) := by decide +kernel
theorem d_withRows_17 : decode prog_27_method_4_code 17 = .ok (.invokespecial 42, 3) := by decide +kernel
theorem d_withRows_20 : decode prog_27_method_4_code 20 = .ok (.areturn, 1) := by decide +kernel
set_option maxRecDepth 65536 in
set_option maxHeartbeats 4000000 in
theorem m_withRows (l : Launch) (Z : State) (a0 : Array Value) (hw : ∀ d ∈ tables_1, d.before a0 Z = true) (a : Addr) (u : Addr) (w : UInt64) (r : Int32) (h0 : Heap) (F1 : Fld Z h0 a "com/example/marginfold/marginfold/perimeter/Measure" "units" "[D" (.ref u)) (F2 : Fld Z h0 a "com/example/marginfold/marginfold/perimeter/Measure" "weight" "D" (.double w)) (F3 : Fld Z h0 a "com/example/marginfold/marginfold/perimeter/Measure" "nonNegative" "Z" (.int r)) (b3 : r = 0 ∨ r = 1) :
    OMet l (⟨"com/example/marginfold/marginfold/perimeter/Measure", "withRowsInMw", "()Lcom/example/marginfold/marginfold/perimeter/Measure;"⟩ : MethodName) prog_27_method_4_code 1 (Option.some (FieldType.object "com/example/marginfold/marginfold/perimeter/Measure")) [] ({ frames := 3, cells := 1, slots := 4, locals := 42 } : Room) Z h0 [] #[(.ref a)] (fun v h' => ∃ b, v = some (.ref b) ∧ h0.size ≤ b ∧ b < h'.size ∧ Exa Z h' b "com/example/marginfold/marginfold/perimeter/Measure" ∧ Fld Z h' b "com/example/marginfold/marginfold/perimeter/Measure" "units" "[D" (.ref u) ∧ Fld Z h' b "com/example/marginfold/marginfold/perimeter/Measure" "weight" "D" (.double w) ∧ Fld Z h' b "com/example/marginfold/marginfold/perimeter/Measure" "nonNegative" "Z" (.int r) ∧ Fld Z h' b "com/example/marginfold/marginfold/perimeter/Measure" "rowsInMw" "Z" (.int 1)) := by
  refine OMet.of (own := "com/example/marginfold/marginfold/perimeter/Measure") (nm := "withRowsInMw") (plainFor_of_name pn_1) rfl rfl ?_
  intro p e s m below meth c T0 P0 hby hml hret hnm
  refine Done.step (T' := T0) (g' := (mkF m 0 #[.val (.ref a)] [])) (fun t kk => castTop (ef_withRows m a) kk) ?_
  show Done _ _ _ _ _ _ _ _ _ _ _ _ _ _ _ T0 (mkF m 0 _ [])
  refine wNew P0 (tw51 hw) (tw32 hw) (tw33 hw) (hb hby d_withRows_0) rfl (by decide) (by decide) (k' := 1) (n' := 4) rfl rfl (fun T1 h3 b4 g5 lt6 P2 E7 X8 D9 => ?_)
  have ge_b4 : h0.size ≤ b4 := by have := P0.ge; omega
  have F10 : Fld Z h3 b4 "com/example/marginfold/marginfold/perimeter/Measure" "units" "[D" .null := D9 (Or.inr (tw39 hw)) (ty := (.array .double)) (by decide)
  have F11 : Fld Z h3 b4 "com/example/marginfold/marginfold/perimeter/Measure" "weight" "D" (.double (0 : UInt64)) := D9 (Or.inr (tw41 hw)) (ty := .double) (by decide)
  have F12 : Fld Z h3 b4 "com/example/marginfold/marginfold/perimeter/Measure" "nonNegative" "Z" (.int (0 : Int32)) := D9 (Or.inr (tw43 hw)) (ty := .boolean) (by decide)
  have F13 : Fld Z h3 b4 "com/example/marginfold/marginfold/perimeter/Measure" "rowsInMw" "Z" (.int (0 : Int32)) := D9 (Or.inr (tw45 hw)) (ty := .boolean) (by decide)
  show Done _ _ _ _ _ _ _ _ _ _ _ _ _ _ _ T1 (mkF m 3 _ [(.ref b4)])
  refine Done.stepL (pc' := 5) (st' := [(.ref a), (.ref b4), (.ref b4)]) (fun t kk => ?_) ?_
  · show Steps p.tables e below (T1.setTop (mkF m 3 _ [(.ref b4)])) t
    refine XS.dup P2.here P2.x rfl (hb hby d_withRows_3) rfl rfl ?_
    show Steps p.tables e below (T1.setTop (mkF m 4 _ [(.ref b4), (.ref b4)])) t
    refine XS.aloadN P2.here P2.x rfl (hb hby d_withRows_4) rfl rfl ?_
    exact kk
  have f14 := (F1.ext E7)
  refine wGet P2 (host := "") (Or.inl (tw38 hw)) Via.refl f14 (hb hby d_withRows_5) rfl (fun T15 P16 => ?_)
  show Done _ _ _ _ _ _ _ _ _ _ _ _ _ _ _ T15 (mkF m 8 _ [(.ref u), (.ref b4), (.ref b4)])
  refine Done.stepL (pc' := 9) (st' := [(.ref a), (.ref u), (.ref b4), (.ref b4)]) (fun t kk => ?_) ?_
  · show Steps p.tables e below (T15.setTop (mkF m 8 _ [(.ref u), (.ref b4), (.ref b4)])) t
    refine XS.aloadN P16.here P16.x rfl (hb hby d_withRows_8) rfl rfl ?_
    exact kk
  have f17 := (F2.ext E7)
  refine wGet P16 (host := "") (Or.inl (tw40 hw)) Via.refl f17 (hb hby d_withRows_9) rfl (fun T18 P19 => ?_)
  show Done _ _ _ _ _ _ _ _ _ _ _ _ _ _ _ T18 (mkF m 12 _ [(.double w), (.ref u), (.ref b4), (.ref b4)])
  refine Done.stepL (pc' := 13) (st' := [(.ref a), (.double w), (.ref u), (.ref b4), (.ref b4)]) (fun t kk => ?_) ?_
  · show Steps p.tables e below (T18.setTop (mkF m 12 _ [(.double w), (.ref u), (.ref b4), (.ref b4)])) t
    refine XS.aloadN P19.here P19.x rfl (hb hby d_withRows_12) rfl rfl ?_
    exact kk
  have f20 := (F3.ext E7)
  refine wGet P19 (host := "") (Or.inl (tw42 hw)) Via.refl f20 (hb hby d_withRows_13) rfl (fun T21 P22 => ?_)
  show Done _ _ _ _ _ _ _ _ _ _ _ _ _ _ _ T21 (mkF m 16 _ [(.int r), (.double w), (.ref u), (.ref b4), (.ref b4)])
  refine Done.stepL (pc' := 17) (st' := [(.int (1 : Int32)), (.int r), (.double w), (.ref u), (.ref b4), (.ref b4)]) (fun t kk => ?_) ?_
  · show Steps p.tables e below (T21.setTop (mkF m 16 _ [(.int r), (.double w), (.ref u), (.ref b4), (.ref b4)])) t
    refine XS.iconst P22.here P22.x rfl (hb hby d_withRows_16) ?_
    exact kk
  refine wCallI P22 (m_init l Z a0 hw b4 u w r (1 : Int32) h3 X8 b3 (Or.inr rfl) F10 F11 F12 F13) rfl (tw52 hw) (tw35 hw) (tw33 hw) (tw36 hw) (by decide) (a := b4) (by rw [hml]; rfl) (lenOf pd_1 rfl) (argsL := [(.ref u), (.double w), (.int r), (.int (1 : Int32))]) (rest := [(.ref b4)]) rfl rfl (W := 1) (Nat.le_of_eq rfl) (by decide) (by decide) (by decide) (by decide) (allS (Or.inr ge_b4) all0) (hb hby d_withRows_17) rfl (k' := 1) (n' := 4) rfl rfl ?_
  rintro T23 h29 _ P24 K30 ⟨rfl, F25, F26, F27, F28⟩
  have szh29 : h3.size ≤ h29.size := K30.1
  show Done _ _ _ _ _ _ _ _ _ _ _ _ _ _ _ T23 (mkF m 20 _ [(.ref b4)])
  have f31 := (X8.keep K30)
  exact wRetA P24 hret rfl rfl (hb hby d_withRows_20) ⟨b4, rfl, ge_b4, f31.lt, f31, F25, F26, F27, F28⟩
theorem ef_g_units (m : MethodId) (x0 : Addr) : entryFrame m #[(.ref x0)] 1 = mkF m 0 #[.val (.ref x0)] [] := by first | (simp [entryFrame, mkF, argsToLocals, Value.category]; done) | rfl
theorem d_g_units_0 : decode prog_27_method_12_code 0 = .ok (.aload_n 0, 1) := by decide +kernel
theorem d_g_units_1 : decode prog_27_method_12_code 1 = .ok (.getfield 7, 3) := by decide +kernel
theorem d_g_units_4 : decode prog_27_method_12_code 4 = .ok (.areturn, 1) := by decide +kernel
set_option maxRecDepth 65536 in
set_option maxHeartbeats 4000000 in
theorem m_g_units (l : Launch) (Z : State) (a0 : Array Value) (hw : ∀ d ∈ tables_1, d.before a0 Z = true) (a : Addr) (w : Addr) (h0 : Heap) (F0 : Fld Z h0 a "com/example/marginfold/marginfold/perimeter/Measure" "units" "[D" (.ref w)) :
    OMet l (⟨"com/example/marginfold/marginfold/perimeter/Measure", "units", "()[D"⟩ : MethodName) prog_27_method_12_code 1 (Option.some (FieldType.array FieldType.double)) [] ({ frames := 0, cells := 0, slots := 0, locals := 0 } : Room) Z h0 [] #[(.ref a)] (fun v h' => v = some (.ref w) ∧ h0 = h') := by
  refine OMet.of (own := "com/example/marginfold/marginfold/perimeter/Measure") (nm := "units") (plainFor_of_name pn_1) rfl rfl ?_
  intro p e s m below meth c T0 P0 hby hml hret hnm
  refine Done.step (T' := T0) (g' := (mkF m 0 #[.val (.ref a)] [])) (fun t kk => castTop (ef_g_units m a) kk) ?_
  refine Done.stepL (pc' := 1) (st' := [(.ref a)]) (fun t kk => ?_) ?_
  · show Steps p.tables e below (T0.setTop (mkF m 0 _ [])) t
    refine XS.aloadN P0.here P0.x rfl (hb hby d_g_units_0) rfl rfl ?_
    exact kk
  refine wGet P0 (host := "") (Or.inl (tw38 hw)) Via.refl F0 (hb hby d_g_units_1) rfl (fun T1 P2 => ?_)
  show Done _ _ _ _ _ _ _ _ _ _ _ _ _ _ _ T1 (mkF m 4 _ [(.ref w)])
  exact wRetA P2 hret rfl rfl (hb hby d_g_units_4) ⟨rfl, rfl⟩
theorem ef_g_weight (m : MethodId) (x0 : Addr) : entryFrame m #[(.ref x0)] 1 = mkF m 0 #[.val (.ref x0)] [] := by first | (simp [entryFrame, mkF, argsToLocals, Value.category]; done) | rfl
theorem d_g_weight_0 : decode prog_27_method_13_code 0 = .ok (.aload_n 0, 1) := by decide +kernel
theorem d_g_weight_1 : decode prog_27_method_13_code 1 = .ok (.getfield 13, 3) := by decide +kernel
theorem d_g_weight_4 : decode prog_27_method_13_code 4 = .ok (.dreturn, 1) := by decide +kernel
set_option maxRecDepth 65536 in
set_option maxHeartbeats 4000000 in
theorem m_g_weight (l : Launch) (Z : State) (a0 : Array Value) (hw : ∀ d ∈ tables_1, d.before a0 Z = true) (a : Addr) (w : UInt64) (h0 : Heap) (F0 : Fld Z h0 a "com/example/marginfold/marginfold/perimeter/Measure" "weight" "D" (.double w)) :
    OMet l (⟨"com/example/marginfold/marginfold/perimeter/Measure", "weight", "()D"⟩ : MethodName) prog_27_method_13_code 1 (Option.some FieldType.double) [] ({ frames := 0, cells := 0, slots := 0, locals := 0 } : Room) Z h0 [] #[(.ref a)] (fun v h' => v = some (.double w) ∧ h0 = h') := by
  refine OMet.of (own := "com/example/marginfold/marginfold/perimeter/Measure") (nm := "weight") (plainFor_of_name pn_1) rfl rfl ?_
  intro p e s m below meth c T0 P0 hby hml hret hnm
  refine Done.step (T' := T0) (g' := (mkF m 0 #[.val (.ref a)] [])) (fun t kk => castTop (ef_g_weight m a) kk) ?_
  refine Done.stepL (pc' := 1) (st' := [(.ref a)]) (fun t kk => ?_) ?_
  · show Steps p.tables e below (T0.setTop (mkF m 0 _ [])) t
    refine XS.aloadN P0.here P0.x rfl (hb hby d_g_weight_0) rfl rfl ?_
    exact kk
  refine wGet P0 (host := "") (Or.inl (tw40 hw)) Via.refl F0 (hb hby d_g_weight_1) rfl (fun T1 P2 => ?_)
  show Done _ _ _ _ _ _ _ _ _ _ _ _ _ _ _ T1 (mkF m 4 _ [(.double w)])
  exact wRetD P2 hret (hb hby d_g_weight_4) ⟨rfl, rfl⟩
theorem ef_g_nonNegative (m : MethodId) (x0 : Addr) : entryFrame m #[(.ref x0)] 1 = mkF m 0 #[.val (.ref x0)] [] := by first | (simp [entryFrame, mkF, argsToLocals, Value.category]; done) | rfl
theorem d_g_nonNegative_0 : decode prog_27_method_14_code 0 = .ok (.aload_n 0, 1) := by decide +kernel
theorem d_g_nonNegative_1 : decode prog_27_method_14_code 1 = .ok (.getfield 17, 3) := by decide +kernel
theorem d_g_nonNegative_4 : decode prog_27_method_14_code 4 = .ok (.ireturn, 1) := by decide +kernel
set_option maxRecDepth 65536 in
set_option maxHeartbeats 4000000 in
theorem m_g_nonNegative (l : Launch) (Z : State) (a0 : Array Value) (hw : ∀ d ∈ tables_1, d.before a0 Z = true) (a : Addr) (w : Int32) (h0 : Heap) (F0 : Fld Z h0 a "com/example/marginfold/marginfold/perimeter/Measure" "nonNegative" "Z" (.int w)) (b0 : w = 0 ∨ w = 1) :
    OMet l (⟨"com/example/marginfold/marginfold/perimeter/Measure", "nonNegative", "()Z"⟩ : MethodName) prog_27_method_14_code 1 (Option.some FieldType.boolean) [] ({ frames := 0, cells := 0, slots := 0, locals := 0 } : Room) Z h0 [] #[(.ref a)] (fun v h' => v = some (.int w) ∧ h0 = h') := by
  refine OMet.of (own := "com/example/marginfold/marginfold/perimeter/Measure") (nm := "nonNegative") (plainFor_of_name pn_1) rfl rfl ?_
  intro p e s m below meth c T0 P0 hby hml hret hnm
  refine Done.step (T' := T0) (g' := (mkF m 0 #[.val (.ref a)] [])) (fun t kk => castTop (ef_g_nonNegative m a) kk) ?_
  refine Done.stepL (pc' := 1) (st' := [(.ref a)]) (fun t kk => ?_) ?_
  · show Steps p.tables e below (T0.setTop (mkF m 0 _ [])) t
    refine XS.aloadN P0.here P0.x rfl (hb hby d_g_nonNegative_0) rfl rfl ?_
    exact kk
  refine wGet P0 (host := "") (Or.inl (tw42 hw)) Via.refl F0 (hb hby d_g_nonNegative_1) rfl (fun T1 P2 => ?_)
  show Done _ _ _ _ _ _ _ _ _ _ _ _ _ _ _ T1 (mkF m 4 _ [(.int w)])
  exact wRet P2 (t := .boolean) hret (narrow_01 b0) (Or.inl ⟨rfl, Or.inr (Or.inl rfl), _, rfl⟩) (hb hby d_g_nonNegative_4) ⟨rfl, rfl⟩
theorem ef_g_rowsInMw (m : MethodId) (x0 : Addr) : entryFrame m #[(.ref x0)] 1 = mkF m 0 #[.val (.ref x0)] [] := by first | (simp [entryFrame, mkF, argsToLocals, Value.category]; done) | rfl
theorem d_g_rowsInMw_0 : decode prog_27_method_15_code 0 = .ok (.aload_n 0, 1) := by decide +kernel
theorem d_g_rowsInMw_1 : decode prog_27_method_15_code 1 = .ok (.getfield 21, 3) := by decide +kernel
theorem d_g_rowsInMw_4 : decode prog_27_method_15_code 4 = .ok (.ireturn, 1) := by decide +kernel
set_option maxRecDepth 65536 in
set_option maxHeartbeats 4000000 in
theorem m_g_rowsInMw (l : Launch) (Z : State) (a0 : Array Value) (hw : ∀ d ∈ tables_1, d.before a0 Z = true) (a : Addr) (w : Int32) (h0 : Heap) (F0 : Fld Z h0 a "com/example/marginfold/marginfold/perimeter/Measure" "rowsInMw" "Z" (.int w)) (b0 : w = 0 ∨ w = 1) :
    OMet l (⟨"com/example/marginfold/marginfold/perimeter/Measure", "rowsInMw", "()Z"⟩ : MethodName) prog_27_method_15_code 1 (Option.some FieldType.boolean) [] ({ frames := 0, cells := 0, slots := 0, locals := 0 } : Room) Z h0 [] #[(.ref a)] (fun v h' => v = some (.int w) ∧ h0 = h') := by
  refine OMet.of (own := "com/example/marginfold/marginfold/perimeter/Measure") (nm := "rowsInMw") (plainFor_of_name pn_1) rfl rfl ?_
  intro p e s m below meth c T0 P0 hby hml hret hnm
  refine Done.step (T' := T0) (g' := (mkF m 0 #[.val (.ref a)] [])) (fun t kk => castTop (ef_g_rowsInMw m a) kk) ?_
  refine Done.stepL (pc' := 1) (st' := [(.ref a)]) (fun t kk => ?_) ?_
  · show Steps p.tables e below (T0.setTop (mkF m 0 _ [])) t
    refine XS.aloadN P0.here P0.x rfl (hb hby d_g_rowsInMw_0) rfl rfl ?_
    exact kk
  refine wGet P0 (host := "") (Or.inl (tw44 hw)) Via.refl F0 (hb hby d_g_rowsInMw_1) rfl (fun T1 P2 => ?_)
  show Done _ _ _ _ _ _ _ _ _ _ _ _ _ _ _ T1 (mkF m 4 _ [(.int w)])
  exact wRet P2 (t := .boolean) hret (narrow_01 b0) (Or.inl ⟨rfl, Or.inr (Or.inl rfl), _, rfl⟩) (hb hby d_g_rowsInMw_4) ⟨rfl, rfl⟩
theorem ef_row (m : MethodId) (x0 : Addr) (x1 : Int32) (x2 : Addr) : entryFrame m #[(.ref x0), (.int x1), (.ref x2)] 3 = mkF m 0 #[.val (.ref x0), .val (.int x1), .val (.ref x2)] [] := by first | (simp [entryFrame, mkF, argsToLocals, Value.category]; done) | rfl
theorem d_row_0 : decode prog_27_method_6_code 0 = .ok (.aload_n 0, 1) := by decide +kernel
theorem d_row_1 : decode prog_27_method_6_code 1 = .ok (.getfield 21, 3) := by decide +kernel
theorem d_row_4 : decode prog_27_method_6_code 4 = .ok (.ifCond .eq 7, 3) := by decide +kernel
theorem d_row_7 : decode prog_27_method_6_code 7 = .ok (.aload_n 2, 1) := by decide +kernel
theorem d_row_8 : decode prog_27_method_6_code 8 = .ok (.goto 9, 3) := by decide +kernel
theorem d_row_17 : decode prog_27_method_6_code 17 = .ok (.areturn, 1) := by decide +kernel
set_option maxRecDepth 65536 in
set_option maxHeartbeats 4000000 in
theorem m_row (l : Launch) (Z : State) (a0 : Array Value) (hw : ∀ d ∈ tables_1, d.before a0 Z = true) (a : Addr) (j : Int32) (b : Addr) (h0 : Heap) (F1 : Fld Z h0 a "com/example/marginfold/marginfold/perimeter/Measure" "rowsInMw" "Z" (.int 1)) :
    OMet l (⟨"com/example/marginfold/marginfold/perimeter/Measure", "row", "(ILcom/example/marginfold/marginfold/perimeter/LinearMargin;)Lcom/example/marginfold/marginfold/perimeter/LinearMargin;"⟩ : MethodName) prog_27_method_6_code 3 (Option.some (FieldType.object "com/example/marginfold/marginfold/perimeter/LinearMargin")) [] ({ frames := 0, cells := 0, slots := 0, locals := 0 } : Room) Z h0 [] #[(.ref a), (.int j), (.ref b)] (fun v h' => v = some (.ref b) ∧ h0 = h') := by
  refine OMet.of (own := "com/example/marginfold/marginfold/perimeter/Measure") (nm := "row") (plainFor_of_name pn_1) rfl rfl ?_
  intro p e s m below meth c T0 P0 hby hml hret hnm
  refine Done.step (T' := T0) (g' := (mkF m 0 #[.val (.ref a), .val (.int j), .val (.ref b)] [])) (fun t kk => castTop (ef_row m a j b) kk) ?_
  refine Done.stepL (pc' := 1) (st' := [(.ref a)]) (fun t kk => ?_) ?_
  · show Steps p.tables e below (T0.setTop (mkF m 0 _ [])) t
    refine XS.aloadN P0.here P0.x rfl (hb hby d_row_0) rfl rfl ?_
    exact kk
  refine wGet P0 (host := "") (Or.inl (tw44 hw)) Via.refl F1 (hb hby d_row_1) rfl (fun T1 P2 => ?_)
  show Done _ _ _ _ _ _ _ _ _ _ _ _ _ _ _ T1 (mkF m 4 _ [(.int (1 : Int32))])
  refine Done.stepL (pc' := 17) (st' := [(.ref b)]) (fun t kk => ?_) ?_
  · show Steps p.tables e below (T1.setTop (mkF m 4 _ [(.int (1 : Int32))])) t
    refine XS.ifNo P2.here P2.x rfl (hb hby d_row_4) rfl (i0W_eq_f (by decide)) ?_
    show Steps p.tables e below (T1.setTop (mkF m 7 _ [])) t
    refine XS.aloadN P2.here P2.x rfl (hb hby d_row_7) rfl rfl ?_
    show Steps p.tables e below (T1.setTop (mkF m 8 _ [(.ref b)])) t
    refine XS.goto P2.here P2.x rfl (pc0 := 8) (pc' := 17) rfl (hb hby d_row_8) (by decide) (by decide) ?_
    exact kk
  exact wRetA P2 hret rfl rfl (hb hby d_row_17) ⟨rfl, rfl⟩
theorem ef_law (m : MethodId) (x0 : Int32) (x1 : Int32) (x2 : Int32) (x3 : Int32) : entryFrame m #[(.int x0), (.int x1), (.int x2), (.int x3)] maxLocals = mkF m 0 #[.val (.int x0), .val (.int x1), .val (.int x2), .val (.int x3), .unset, .unset, .unset, .unset, .unset, .unset, .unset, .unset, .unset, .unset] [] := by first | (simp [entryFrame, mkF, argsToLocals, Value.category, maxLocals]; done) | rfl
set_option maxRecDepth 65536 in
set_option maxHeartbeats 4000000 in
theorem m_law (l : Launch) (Z : State) (a0 : Array Value) (hw : ∀ d ∈ tables_1, d.before a0 Z = true) (p0 p1 p2 p3 : Int32) (h0 : Heap)  :
    OwnX.OMet l x code maxLocals ret tables_1 room_1 Z h0 [] #[(.int p0), (.int p1), (.int p2), (.int p3)] (fun v h' => v = some (.int 1)) := by
  refine OwnX.OMet.of (own := "com/example/marginfold/marginfold/perimeter/MeasureWithRowsInMwPinLaw") (nm := "law") (plainFor_of_name pn_3) rfl rfl ?_
  intro p e s m below meth c T0 P0 hby hml hret hnm
  refine OwnX.Done.step (T' := T0) (g' := (mkF m 0 #[.val (.int p0), .val (.int p1), .val (.int p2), .val (.int p3), .unset, .unset, .unset, .unset, .unset, .unset, .unset, .unset, .unset, .unset] [])) (fun t kk => castTop (ef_law m p0 p1 p2 p3) kk) ?_
  refine OwnX.Done.stepL (pc' := 1) (st' := [(.int (2 : Int32))]) (fun t kk => ?_) ?_
  · show Steps p.tables e below (T0.setTop (mkF m 0 _ [])) t
    refine XS.iconst P0.here P0.x rfl (hb hby at_0) ?_
    exact kk
  refine OwnX.wNewA (aty := .double) P0 (tw0 hw) (hb hby at_1) rfl (N := 2) rfl (cap := 2) (Nat.le_refl _) (by decide) (by decide) (by decide) (ad := "[D") (by decide) (ty := .double) (dv := (.double (0 : UInt64))) rfl rfl (k' := 1) (n' := 2) rfl rfl (fun T1 h3 b4 g5 lt6 P2 E7 A8 X9 => ?_)
  have ge_b4 : h0.size ≤ b4 := by have := P0.ge; omega
  show OwnX.Done _ _ _ _ _ _ _ _ _ _ _ _ _ _ _ T1 (mkF m 3 _ [(.ref b4)])
  refine OwnX.Done.step (T' := T1) (g' := (mkF m 15 #[.val (.int p0), .val (.int p1), .val (.int p2), .val (.int p3), .val (.ref b4), .unset, .unset, .unset, .unset, .unset, .unset, .unset, .unset, .unset] [(.double (FP.i2d ((1 : Int32) + (p0 &&& (65535 : Int32))))), (.int (0 : Int32)), (.ref b4)])) (fun t kk => ?_) ?_
  · show Steps p.tables e below (T1.setTop (mkF m 3 _ [(.ref b4)])) t
    refine XS.astore P2.here P2.x rfl (hb hby at_3) rfl rfl (l' := #[.val (.int p0), .val (.int p1), .val (.int p2), .val (.int p3), .val (.ref b4), .unset, .unset, .unset, .unset, .unset, .unset, .unset, .unset, .unset]) rfl ?_
    show Steps p.tables e below (T1.setTop (mkF m 5 _ [])) t
    refine XS.aload P2.here P2.x rfl (hb hby at_5) rfl rfl ?_
    show Steps p.tables e below (T1.setTop (mkF m 7 _ [(.ref b4)])) t
    refine XS.iconst P2.here P2.x rfl (hb hby at_7) ?_
    show Steps p.tables e below (T1.setTop (mkF m 8 _ [(.int (0 : Int32)), (.ref b4)])) t
    refine XS.iconst P2.here P2.x rfl (hb hby at_8) ?_
    show Steps p.tables e below (T1.setTop (mkF m 9 _ [(.int (1 : Int32)), (.int (0 : Int32)), (.ref b4)])) t
    refine XS.iloadN P2.here P2.x rfl (hb hby at_9) rfl ?_
    show Steps p.tables e below (T1.setTop (mkF m 10 _ [(.int p0), (.int (1 : Int32)), (.int (0 : Int32)), (.ref b4)])) t
    refine OwnX.pLdcI P2 (tw1 hw) (hb hby at_10) rfl ?_
    show Steps p.tables e below (T1.setTop (mkF m 12 _ [(.int (65535 : Int32)), (.int p0), (.int (1 : Int32)), (.int (0 : Int32)), (.ref b4)])) t
    refine XS.iand P2.here P2.x rfl (hb hby at_12) rfl ?_
    show Steps p.tables e below (T1.setTop (mkF m 13 _ [(.int (p0 &&& (65535 : Int32))), (.int (1 : Int32)), (.int (0 : Int32)), (.ref b4)])) t
    refine XS.iadd P2.here P2.x rfl (hb hby at_13) rfl ?_
    show Steps p.tables e below (T1.setTop (mkF m 14 _ [(.int ((1 : Int32) + (p0 &&& (65535 : Int32)))), (.int (0 : Int32)), (.ref b4)])) t
    refine XS.i2dS P2.here P2.x rfl (hb hby at_14) rfl rfl ?_
    exact kk
  generalize g_u0 : (FP.i2d ((1 : Int32) + (p0 &&& (65535 : Int32)))) = u0
  have n_u0 : Jvm.Free.Fl.NoNaN64 u0 := by rw [← g_u0]; exact nnD (i2d_int _)
  show OwnX.Done _ _ _ _ _ _ _ _ _ _ _ _ _ _ _ T1 (mkF m 15 _ [(.double u0), (.int (0 : Int32)), (.ref b4)])
  refine OwnX.wDastore P2 (f := (fun _ => (0 : UInt64))) A8 (j := (0 : Int32)) (i := 0) rfl (by decide) (Or.inr ge_b4) (hb hby at_15) rfl (fun T10 h12 P11 W13 A14 => ?_)
  have szh12 : h12.size = h3.size := W13.size
  show OwnX.Done _ _ _ _ _ _ _ _ _ _ _ _ _ _ _ T10 (mkF m 16 _ [])
  refine OwnX.Done.stepL (pc' := 26) (st' := [(.double (FP.i2d ((1 : Int32) + (p1 &&& (65535 : Int32))))), (.int (1 : Int32)), (.ref b4)]) (fun t kk => ?_) ?_
  · show Steps p.tables e below (T10.setTop (mkF m 16 _ [])) t
    refine XS.aload P11.here P11.x rfl (hb hby at_16) rfl rfl ?_
    show Steps p.tables e below (T10.setTop (mkF m 18 _ [(.ref b4)])) t
    refine XS.iconst P11.here P11.x rfl (hb hby at_18) ?_
    show Steps p.tables e below (T10.setTop (mkF m 19 _ [(.int (1 : Int32)), (.ref b4)])) t
    refine XS.iconst P11.here P11.x rfl (hb hby at_19) ?_
    show Steps p.tables e below (T10.setTop (mkF m 20 _ [(.int (1 : Int32)), (.int (1 : Int32)), (.ref b4)])) t
    refine XS.iloadN P11.here P11.x rfl (hb hby at_20) rfl ?_
    show Steps p.tables e below (T10.setTop (mkF m 21 _ [(.int p1), (.int (1 : Int32)), (.int (1 : Int32)), (.ref b4)])) t
    refine OwnX.pLdcI P11 (tw1 hw) (hb hby at_21) rfl ?_
    show Steps p.tables e below (T10.setTop (mkF m 23 _ [(.int (65535 : Int32)), (.int p1), (.int (1 : Int32)), (.int (1 : Int32)), (.ref b4)])) t
    refine XS.iand P11.here P11.x rfl (hb hby at_23) rfl ?_
    show Steps p.tables e below (T10.setTop (mkF m 24 _ [(.int (p1 &&& (65535 : Int32))), (.int (1 : Int32)), (.int (1 : Int32)), (.ref b4)])) t
    refine XS.iadd P11.here P11.x rfl (hb hby at_24) rfl ?_
    show Steps p.tables e below (T10.setTop (mkF m 25 _ [(.int ((1 : Int32) + (p1 &&& (65535 : Int32)))), (.int (1 : Int32)), (.ref b4)])) t
    refine XS.i2dS P11.here P11.x rfl (hb hby at_25) rfl rfl ?_
    exact kk
  generalize g_u1 : (FP.i2d ((1 : Int32) + (p1 &&& (65535 : Int32)))) = u1
  have n_u1 : Jvm.Free.Fl.NoNaN64 u1 := by rw [← g_u1]; exact nnD (i2d_int _)
  show OwnX.Done _ _ _ _ _ _ _ _ _ _ _ _ _ _ _ T10 (mkF m 26 _ [(.double u1), (.int (1 : Int32)), (.ref b4)])
  refine OwnX.wDastore P11 (f := (oupd (fun _ => (0 : UInt64)) 0 u0)) A14 (j := (1 : Int32)) (i := 1) rfl (by decide) (Or.inr ge_b4) (hb hby at_26) rfl (fun T15 h17 P16 W18 A19 => ?_)
  have szh17 : h17.size = h12.size := W18.size
  show OwnX.Done _ _ _ _ _ _ _ _ _ _ _ _ _ _ _ T15 (mkF m 27 _ [])
  refine OwnX.Done.step (T' := T15) (g' := (mkF m 31 #[.val (.int p0), .val (.int p1), .val (.int p2), .val (.int p3), .val (.ref b4), .val (.double (FP.i2d p2)), .second, .unset, .unset, .unset, .unset, .unset, .unset, .unset] [])) (fun t kk => ?_) ?_
  · show Steps p.tables e below (T15.setTop (mkF m 27 _ [])) t
    refine XS.iloadN P16.here P16.x rfl (hb hby at_27) rfl ?_
    show Steps p.tables e below (T15.setTop (mkF m 28 _ [(.int p2)])) t
    refine XS.i2dS P16.here P16.x rfl (hb hby at_28) rfl rfl ?_
    show Steps p.tables e below (T15.setTop (mkF m 29 _ [(.double (FP.i2d p2))])) t
    refine XS.dstore P16.here P16.x rfl (hb hby at_29) rfl (l' := #[.val (.int p0), .val (.int p1), .val (.int p2), .val (.int p3), .val (.ref b4), .val (.double (FP.i2d p2)), .second, .unset, .unset, .unset, .unset, .unset, .unset, .unset]) rfl ?_
    exact kk
  generalize g_wt : (FP.i2d p2) = wt
  have n_wt : Jvm.Free.Fl.NoNaN64 wt := by rw [← g_wt]; exact nnD (i2d_int _)
  show OwnX.Done _ _ _ _ _ _ _ _ _ _ _ _ _ _ _ T15 (mkF m 31 _ [])
  refine OwnX.Done.step (T' := T15) (g' := (mkF m 58 #[.val (.int p0), .val (.int p1), .val (.int p2), .val (.int p3), .val (.ref b4), .val (.double wt), .second, .val (.int (if ¬ ((p3 &&& (1 : Int32)) = (0 : Int32)) then (1 : Int32) else (0 : Int32))), .val (.int (if ¬ ((p3 &&& (2 : Int32)) = (0 : Int32)) then (1 : Int32) else (0 : Int32))), .unset, .unset, .unset, .unset, .unset] [(.int (1 : Int32))])) (fun t kk => ?_) ?_
  · show Steps p.tables e below (T15.setTop (mkF m 31 _ [])) t
    refine XS.iloadN P16.here P16.x rfl (hb hby at_31) rfl ?_
    show Steps p.tables e below (T15.setTop (mkF m 32 _ [(.int p3)])) t
    refine XS.iconst P16.here P16.x rfl (hb hby at_32) ?_
    show Steps p.tables e below (T15.setTop (mkF m 33 _ [(.int (1 : Int32)), (.int p3)])) t
    refine XS.iand P16.here P16.x rfl (hb hby at_33) rfl ?_
    show Steps p.tables e below (T15.setTop (mkF m 34 _ [(.int (p3 &&& (1 : Int32)))])) t
    suffices kk21 : Steps p.tables e below (T15.setTop (mkF m 42 #[.val (.int p0), .val (.int p1), .val (.int p2), .val (.int p3), .val (.ref b4), .val (.double wt), .second, .unset, .unset, .unset, .unset, .unset, .unset, .unset] [(.int (if ¬ ((p3 &&& (1 : Int32)) = (0 : Int32)) then (1 : Int32) else (0 : Int32)))])) t by
      by_cases hc20 : (p3 &&& (1 : Int32)) = (0 : Int32)
      · skip
        replace kk21 := Eq.mp (congrArg (fun z_ : Int32 => Steps p.tables e below (T15.setTop (mkF m 42 #[.val (.int p0), .val (.int p1), .val (.int p2), .val (.int p3), .val (.ref b4), .val (.double wt), .second, .unset, .unset, .unset, .unset, .unset, .unset, .unset] [(.int z_)])) t) (show (if ¬ ((p3 &&& (1 : Int32)) = (0 : Int32)) then (1 : Int32) else (0 : Int32)) = (0 : Int32) from if_neg (not_not_intro hc20))) kk21
        show Steps p.tables e below (T15.setTop (mkF m 34 _ [(.int (p3 &&& (1 : Int32)))])) t
        refine XS.ifYes P16.here P16.x rfl (pc0 := 34) (pc' := 41) rfl (hb hby at_34) rfl (i0W_eq_t hc20) (by decide) (by decide) ?_
        show Steps p.tables e below (T15.setTop (mkF m 41 _ [])) t
        refine XS.iconst P16.here P16.x rfl (hb hby at_41) ?_
        exact kk21
      · skip
        replace kk21 := Eq.mp (congrArg (fun z_ : Int32 => Steps p.tables e below (T15.setTop (mkF m 42 #[.val (.int p0), .val (.int p1), .val (.int p2), .val (.int p3), .val (.ref b4), .val (.double wt), .second, .unset, .unset, .unset, .unset, .unset, .unset, .unset] [(.int z_)])) t) (show (if ¬ ((p3 &&& (1 : Int32)) = (0 : Int32)) then (1 : Int32) else (0 : Int32)) = (1 : Int32) from if_pos hc20)) kk21
        show Steps p.tables e below (T15.setTop (mkF m 34 _ [(.int (p3 &&& (1 : Int32)))])) t
        refine XS.ifNo P16.here P16.x rfl (hb hby at_34) rfl (i0W_eq_f hc20) ?_
        show Steps p.tables e below (T15.setTop (mkF m 37 _ [])) t
        refine XS.iconst P16.here P16.x rfl (hb hby at_37) ?_
        show Steps p.tables e below (T15.setTop (mkF m 38 _ [(.int (1 : Int32))])) t
        refine XS.goto P16.here P16.x rfl (pc0 := 38) (pc' := 42) rfl (hb hby at_38) (by decide) (by decide) ?_
        exact kk21
    show Steps p.tables e below (T15.setTop (mkF m 42 _ [(.int (if ¬ ((p3 &&& (1 : Int32)) = (0 : Int32)) then (1 : Int32) else (0 : Int32)))])) t
    refine XS.istore P16.here P16.x rfl (hb hby at_42) rfl (l' := #[.val (.int p0), .val (.int p1), .val (.int p2), .val (.int p3), .val (.ref b4), .val (.double wt), .second, .val (.int (if ¬ ((p3 &&& (1 : Int32)) = (0 : Int32)) then (1 : Int32) else (0 : Int32))), .unset, .unset, .unset, .unset, .unset, .unset]) rfl ?_
    show Steps p.tables e below (T15.setTop (mkF m 44 _ [])) t
    refine XS.iloadN P16.here P16.x rfl (hb hby at_44) rfl ?_
    show Steps p.tables e below (T15.setTop (mkF m 45 _ [(.int p3)])) t
    refine XS.iconst P16.here P16.x rfl (hb hby at_45) ?_
    show Steps p.tables e below (T15.setTop (mkF m 46 _ [(.int (2 : Int32)), (.int p3)])) t
    refine XS.iand P16.here P16.x rfl (hb hby at_46) rfl ?_
    show Steps p.tables e below (T15.setTop (mkF m 47 _ [(.int (p3 &&& (2 : Int32)))])) t
    suffices kk23 : Steps p.tables e below (T15.setTop (mkF m 55 #[.val (.int p0), .val (.int p1), .val (.int p2), .val (.int p3), .val (.ref b4), .val (.double wt), .second, .val (.int (if ¬ ((p3 &&& (1 : Int32)) = (0 : Int32)) then (1 : Int32) else (0 : Int32))), .unset, .unset, .unset, .unset, .unset, .unset] [(.int (if ¬ ((p3 &&& (2 : Int32)) = (0 : Int32)) then (1 : Int32) else (0 : Int32)))])) t by
      by_cases hc22 : (p3 &&& (2 : Int32)) = (0 : Int32)
      · skip
        replace kk23 := Eq.mp (congrArg (fun z_ : Int32 => Steps p.tables e below (T15.setTop (mkF m 55 #[.val (.int p0), .val (.int p1), .val (.int p2), .val (.int p3), .val (.ref b4), .val (.double wt), .second, .val (.int (if ¬ ((p3 &&& (1 : Int32)) = (0 : Int32)) then (1 : Int32) else (0 : Int32))), .unset, .unset, .unset, .unset, .unset, .unset] [(.int z_)])) t) (show (if ¬ ((p3 &&& (2 : Int32)) = (0 : Int32)) then (1 : Int32) else (0 : Int32)) = (0 : Int32) from if_neg (not_not_intro hc22))) kk23
        show Steps p.tables e below (T15.setTop (mkF m 47 _ [(.int (p3 &&& (2 : Int32)))])) t
        refine XS.ifYes P16.here P16.x rfl (pc0 := 47) (pc' := 54) rfl (hb hby at_47) rfl (i0W_eq_t hc22) (by decide) (by decide) ?_
        show Steps p.tables e below (T15.setTop (mkF m 54 _ [])) t
        refine XS.iconst P16.here P16.x rfl (hb hby at_54) ?_
        exact kk23
      · skip
        replace kk23 := Eq.mp (congrArg (fun z_ : Int32 => Steps p.tables e below (T15.setTop (mkF m 55 #[.val (.int p0), .val (.int p1), .val (.int p2), .val (.int p3), .val (.ref b4), .val (.double wt), .second, .val (.int (if ¬ ((p3 &&& (1 : Int32)) = (0 : Int32)) then (1 : Int32) else (0 : Int32))), .unset, .unset, .unset, .unset, .unset, .unset] [(.int z_)])) t) (show (if ¬ ((p3 &&& (2 : Int32)) = (0 : Int32)) then (1 : Int32) else (0 : Int32)) = (1 : Int32) from if_pos hc22)) kk23
        show Steps p.tables e below (T15.setTop (mkF m 47 _ [(.int (p3 &&& (2 : Int32)))])) t
        refine XS.ifNo P16.here P16.x rfl (hb hby at_47) rfl (i0W_eq_f hc22) ?_
        show Steps p.tables e below (T15.setTop (mkF m 50 _ [])) t
        refine XS.iconst P16.here P16.x rfl (hb hby at_50) ?_
        show Steps p.tables e below (T15.setTop (mkF m 51 _ [(.int (1 : Int32))])) t
        refine XS.goto P16.here P16.x rfl (pc0 := 51) (pc' := 55) rfl (hb hby at_51) (by decide) (by decide) ?_
        exact kk23
    show Steps p.tables e below (T15.setTop (mkF m 55 _ [(.int (if ¬ ((p3 &&& (2 : Int32)) = (0 : Int32)) then (1 : Int32) else (0 : Int32)))])) t
    refine XS.istore P16.here P16.x rfl (hb hby at_55) rfl (l' := #[.val (.int p0), .val (.int p1), .val (.int p2), .val (.int p3), .val (.ref b4), .val (.double wt), .second, .val (.int (if ¬ ((p3 &&& (1 : Int32)) = (0 : Int32)) then (1 : Int32) else (0 : Int32))), .val (.int (if ¬ ((p3 &&& (2 : Int32)) = (0 : Int32)) then (1 : Int32) else (0 : Int32))), .unset, .unset, .unset, .unset, .unset]) rfl ?_
    show Steps p.tables e below (T15.setTop (mkF m 57 _ [])) t
    refine XS.iconst P16.here P16.x rfl (hb hby at_57) ?_
    exact kk
  refine OwnX.wNewA (aty := .double) P16 (tw0 hw) (hb hby at_58) rfl (N := 1) rfl (cap := 1) (Nat.le_refl _) (by decide) (by decide) (by decide) (ad := "[D") (by decide) (ty := .double) (dv := (.double (0 : UInt64))) rfl rfl (k' := 2) (n' := 3) rfl rfl (fun T24 h26 b27 g28 lt29 P25 E30 A31 X32 => ?_)
  have ge_b27 : h0.size ≤ b27 := by have := P16.ge; omega
  show OwnX.Done _ _ _ _ _ _ _ _ _ _ _ _ _ _ _ T24 (mkF m 60 _ [(.ref b27)])
  refine OwnX.Done.step (T' := T24) (g' := (mkF m 68 #[.val (.int p0), .val (.int p1), .val (.int p2), .val (.int p3), .val (.ref b4), .val (.double wt), .second, .val (.int (if ¬ ((p3 &&& (1 : Int32)) = (0 : Int32)) then (1 : Int32) else (0 : Int32))), .val (.int (if ¬ ((p3 &&& (2 : Int32)) = (0 : Int32)) then (1 : Int32) else (0 : Int32))), .val (.ref b27), .unset, .unset, .unset, .unset] [(.double (4611686018427387904 : UInt64)), (.int (0 : Int32)), (.ref b27)])) (fun t kk => ?_) ?_
  · show Steps p.tables e below (T24.setTop (mkF m 60 _ [(.ref b27)])) t
    refine XS.astore P25.here P25.x rfl (hb hby at_60) rfl rfl (l' := #[.val (.int p0), .val (.int p1), .val (.int p2), .val (.int p3), .val (.ref b4), .val (.double wt), .second, .val (.int (if ¬ ((p3 &&& (1 : Int32)) = (0 : Int32)) then (1 : Int32) else (0 : Int32))), .val (.int (if ¬ ((p3 &&& (2 : Int32)) = (0 : Int32)) then (1 : Int32) else (0 : Int32))), .val (.ref b27), .unset, .unset, .unset, .unset]) rfl ?_
    show Steps p.tables e below (T24.setTop (mkF m 62 _ [])) t
    refine XS.aload P25.here P25.x rfl (hb hby at_62) rfl rfl ?_
    show Steps p.tables e below (T24.setTop (mkF m 64 _ [(.ref b27)])) t
    refine XS.iconst P25.here P25.x rfl (hb hby at_64) ?_
    show Steps p.tables e below (T24.setTop (mkF m 65 _ [(.int (0 : Int32)), (.ref b27)])) t
    refine OwnX.pLdcD P25 (tw2 hw) (hb hby at_65) rfl ?_
    exact kk
  refine OwnX.wDastore P25 (f := (fun _ => (0 : UInt64))) A31 (j := (0 : Int32)) (i := 0) rfl (by decide) (Or.inr ge_b27) (hb hby at_68) rfl (fun T33 h35 P34 W36 A37 => ?_)
  have szh35 : h35.size = h26.size := W36.size
  show OwnX.Done _ _ _ _ _ _ _ _ _ _ _ _ _ _ _ T33 (mkF m 69 _ [])
  refine OwnX.wNew P34 (tw3 hw) (tw4 hw) (tw5 hw) (hb hby at_69) rfl (by decide) (by decide) (k' := 3) (n' := 6) rfl rfl (fun T38 h40 b41 g42 lt43 P39 E44 X45 D46 => ?_)
  have ge_b41 : h0.size ≤ b41 := by have := P34.ge; omega
  have F47 : Fld Z h40 b41 "com/example/marginfold/marginfold/perimeter/LinearMargin" "threshold" "Ljava/lang/String;" .null := D46 (Or.inr (tw26 hw)) (ty := (.object "java/lang/String")) (by decide)
  have F48 : Fld Z h40 b41 "com/example/marginfold/marginfold/perimeter/LinearMargin" "constant" "D" (.double (0 : UInt64)) := D46 (Or.inr (tw28 hw)) (ty := .double) (by decide)
  have F49 : Fld Z h40 b41 "com/example/marginfold/marginfold/perimeter/LinearMargin" "coefficients" "[D" .null := D46 (Or.inr (tw30 hw)) (ty := (.array .double)) (by decide)
  show OwnX.Done _ _ _ _ _ _ _ _ _ _ _ _ _ _ _ T38 (mkF m 72 _ [(.ref b41)])
  refine OwnX.Done.stepL (pc' := 73) (st' := [(.ref b41), (.ref b41)]) (fun t kk => ?_) ?_
  · show Steps p.tables e below (T38.setTop (mkF m 72 _ [(.ref b41)])) t
    refine XS.dup P39.here P39.x rfl (hb hby at_72) rfl rfl ?_
    exact kk
  refine OwnX.wLdcS P39 (tw6 hw) (own_wS hw) (hb hby at_73) rfl (N := 12) (by first | decide | decide +kernel | simp) (by decide) (by decide) (by decide) (k' := 5) (n' := 22) rfl rfl (fun T50 h52 b53 P51 E54 => ?_)
  have szh52 : h40.size ≤ h52.size := E54.1
  show OwnX.Done _ _ _ _ _ _ _ _ _ _ _ _ _ _ _ T50 (mkF m 75 _ [(.ref b53), (.ref b41), (.ref b41)])
  refine OwnX.Done.stepL (pc' := 78) (st' := [(.ref b27), (.double FP.dconst1), (.ref b53), (.ref b41), (.ref b41)]) (fun t kk => ?_) ?_
  · show Steps p.tables e below (T50.setTop (mkF m 75 _ [(.ref b53), (.ref b41), (.ref b41)])) t
    refine XS.dconst1 P51.here P51.x rfl (hb hby at_75) rfl ?_
    show Steps p.tables e below (T50.setTop (mkF m 76 _ [(.double FP.dconst1), (.ref b53), (.ref b41), (.ref b41)])) t
    refine XS.aload P51.here P51.x rfl (hb hby at_76) rfl rfl ?_
    exact kk
  have f60 := (X45.ext E54)
  have f61 := (F47.ext E54)
  have f62 := (F48.ext E54)
  have f63 := (F49.ext E54)
  refine OwnX.wCallI P51 (m_lmInit l Z a0 hw b41 b53 FP.dconst1 b27 h52 f60  f61 f62 f63) rfl (tw14 hw) (tw15 hw) (tw5 hw) (tw16 hw) (by decide) (a := b41) (by rw [hml]; rfl) (lenOf pd_2 rfl) (argsL := [(.ref b53), (.double FP.dconst1), (.ref b27)]) (rest := [(.ref b41)]) rfl rfl (W := 1) (Nat.le_of_eq rfl) (by decide) (by decide) (by decide) (by decide) (allS (Or.inr ge_b41) all0) (hb hby at_78) rfl (k' := 5) (n' := 22) rfl rfl ?_
  rintro T55 h64 _ P56 K65 ⟨rfl, F57, F58, F59⟩
  have szh64 : h52.size ≤ h64.size := K65.1
  show OwnX.Done _ _ _ _ _ _ _ _ _ _ _ _ _ _ _ T55 (mkF m 81 _ [(.ref b41)])
  refine OwnX.Done.step (T' := T55) (g' := (mkF m 83 #[.val (.int p0), .val (.int p1), .val (.int p2), .val (.int p3), .val (.ref b4), .val (.double wt), .second, .val (.int (if ¬ ((p3 &&& (1 : Int32)) = (0 : Int32)) then (1 : Int32) else (0 : Int32))), .val (.int (if ¬ ((p3 &&& (2 : Int32)) = (0 : Int32)) then (1 : Int32) else (0 : Int32))), .val (.ref b27), .val (.ref b41), .unset, .unset, .unset] [])) (fun t kk => ?_) ?_
  · show Steps p.tables e below (T55.setTop (mkF m 81 _ [(.ref b41)])) t
    refine XS.astore P56.here P56.x rfl (hb hby at_81) rfl rfl (l' := #[.val (.int p0), .val (.int p1), .val (.int p2), .val (.int p3), .val (.ref b4), .val (.double wt), .second, .val (.int (if ¬ ((p3 &&& (1 : Int32)) = (0 : Int32)) then (1 : Int32) else (0 : Int32))), .val (.int (if ¬ ((p3 &&& (2 : Int32)) = (0 : Int32)) then (1 : Int32) else (0 : Int32))), .val (.ref b27), .val (.ref b41), .unset, .unset, .unset]) rfl ?_
    exact kk
  refine OwnX.wNew P56 (tw31 hw) (tw32 hw) (tw33 hw) (hb hby at_83) rfl (by decide) (by decide) (k' := 6) (n' := 26) rfl rfl (fun T66 h68 b69 g70 lt71 P67 E72 X73 D74 => ?_)
  have ge_b69 : h0.size ≤ b69 := by have := P56.ge; omega
  have F75 : Fld Z h68 b69 "com/example/marginfold/marginfold/perimeter/Measure" "units" "[D" .null := D74 (Or.inr (tw39 hw)) (ty := (.array .double)) (by decide)
  have F76 : Fld Z h68 b69 "com/example/marginfold/marginfold/perimeter/Measure" "weight" "D" (.double (0 : UInt64)) := D74 (Or.inr (tw41 hw)) (ty := .double) (by decide)
  have F77 : Fld Z h68 b69 "com/example/marginfold/marginfold/perimeter/Measure" "nonNegative" "Z" (.int (0 : Int32)) := D74 (Or.inr (tw43 hw)) (ty := .boolean) (by decide)
  have F78 : Fld Z h68 b69 "com/example/marginfold/marginfold/perimeter/Measure" "rowsInMw" "Z" (.int (0 : Int32)) := D74 (Or.inr (tw45 hw)) (ty := .boolean) (by decide)
  show OwnX.Done _ _ _ _ _ _ _ _ _ _ _ _ _ _ _ T66 (mkF m 86 _ [(.ref b69)])
  refine OwnX.Done.stepL (pc' := 95) (st' := [(.int (if ¬ ((p3 &&& (2 : Int32)) = (0 : Int32)) then (1 : Int32) else (0 : Int32))), (.int (if ¬ ((p3 &&& (1 : Int32)) = (0 : Int32)) then (1 : Int32) else (0 : Int32))), (.double wt), (.ref b4), (.ref b69), (.ref b69)]) (fun t kk => ?_) ?_
  · show Steps p.tables e below (T66.setTop (mkF m 86 _ [(.ref b69)])) t
    refine XS.dup P67.here P67.x rfl (hb hby at_86) rfl rfl ?_
    show Steps p.tables e below (T66.setTop (mkF m 87 _ [(.ref b69), (.ref b69)])) t
    refine XS.aload P67.here P67.x rfl (hb hby at_87) rfl rfl ?_
    show Steps p.tables e below (T66.setTop (mkF m 89 _ [(.ref b4), (.ref b69), (.ref b69)])) t
    refine XS.dload P67.here P67.x rfl (hb hby at_89) rfl ?_
    show Steps p.tables e below (T66.setTop (mkF m 91 _ [(.double wt), (.ref b4), (.ref b69), (.ref b69)])) t
    refine XS.iload P67.here P67.x rfl (hb hby at_91) rfl ?_
    show Steps p.tables e below (T66.setTop (mkF m 93 _ [(.int (if ¬ ((p3 &&& (1 : Int32)) = (0 : Int32)) then (1 : Int32) else (0 : Int32))), (.double wt), (.ref b4), (.ref b69), (.ref b69)])) t
    refine XS.iload P67.here P67.x rfl (hb hby at_93) rfl ?_
    exact kk
  refine OwnX.wCallI P67 (m_init l Z a0 hw b69 b4 wt (if ¬ ((p3 &&& (1 : Int32)) = (0 : Int32)) then (1 : Int32) else (0 : Int32)) (if ¬ ((p3 &&& (2 : Int32)) = (0 : Int32)) then (1 : Int32) else (0 : Int32)) h68 X73 (b01or _) (b01or _) F75 F76 F77 F78) rfl (tw34 hw) (tw35 hw) (tw33 hw) (tw36 hw) (by decide) (a := b69) (by rw [hml]; rfl) (lenOf pd_1 rfl) (argsL := [(.ref b4), (.double wt), (.int (if ¬ ((p3 &&& (1 : Int32)) = (0 : Int32)) then (1 : Int32) else (0 : Int32))), (.int (if ¬ ((p3 &&& (2 : Int32)) = (0 : Int32)) then (1 : Int32) else (0 : Int32)))]) (rest := [(.ref b69)]) rfl rfl (W := 1) (Nat.le_of_eq rfl) (by decide) (by decide) (by decide) (by decide) (allS (Or.inr ge_b69) all0) (hb hby at_95) rfl (k' := 6) (n' := 26) rfl rfl ?_
  rintro T79 h85 _ P80 K86 ⟨rfl, F81, F82, F83, F84⟩
  have szh85 : h68.size ≤ h85.size := K86.1
  show OwnX.Done _ _ _ _ _ _ _ _ _ _ _ _ _ _ _ T79 (mkF m 98 _ [(.ref b69)])
  refine OwnX.Done.step (T' := T79) (g' := (mkF m 102 #[.val (.int p0), .val (.int p1), .val (.int p2), .val (.int p3), .val (.ref b4), .val (.double wt), .second, .val (.int (if ¬ ((p3 &&& (1 : Int32)) = (0 : Int32)) then (1 : Int32) else (0 : Int32))), .val (.int (if ¬ ((p3 &&& (2 : Int32)) = (0 : Int32)) then (1 : Int32) else (0 : Int32))), .val (.ref b27), .val (.ref b41), .val (.ref b69), .unset, .unset] [(.ref b69)])) (fun t kk => ?_) ?_
  · show Steps p.tables e below (T79.setTop (mkF m 98 _ [(.ref b69)])) t
    refine XS.astore P80.here P80.x rfl (hb hby at_98) rfl rfl (l' := #[.val (.int p0), .val (.int p1), .val (.int p2), .val (.int p3), .val (.ref b4), .val (.double wt), .second, .val (.int (if ¬ ((p3 &&& (1 : Int32)) = (0 : Int32)) then (1 : Int32) else (0 : Int32))), .val (.int (if ¬ ((p3 &&& (2 : Int32)) = (0 : Int32)) then (1 : Int32) else (0 : Int32))), .val (.ref b27), .val (.ref b41), .val (.ref b69), .unset, .unset]) rfl ?_
    show Steps p.tables e below (T79.setTop (mkF m 100 _ [])) t
    refine XS.aload P80.here P80.x rfl (hb hby at_100) rfl rfl ?_
    exact kk
  have f97 := (X73.keep K86)
  refine OwnX.wCallV P80 (m_withRows l Z a0 hw b69 b4 wt (if ¬ ((p3 &&& (1 : Int32)) = (0 : Int32)) then (1 : Int32) else (0 : Int32)) h85 F81 F82 F83 (b01or _)) (tw46 hw) (tw47 hw) (tw49 hw) (tw49 hw) (tw48 hw) (tw33 hw) (tw50 hw) (by decide) f97 (by rw [hml]; rfl) (lenOf pd_3 rfl) (argsL := []) (rest := []) rfl rfl (W := 0) (Nat.le_of_eq rfl) (by decide) (by decide) (by decide) (by decide) (by simp) (hb hby at_102) rfl (k' := 7) (n' := 30) rfl rfl ?_
  rintro T87 h98 _ P88 K99 ⟨b89, rfl, ge95, lt96, X94, F90, F91, F92, F93⟩
  have szh98 : h85.size ≤ h98.size := K99.1
  show OwnX.Done _ _ _ _ _ _ _ _ _ _ _ _ _ _ _ T87 (mkF m 105 _ [(.ref b89)])
  refine OwnX.Done.step (T' := T87) (g' := (mkF m 109 #[.val (.int p0), .val (.int p1), .val (.int p2), .val (.int p3), .val (.ref b4), .val (.double wt), .second, .val (.int (if ¬ ((p3 &&& (1 : Int32)) = (0 : Int32)) then (1 : Int32) else (0 : Int32))), .val (.int (if ¬ ((p3 &&& (2 : Int32)) = (0 : Int32)) then (1 : Int32) else (0 : Int32))), .val (.ref b27), .val (.ref b41), .val (.ref b69), .val (.ref b89), .unset] [(.ref b89)])) (fun t kk => ?_) ?_
  · show Steps p.tables e below (T87.setTop (mkF m 105 _ [(.ref b89)])) t
    refine XS.astore P88.here P88.x rfl (hb hby at_105) rfl rfl (l' := #[.val (.int p0), .val (.int p1), .val (.int p2), .val (.int p3), .val (.ref b4), .val (.double wt), .second, .val (.int (if ¬ ((p3 &&& (1 : Int32)) = (0 : Int32)) then (1 : Int32) else (0 : Int32))), .val (.int (if ¬ ((p3 &&& (2 : Int32)) = (0 : Int32)) then (1 : Int32) else (0 : Int32))), .val (.ref b27), .val (.ref b41), .val (.ref b69), .val (.ref b89), .unset]) rfl ?_
    show Steps p.tables e below (T87.setTop (mkF m 107 _ [])) t
    refine XS.aload P88.here P88.x rfl (hb hby at_107) rfl rfl ?_
    exact kk
  refine OwnX.wCallV P88 (m_g_units l Z a0 hw b89 b4 h98 F90) (tw53 hw) (tw54 hw) (tw56 hw) (tw56 hw) (tw55 hw) (tw33 hw) (tw57 hw) (by decide) X94 (by rw [hml]; rfl) (lenOf pd_4 rfl) (argsL := []) (rest := []) rfl rfl (W := 0) (Nat.le_of_eq rfl) (by decide) (by decide) (by decide) (by decide) (by simp) (hb hby at_109) rfl (k' := 7) (n' := 30) rfl rfl ?_
  rintro T100 _ _ P101 - ⟨rfl, rfl⟩
  show OwnX.Done _ _ _ _ _ _ _ _ _ _ _ _ _ _ _ T100 (mkF m 112 _ [(.ref b4)])
  refine OwnX.Done.step (T' := T100) (g' := (mkF m 121 #[.val (.int p0), .val (.int p1), .val (.int p2), .val (.int p3), .val (.ref b4), .val (.double wt), .second, .val (.int (if ¬ ((p3 &&& (1 : Int32)) = (0 : Int32)) then (1 : Int32) else (0 : Int32))), .val (.int (if ¬ ((p3 &&& (2 : Int32)) = (0 : Int32)) then (1 : Int32) else (0 : Int32))), .val (.ref b27), .val (.ref b41), .val (.ref b69), .val (.ref b89), .val (.ref b4)] [(.ref b4)])) (fun t kk => ?_) ?_
  · show Steps p.tables e below (T100.setTop (mkF m 112 _ [(.ref b4)])) t
    refine XS.astore P101.here P101.x rfl (hb hby at_112) rfl rfl (l' := #[.val (.int p0), .val (.int p1), .val (.int p2), .val (.int p3), .val (.ref b4), .val (.double wt), .second, .val (.int (if ¬ ((p3 &&& (1 : Int32)) = (0 : Int32)) then (1 : Int32) else (0 : Int32))), .val (.int (if ¬ ((p3 &&& (2 : Int32)) = (0 : Int32)) then (1 : Int32) else (0 : Int32))), .val (.ref b27), .val (.ref b41), .val (.ref b69), .val (.ref b89), .val (.ref b4)]) rfl ?_
    show Steps p.tables e below (T100.setTop (mkF m 114 _ [])) t
    refine XS.aload P101.here P101.x rfl (hb hby at_114) rfl rfl ?_
    show Steps p.tables e below (T100.setTop (mkF m 116 _ [(.ref b4)])) t
    refine XS.ifnullNo P101.here P101.x rfl (hb hby at_116) rfl ?_
    show Steps p.tables e below (T100.setTop (mkF m 119 _ [])) t
    refine XS.aload P101.here P101.x rfl (hb hby at_119) rfl rfl ?_
    exact kk
  have f102 := ((((((((A19.ext E30).other W36 (by first | assumption | exact Ne.symm (by assumption) | exact adr_ne (by omega) | omega)).ext E44).ext E54).keep K65 (ninS (by first | assumption | exact Ne.symm (by assumption) | exact adr_ne (by omega) | omega) nin0)).ext E72).keep K86 (ninS (by first | assumption | exact Ne.symm (by assumption) | exact adr_ne (by omega) | omega) nin0)).keep K99 nin0)
  refine OwnX.wLen P101 f102 (z := (2 : Int32)) rfl (hb hby at_121) rfl ?_
  show OwnX.Done _ _ _ _ _ _ _ _ _ _ _ _ _ _ _ T100 (mkF m 122 _ [(.int (2 : Int32))])
  refine OwnX.Done.stepL (pc' := 131) (st' := [(.int (0 : Int32)), (.ref b4)]) (fun t kk => ?_) ?_
  · show Steps p.tables e below (T100.setTop (mkF m 122 _ [(.int (2 : Int32))])) t
    refine XS.iconst P101.here P101.x rfl (hb hby at_122) ?_
    show Steps p.tables e below (T100.setTop (mkF m 123 _ [(.int (2 : Int32)), (.int (2 : Int32))])) t
    refine XS.icmpYes P101.here P101.x rfl (pc0 := 123) (pc' := 128) rfl (hb hby at_123) rfl (iiW_eq_t (by decide)) (by decide) (by decide) ?_
    show Steps p.tables e below (T100.setTop (mkF m 128 _ [])) t
    refine XS.aload P101.here P101.x rfl (hb hby at_128) rfl rfl ?_
    show Steps p.tables e below (T100.setTop (mkF m 130 _ [(.ref b4)])) t
    refine XS.iconst P101.here P101.x rfl (hb hby at_130) ?_
    exact kk
  refine OwnX.wDaload P101 f102 (j := (0 : Int32)) (i := 0) rfl (by decide) (v := (.double u0)) rfl (hb hby at_131) rfl ?_
  show OwnX.Done _ _ _ _ _ _ _ _ _ _ _ _ _ _ _ T100 (mkF m 132 _ [(.double u0)])
  refine OwnX.Done.stepL (pc' := 135) (st' := [(.int (0 : Int32)), (.ref b4), (.double u0)]) (fun t kk => ?_) ?_
  · show Steps p.tables e below (T100.setTop (mkF m 132 _ [(.double u0)])) t
    refine XS.aload P101.here P101.x rfl (hb hby at_132) rfl rfl ?_
    show Steps p.tables e below (T100.setTop (mkF m 134 _ [(.ref b4), (.double u0)])) t
    refine XS.iconst P101.here P101.x rfl (hb hby at_134) ?_
    exact kk
  refine OwnX.wDaload P101 f102 (j := (0 : Int32)) (i := 0) rfl (by decide) (v := (.double u0)) rfl (hb hby at_135) rfl ?_
  show OwnX.Done _ _ _ _ _ _ _ _ _ _ _ _ _ _ _ T100 (mkF m 136 _ [(.double u0), (.double u0)])
  refine OwnX.Done.stepL (pc' := 143) (st' := [(.int (1 : Int32)), (.ref b4)]) (fun t kk => ?_) ?_
  · show Steps p.tables e below (T100.setTop (mkF m 136 _ [(.double u0), (.double u0)])) t
    refine XS.dcmpS P101.here P101.x rfl (hb hby at_136) rfl (dcmpV_self n_u0 _) ?_
    show Steps p.tables e below (T100.setTop (mkF m 137 _ [(.int (0 : Int32))])) t
    refine XS.ifNo P101.here P101.x rfl (hb hby at_137) rfl (i0W_ne_f (by decide)) ?_
    show Steps p.tables e below (T100.setTop (mkF m 140 _ [])) t
    refine XS.aload P101.here P101.x rfl (hb hby at_140) rfl rfl ?_
    show Steps p.tables e below (T100.setTop (mkF m 142 _ [(.ref b4)])) t
    refine XS.iconst P101.here P101.x rfl (hb hby at_142) ?_
    exact kk
  refine OwnX.wDaload P101 f102 (j := (1 : Int32)) (i := 1) rfl (by decide) (v := (.double u1)) rfl (hb hby at_143) rfl ?_
  show OwnX.Done _ _ _ _ _ _ _ _ _ _ _ _ _ _ _ T100 (mkF m 144 _ [(.double u1)])
  refine OwnX.Done.stepL (pc' := 147) (st' := [(.int (1 : Int32)), (.ref b4), (.double u1)]) (fun t kk => ?_) ?_
  · show Steps p.tables e below (T100.setTop (mkF m 144 _ [(.double u1)])) t
    refine XS.aload P101.here P101.x rfl (hb hby at_144) rfl rfl ?_
    show Steps p.tables e below (T100.setTop (mkF m 146 _ [(.ref b4), (.double u1)])) t
    refine XS.iconst P101.here P101.x rfl (hb hby at_146) ?_
    exact kk
  refine OwnX.wDaload P101 f102 (j := (1 : Int32)) (i := 1) rfl (by decide) (v := (.double u1)) rfl (hb hby at_147) rfl ?_
  show OwnX.Done _ _ _ _ _ _ _ _ _ _ _ _ _ _ _ T100 (mkF m 148 _ [(.double u1), (.double u1)])
  refine OwnX.Done.stepL (pc' := 154) (st' := [(.ref b89)]) (fun t kk => ?_) ?_
  · show Steps p.tables e below (T100.setTop (mkF m 148 _ [(.double u1), (.double u1)])) t
    refine XS.dcmpS P101.here P101.x rfl (hb hby at_148) rfl (dcmpV_self n_u1 _) ?_
    show Steps p.tables e below (T100.setTop (mkF m 149 _ [(.int (0 : Int32))])) t
    refine XS.ifNo P101.here P101.x rfl (hb hby at_149) rfl (i0W_ne_f (by decide)) ?_
    show Steps p.tables e below (T100.setTop (mkF m 152 _ [])) t
    refine XS.aload P101.here P101.x rfl (hb hby at_152) rfl rfl ?_
    exact kk
  refine OwnX.wCallV P101 (m_g_weight l Z a0 hw b89 wt h98 F91) (tw58 hw) (tw59 hw) (tw61 hw) (tw61 hw) (tw60 hw) (tw33 hw) (tw62 hw) (by decide) X94 (by rw [hml]; rfl) (lenOf pd_5 rfl) (argsL := []) (rest := []) rfl rfl (W := 0) (Nat.le_of_eq rfl) (by decide) (by decide) (by decide) (by decide) (by simp) (hb hby at_154) rfl (k' := 7) (n' := 30) rfl rfl ?_
  rintro T103 _ _ P104 - ⟨rfl, rfl⟩
  show OwnX.Done _ _ _ _ _ _ _ _ _ _ _ _ _ _ _ T103 (mkF m 157 _ [(.double wt)])
  refine OwnX.Done.stepL (pc' := 165) (st' := [(.ref b89)]) (fun t kk => ?_) ?_
  · show Steps p.tables e below (T103.setTop (mkF m 157 _ [(.double wt)])) t
    refine XS.dload P104.here P104.x rfl (hb hby at_157) rfl ?_
    show Steps p.tables e below (T103.setTop (mkF m 159 _ [(.double wt), (.double wt)])) t
    refine XS.dcmpS P104.here P104.x rfl (hb hby at_159) rfl (dcmpV_self n_wt _) ?_
    show Steps p.tables e below (T103.setTop (mkF m 160 _ [(.int (0 : Int32))])) t
    refine XS.ifNo P104.here P104.x rfl (hb hby at_160) rfl (i0W_ne_f (by decide)) ?_
    show Steps p.tables e below (T103.setTop (mkF m 163 _ [])) t
    refine XS.aload P104.here P104.x rfl (hb hby at_163) rfl rfl ?_
    exact kk
  refine OwnX.wCallV P104 (m_g_nonNegative l Z a0 hw b89 (if ¬ ((p3 &&& (1 : Int32)) = (0 : Int32)) then (1 : Int32) else (0 : Int32)) h98 F92 (b01or _)) (tw63 hw) (tw64 hw) (tw66 hw) (tw66 hw) (tw65 hw) (tw33 hw) (tw67 hw) (by decide) X94 (by rw [hml]; rfl) (lenOf pd_6 rfl) (argsL := []) (rest := []) rfl rfl (W := 0) (Nat.le_of_eq rfl) (by decide) (by decide) (by decide) (by decide) (by simp) (hb hby at_165) rfl (k' := 7) (n' := 30) rfl rfl ?_
  rintro T105 _ _ P106 - ⟨rfl, rfl⟩
  show OwnX.Done _ _ _ _ _ _ _ _ _ _ _ _ _ _ _ T105 (mkF m 168 _ [(.int (if ¬ ((p3 &&& (1 : Int32)) = (0 : Int32)) then (1 : Int32) else (0 : Int32)))])
  refine OwnX.Done.stepL (pc' := 175) (st' := [(.ref b89)]) (fun t kk => ?_) ?_
  · show Steps p.tables e below (T105.setTop (mkF m 168 _ [(.int (if ¬ ((p3 &&& (1 : Int32)) = (0 : Int32)) then (1 : Int32) else (0 : Int32)))])) t
    refine XS.iload P106.here P106.x rfl (hb hby at_168) rfl ?_
    show Steps p.tables e below (T105.setTop (mkF m 170 _ [(.int (if ¬ ((p3 &&& (1 : Int32)) = (0 : Int32)) then (1 : Int32) else (0 : Int32))), (.int (if ¬ ((p3 &&& (1 : Int32)) = (0 : Int32)) then (1 : Int32) else (0 : Int32)))])) t
    refine XS.icmpNo P106.here P106.x rfl (hb hby at_170) rfl (iiW_ne_f (not_not_intro rfl)) ?_
    show Steps p.tables e below (T105.setTop (mkF m 173 _ [])) t
    refine XS.aload P106.here P106.x rfl (hb hby at_173) rfl rfl ?_
    exact kk
  refine OwnX.wCallV P106 (m_g_rowsInMw l Z a0 hw b89 (1 : Int32) h98 F93 (Or.inr rfl)) (tw68 hw) (tw69 hw) (tw71 hw) (tw71 hw) (tw70 hw) (tw33 hw) (tw72 hw) (by decide) X94 (by rw [hml]; rfl) (lenOf pd_6 rfl) (argsL := []) (rest := []) rfl rfl (W := 0) (Nat.le_of_eq rfl) (by decide) (by decide) (by decide) (by decide) (by simp) (hb hby at_175) rfl (k' := 7) (n' := 30) rfl rfl ?_
  rintro T107 _ _ P108 - ⟨rfl, rfl⟩
  show OwnX.Done _ _ _ _ _ _ _ _ _ _ _ _ _ _ _ T107 (mkF m 178 _ [(.int (1 : Int32))])
  refine OwnX.Done.stepL (pc' := 184) (st' := [(.int (0 : Int32)), (.ref b89)]) (fun t kk => ?_) ?_
  · show Steps p.tables e below (T107.setTop (mkF m 178 _ [(.int (1 : Int32))])) t
    refine XS.ifNo P108.here P108.x rfl (hb hby at_178) rfl (i0W_eq_f (by decide)) ?_
    show Steps p.tables e below (T107.setTop (mkF m 181 _ [])) t
    refine XS.aload P108.here P108.x rfl (hb hby at_181) rfl rfl ?_
    show Steps p.tables e below (T107.setTop (mkF m 183 _ [(.ref b89)])) t
    refine XS.iconst P108.here P108.x rfl (hb hby at_183) ?_
    exact kk
  refine OwnX.wCallV P108 (m_rowUnit l Z a0 hw b89 (0 : Int32) (1 : Int32) b4 2 0 (oupd (oupd (fun _ => (0 : UInt64)) 0 u0) 1 u1) h98 F93 F90 f102 rfl (by decide)) (tw73 hw) (tw74 hw) (tw76 hw) (tw76 hw) (tw75 hw) (tw33 hw) (tw77 hw) (by decide) X94 (by rw [hml]; rfl) (lenOf pd_7 rfl) (argsL := [(.int (0 : Int32))]) (rest := []) rfl rfl (W := 0) (Nat.le_of_eq rfl) (by decide) (by decide) (by decide) (by decide) (by simp) (hb hby at_184) rfl (k' := 7) (n' := 30) rfl rfl ?_
  rintro T109 _ _ P110 - ⟨rfl, rfl⟩
  show OwnX.Done _ _ _ _ _ _ _ _ _ _ _ _ _ _ _ T109 (mkF m 187 _ [(.double (if (1 : Int32) = (0 : Int32) then FP.dconst1 else (oupd (oupd (fun _ => (0 : UInt64)) 0 u0) 1 u1) 0))])
  refine OwnX.Done.stepL (pc' := 190) (st' := [(.int (0 : Int32)), (.ref b4), (.double (if (1 : Int32) = (0 : Int32) then FP.dconst1 else (oupd (oupd (fun _ => (0 : UInt64)) 0 u0) 1 u1) 0))]) (fun t kk => ?_) ?_
  · show Steps p.tables e below (T109.setTop (mkF m 187 _ [(.double (if (1 : Int32) = (0 : Int32) then FP.dconst1 else (oupd (oupd (fun _ => (0 : UInt64)) 0 u0) 1 u1) 0))])) t
    refine XS.aload P110.here P110.x rfl (hb hby at_187) rfl rfl ?_
    show Steps p.tables e below (T109.setTop (mkF m 189 _ [(.ref b4), (.double (if (1 : Int32) = (0 : Int32) then FP.dconst1 else (oupd (oupd (fun _ => (0 : UInt64)) 0 u0) 1 u1) 0))])) t
    refine XS.iconst P110.here P110.x rfl (hb hby at_189) ?_
    exact kk
  refine OwnX.wDaload P110 f102 (j := (0 : Int32)) (i := 0) rfl (by decide) (v := (.double u0)) rfl (hb hby at_190) rfl ?_
  show OwnX.Done _ _ _ _ _ _ _ _ _ _ _ _ _ _ _ T109 (mkF m 191 _ [(.double u0), (.double (if (1 : Int32) = (0 : Int32) then FP.dconst1 else (oupd (oupd (fun _ => (0 : UInt64)) 0 u0) 1 u1) 0))])
  refine OwnX.Done.stepL (pc' := 198) (st' := [(.int (1 : Int32)), (.ref b89)]) (fun t kk => ?_) ?_
  · show Steps p.tables e below (T109.setTop (mkF m 191 _ [(.double u0), (.double (if (1 : Int32) = (0 : Int32) then FP.dconst1 else (oupd (oupd (fun _ => (0 : UInt64)) 0 u0) 1 u1) 0))])) t
    refine XS.dcmpS P110.here P110.x rfl (hb hby at_191) rfl (own_ru (f := (oupd (oupd (fun _ => (0 : UInt64)) 0 u0) 1 u1)) (i := 0) (u := u0) rfl n_u0) ?_
    show Steps p.tables e below (T109.setTop (mkF m 192 _ [(.int (0 : Int32))])) t
    refine XS.ifNo P110.here P110.x rfl (hb hby at_192) rfl (i0W_ne_f (by decide)) ?_
    show Steps p.tables e below (T109.setTop (mkF m 195 _ [])) t
    refine XS.aload P110.here P110.x rfl (hb hby at_195) rfl rfl ?_
    show Steps p.tables e below (T109.setTop (mkF m 197 _ [(.ref b89)])) t
    refine XS.iconst P110.here P110.x rfl (hb hby at_197) ?_
    exact kk
  refine OwnX.wCallV P110 (m_rowUnit l Z a0 hw b89 (1 : Int32) (1 : Int32) b4 2 1 (oupd (oupd (fun _ => (0 : UInt64)) 0 u0) 1 u1) h98 F93 F90 f102 rfl (by decide)) (tw73 hw) (tw74 hw) (tw76 hw) (tw76 hw) (tw75 hw) (tw33 hw) (tw77 hw) (by decide) X94 (by rw [hml]; rfl) (lenOf pd_7 rfl) (argsL := [(.int (1 : Int32))]) (rest := []) rfl rfl (W := 0) (Nat.le_of_eq rfl) (by decide) (by decide) (by decide) (by decide) (by simp) (hb hby at_198) rfl (k' := 7) (n' := 30) rfl rfl ?_
  rintro T111 _ _ P112 - ⟨rfl, rfl⟩
  show OwnX.Done _ _ _ _ _ _ _ _ _ _ _ _ _ _ _ T111 (mkF m 201 _ [(.double (if (1 : Int32) = (0 : Int32) then FP.dconst1 else (oupd (oupd (fun _ => (0 : UInt64)) 0 u0) 1 u1) 1))])
  refine OwnX.Done.stepL (pc' := 204) (st' := [(.int (1 : Int32)), (.ref b4), (.double (if (1 : Int32) = (0 : Int32) then FP.dconst1 else (oupd (oupd (fun _ => (0 : UInt64)) 0 u0) 1 u1) 1))]) (fun t kk => ?_) ?_
  · show Steps p.tables e below (T111.setTop (mkF m 201 _ [(.double (if (1 : Int32) = (0 : Int32) then FP.dconst1 else (oupd (oupd (fun _ => (0 : UInt64)) 0 u0) 1 u1) 1))])) t
    refine XS.aload P112.here P112.x rfl (hb hby at_201) rfl rfl ?_
    show Steps p.tables e below (T111.setTop (mkF m 203 _ [(.ref b4), (.double (if (1 : Int32) = (0 : Int32) then FP.dconst1 else (oupd (oupd (fun _ => (0 : UInt64)) 0 u0) 1 u1) 1))])) t
    refine XS.iconst P112.here P112.x rfl (hb hby at_203) ?_
    exact kk
  refine OwnX.wDaload P112 f102 (j := (1 : Int32)) (i := 1) rfl (by decide) (v := (.double u1)) rfl (hb hby at_204) rfl ?_
  show OwnX.Done _ _ _ _ _ _ _ _ _ _ _ _ _ _ _ T111 (mkF m 205 _ [(.double u1), (.double (if (1 : Int32) = (0 : Int32) then FP.dconst1 else (oupd (oupd (fun _ => (0 : UInt64)) 0 u0) 1 u1) 1))])
  refine OwnX.Done.stepL (pc' := 214) (st' := [(.ref b41), (.int (0 : Int32)), (.ref b89)]) (fun t kk => ?_) ?_
  · show Steps p.tables e below (T111.setTop (mkF m 205 _ [(.double u1), (.double (if (1 : Int32) = (0 : Int32) then FP.dconst1 else (oupd (oupd (fun _ => (0 : UInt64)) 0 u0) 1 u1) 1))])) t
    refine XS.dcmpS P112.here P112.x rfl (hb hby at_205) rfl (own_ru (f := (oupd (oupd (fun _ => (0 : UInt64)) 0 u0) 1 u1)) (i := 1) (u := u1) rfl n_u1) ?_
    show Steps p.tables e below (T111.setTop (mkF m 206 _ [(.int (0 : Int32))])) t
    refine XS.ifNo P112.here P112.x rfl (hb hby at_206) rfl (i0W_ne_f (by decide)) ?_
    show Steps p.tables e below (T111.setTop (mkF m 209 _ [])) t
    refine XS.aload P112.here P112.x rfl (hb hby at_209) rfl rfl ?_
    show Steps p.tables e below (T111.setTop (mkF m 211 _ [(.ref b89)])) t
    refine XS.iconst P112.here P112.x rfl (hb hby at_211) ?_
    show Steps p.tables e below (T111.setTop (mkF m 212 _ [(.int (0 : Int32)), (.ref b89)])) t
    refine XS.aload P112.here P112.x rfl (hb hby at_212) rfl rfl ?_
    exact kk
  refine OwnX.wCallV P112 (m_row l Z a0 hw b89 (0 : Int32) b41 h98 F93) (tw78 hw) (tw79 hw) (tw81 hw) (tw81 hw) (tw80 hw) (tw33 hw) (tw82 hw) (by decide) X94 (by rw [hml]; rfl) (lenOf pd_8 rfl) (argsL := [(.int (0 : Int32)), (.ref b41)]) (rest := []) rfl rfl (W := 0) (Nat.le_of_eq rfl) (by decide) (by decide) (by decide) (by decide) (by simp) (hb hby at_214) rfl (k' := 7) (n' := 30) rfl rfl ?_
  rintro T113 _ _ P114 - ⟨rfl, rfl⟩
  show OwnX.Done _ _ _ _ _ _ _ _ _ _ _ _ _ _ _ T113 (mkF m 217 _ [(.ref b41)])
  refine OwnX.Done.stepL (pc' := 227) (st' := [(.int (1 : Int32))]) (fun t kk => ?_) ?_
  · show Steps p.tables e below (T113.setTop (mkF m 217 _ [(.ref b41)])) t
    refine XS.aload P114.here P114.x rfl (hb hby at_217) rfl rfl ?_
    show Steps p.tables e below (T113.setTop (mkF m 219 _ [(.ref b41), (.ref b41)])) t
    refine OwnX.pAcmp P114 rfl rfl (pc0 := 219) (pc' := 222) (same := true) rfl (hb hby at_219) rfl (decide_eq_true rfl) (by decide) (by decide) ?_
    show Steps p.tables e below (T113.setTop (mkF m 222 _ [])) t
    refine XS.iconst P114.here P114.x rfl (hb hby at_222) ?_
    show Steps p.tables e below (T113.setTop (mkF m 223 _ [(.int (1 : Int32))])) t
    refine XS.goto P114.here P114.x rfl (pc0 := 223) (pc' := 227) rfl (hb hby at_223) (by decide) (by decide) ?_
    exact kk
  exact OwnX.wRet P114 (t := .boolean) hret (narrow_01 (Or.inr rfl)) (Or.inl ⟨rfl, Or.inr (Or.inl rfl), _, rfl⟩) (hb hby at_227) rfl
set_option maxRecDepth 65536 in
set_option maxHeartbeats 4000000 in
theorem comes_1 {Post : Tables → Env → Array Value → State → Outcome → State → Prop} (hpost : ∀ tb e args s v u, (limb_1_1.after args s (.returned v) u = true ∧ limb_1_2.after args s (.returned v) u = true ∧ True) → ReturnedEndW s (.returned v) u (Jvm.fieldLocs frame_1_writes args s ++ Jvm.arrayLocs frame_1_arrays args s ++ Jvm.staticLocs frame_1_statics s) 24 1152 → Post tb e args s (.returned v) u) :
    ArmFor flags0 classFile x code maxLocals ret World_1 tables_1 room_1 Calls_1 rest_1 Pre_1 Post := by
  intro l hfl _ _ p e ha hc hk s m args below hf hA hF happ hP
  obtain ⟨hcalls, hrest, hpre⟩ := hP
  obtain ⟨-, -, -, hnamed, -, -, -, hat⟩ := (Spec.applies_iff hf).mp happ
  obtain ⟨hg, hn⟩ := and_e (Cond.before_iff.mp (show (Jvm.Cond.and given_1 narrow_1).before args s = true from hpre))
  obtain ⟨h1, g0⟩ := and_e hg
  obtain ⟨q0, g1⟩ := and_e g0
  obtain ⟨q1, g2⟩ := and_e g1
  obtain ⟨q2, g3⟩ := and_e g2
  obtain ⟨w0, w1, w2, w3, rfl⟩ : ∃ w0 w1 w2 w3 : Value, args = #[w0, w1, w2, w3] := by
    have hs : args.size = 4 := by simpa [Cond.value, given_1] using h1
    obtain ⟨L⟩ := args
    match L, hs with
    | [w0, w1, w2, w3], _ => exact ⟨w0, w1, w2, w3, rfl⟩
  have hw := fun d (hd : d ∈ tables_1) => atoms_spec (ws := Jvm.Cond.code x code maxLocals ret :: tables_1) hat d (List.mem_cons_of_mem _ hd)
  have hfit : Fit s := fun {y c} hc i hi => by
    obtain ⟨ha, rfl⟩ := Array.getElem?_eq_some_iff.mp hc
    have q := List.all_eq_true.mp ((Array.all_eq_true_iff_forall_mem.mp hF) _ (Array.getElem_mem ha)) i (List.mem_range.mpr hi)
    simpa [Array.getElem?_eq_getElem hi] using q
  obtain ⟨i0, e0⟩ := is_v q0
  obtain rfl : w0 = (.int i0) := Option.some.inj e0
  obtain ⟨i1, e1⟩ := is_v q1
  obtain rfl : w1 = (.int i1) := Option.some.inj e1
  obtain ⟨i2, e2⟩ := is_v q2
  obtain rfl : w2 = (.int i2) := Option.some.inj e2
  obtain ⟨i3, e3⟩ := is_v g3
  obtain rfl : w3 = (.int i3) := Option.some.inj e3
  obtain ⟨n, o, h1, h2, h3, _, L, rfl, ⟨rfl, N, -⟩, hq⟩ := m_law l s _ hw  i0 i1 i2 i3  s.heap  p e ha hc hk s m _ below hf ((Spec.applies_iff_loose hf).mp happ).1 ⟨rfl, State.Warmed39.refl s, rfl⟩ trivial
  refine ⟨n, _, h1, h2, h3, hpost _ _ _ _ _ _ ⟨Cond.after_iff.mpr rfl, Cond.after_iff.mpr (eq_i res_at (Term.int_eval (1)) rfl), trivial⟩ ⟨hq.1, hq.2.1, hq.2.2.1, (hq.2.2.2.sift fun y hy => Or.inr ((N y hy).resolve_left (by simp))).mono (by decide) (by decide)⟩⟩
theorem main_1_1 : Claimed_1_1 := comes_1 fun _ _ _ _ _ _ h hF => ⟨h.1, hF⟩
theorem main_1_2 : Claimed_1_2 := comes_1 fun _ _ _ _ _ _ h hF => ⟨h.2.1, hF⟩
end Jvm.Pilot.@@N@@
namespace Jvm.Pilot.@@N@@
open Jvm Jvm.ClassFile Sem Op Lib Jvm.Free Jvm.Stand Jvm.Pilot.@@N@@.Jvm.D
/-! MADE BY PROGRAM (witnessworld.py) out of the Statement's table words and the real class files: 18 classes; the members and pool entries that the words name. The judged class is class 1, her method 1. -/
namespace start1
open Jvm.ClassFile
def u (s : String) : CpInfo := .utf8 (stringToUtf16 s)
/-- a pool by its gaps: so many unusable entries, then the entry; so many at the end -/
def gap : Nat → List CpInfo → List CpInfo
  | 0, r => r
  | n + 1, r => .unusable :: gap n r
def poolList (es : List (Nat × CpInfo)) (last : Nat) : List CpInfo := es.foldr (fun e r => gap e.1 (e.2 :: r)) (gap last [])
def pool (es : List (Nat × CpInfo)) (last : Nat) : Array CpInfo := ⟨poolList es last⟩
def fileOf (pool : Array CpInfo) (this : Nat) (attrs : Array Attribute := #[]) (ms : Array MethodInfo := #[]) (fl : Nat := 33) (sup : Nat := 0) (ifs : Array Nat := #[]) (fds : Array FieldInfo := #[]) : ClassFile where
  minorVersion := 0
  majorVersion := 65
  constantPool := pool
  accessFlags := fl
  thisClass := this
  superClass := sup
  interfaces := ifs
  fields := fds
  methods := ms
  attributes := attrs
def plain (name : String) (sup : Option ClassId) : Class where
  name := name
  kind := .ordinary
  loader := none
  accessFlags := 33
  super := sup
  interfaces := #[]
  cf := none
  fields := #[]
  methods := #[]
  instanceTypes := #[]
  staticTypes := #[]
  resolved := #[]
  callSites := []
  init := .initialized
  statics := none
  mirror := none

def pool0 : Array CpInfo := pool [(5, u "<init>"), (0, u "()V"), (1, .class_ 10), (1, u "java/lang/Object")] 113

def k0c0 : Code := { maxStack := 0, maxLocals := 1, code := object_method_1_code, exceptionTable := #[], attributes := #[] }
def k0m0 : Method := { name := "<init>", desc := "()V", sig := { parameters := [], returnType := none }, accessFlags := 1, code := some k0c0 }
/-- java/lang/Object -/
def k0 : Class := { plain "java/lang/Object" none with
  accessFlags := 33
  interfaces := #[]
  cf := some (fileOf pool0 8 #[] #[{ accessFlags := 1, nameIndex := 5, descriptorIndex := 6, attributes := #[] }] 33 0 #[] #[])
  fields := #[]
  methods := #[k0m0]
  instanceTypes := #[]
  staticTypes := #[]
  resolved := Array.replicate 124 none
  statics := none }

def pool1 : Array CpInfo := pool [(2, .class_ 4), (1, u "java/lang/Object"), (0, u "<init>"), (0, u "()V"), (0, .integer 65535), (0, .double 4611686018427387904), (1, .class_ 11), (0, u "com/example/marginfold/marginfold/perimeter/LinearMargin"), (0, .string 13), (0, u "max"), (0, .methodref 10 15), (0, .nameAndType 5 16), (0, u "(Ljava/lang/String;D[D)V"), (0, .class_ 18), (0, u "com/example/marginfold/marginfold/perimeter/Measure"), (0, .methodref 17 20), (0, .nameAndType 5 21), (0, u "([DDZZ)V"), (0, .methodref 17 23), (0, .nameAndType 24 25), (0, u "withRowsInMw"), (0, u "()Lcom/example/marginfold/marginfold/perimeter/Measure;"), (0, .methodref 17 27), (0, .nameAndType 28 29), (0, u "units"), (0, u "()[D"), (0, .methodref 17 31), (0, .nameAndType 32 33), (0, u "weight"), (0, u "()D"), (0, .methodref 17 35), (0, .nameAndType 36 37), (0, u "nonNegative"), (0, u "()Z"), (0, .methodref 17 39), (0, .nameAndType 40 37), (0, u "rowsInMw"), (0, .methodref 17 42), (0, .nameAndType 43 44), (0, u "rowUnit"), (0, u "(I)D"), (0, .methodref 17 46), (0, .nameAndType 47 48), (0, u "row"), (0, u "(ILcom/example/marginfold/marginfold/perimeter/LinearMargin;)Lcom/example/marginfold/marginfold/perimeter/LinearMargin;"), (0, .class_ 50), (0, u "com/example/marginfold/marginfold/perimeter/MeasureWithRowsInMwPinLaw"), (2, u "law"), (0, u "(IIII)Z")] 5

def k1m0 : Method := { name := "<init>", desc := "()V", sig := { parameters := [], returnType := none }, accessFlags := 1, code := none }
def k1c1 : Code := { maxStack := 7, maxLocals := 14, code := code, exceptionTable := #[], attributes := #[] }
def k1m1 : Method := { name := "law", desc := "(IIII)Z", sig := { parameters := [.int, .int, .int, .int], returnType := some .boolean }, accessFlags := 9, code := some k1c1 }
/-- com/example/marginfold/marginfold/perimeter/MeasureWithRowsInMwPinLaw -/
def k1 : Class := { plain "com/example/marginfold/marginfold/perimeter/MeasureWithRowsInMwPinLaw" (some 0) with
  accessFlags := 49
  interfaces := #[]
  cf := some (fileOf pool1 49 #[] #[{ accessFlags := 1, nameIndex := 5, descriptorIndex := 6, attributes := #[] }, { accessFlags := 9, nameIndex := 53, descriptorIndex := 54, attributes := #[] }] 49 2 #[] #[])
  fields := #[]
  methods := #[k1m0, k1m1]
  instanceTypes := #[]
  staticTypes := #[]
  resolved := Array.replicate 60 none
  statics := none }

def pool2 : Array CpInfo := pool [(1, .methodref 2 3), (0, .class_ 4), (0, .nameAndType 5 6), (0, u "java/lang/Object"), (0, u "<init>"), (0, u "()V"), (0, .class_ 8), (0, u "java/lang/Record")] 13

def k2c0 : Code := { maxStack := 1, maxLocals := 1, code := jdk_30_method_1_code, exceptionTable := #[], attributes := #[] }
def k2m0 : Method := { name := "<init>", desc := "()V", sig := { parameters := [], returnType := none }, accessFlags := 4, code := some k2c0 }
/-- java/lang/Record -/
def k2 : Class := { plain "java/lang/Record" (some 0) with
  accessFlags := 1057
  interfaces := #[]
  cf := some (fileOf pool2 7 #[] #[{ accessFlags := 4, nameIndex := 5, descriptorIndex := 6, attributes := #[] }] 1057 2 #[] #[])
  fields := #[]
  methods := #[k2m0]
  instanceTypes := #[]
  staticTypes := #[]
  resolved := Array.replicate 22 none
  statics := none }

def pool3 : Array CpInfo := pool [(1, .methodref 2 3), (0, .class_ 4), (0, .nameAndType 5 6), (0, u "java/lang/Record"), (0, u "<init>"), (0, u "()V"), (0, .fieldref 8 9), (0, .class_ 10), (0, .nameAndType 11 12), (0, u "com/example/marginfold/marginfold/perimeter/LinearMargin"), (0, u "threshold"), (0, u "Ljava/lang/String;"), (0, .fieldref 8 14), (0, .nameAndType 15 16), (0, u "constant"), (0, u "D"), (0, .fieldref 8 18), (0, .nameAndType 19 20), (0, u "coefficients"), (0, u "[D"), (61, u "(Ljava/lang/String;D[D)V")] 110

def k3c0 : Code := { maxStack := 3, maxLocals := 5, code := prog_26_method_1_code, exceptionTable := #[], attributes := #[] }
def k3m0 : Method := { name := "<init>", desc := "(Ljava/lang/String;D[D)V", sig := { parameters := [(.object "java/lang/String"), .double, (.array .double)], returnType := none }, accessFlags := 0, code := some k3c0 }
/-- com/example/marginfold/marginfold/perimeter/LinearMargin -/
def k3 : Class := { plain "com/example/marginfold/marginfold/perimeter/LinearMargin" (some 2) with
  accessFlags := 48
  interfaces := #[]
  cf := some (fileOf pool3 8 #[] #[{ accessFlags := 0, nameIndex := 5, descriptorIndex := 82, attributes := #[] }] 48 2 #[] #[{ accessFlags := 18, nameIndex := 11, descriptorIndex := 12, attributes := #[] }, { accessFlags := 18, nameIndex := 15, descriptorIndex := 16, attributes := #[] }, { accessFlags := 18, nameIndex := 19, descriptorIndex := 20, attributes := #[] }])
  fields := #[{ name := "threshold", type := (.object "java/lang/String"), accessFlags := 18, slot := 0, constantValue := 0 }, { name := "constant", type := .double, accessFlags := 18, slot := 1, constantValue := 0 }, { name := "coefficients", type := (.array .double), accessFlags := 18, slot := 2, constantValue := 0 }]
  methods := #[k3m0]
  instanceTypes := #[(.object "java/lang/String"), .double, (.array .double)]
  staticTypes := #[]
  resolved := Array.replicate 193 none
  statics := none }

def pool4 : Array CpInfo := pool [(1, .class_ 2), (0, u "java/io/Serializable"), (0, .class_ 4), (0, u "java/lang/Object")] 2

/-- java/io/Serializable -/
def k4 : Class := { plain "java/io/Serializable" (some 0) with
  accessFlags := 1537
  interfaces := #[]
  cf := some (fileOf pool4 1 #[] #[] 1537 3 #[] #[])
  fields := #[]
  methods := #[]
  instanceTypes := #[]
  staticTypes := #[]
  resolved := Array.replicate 7 none
  statics := none }

def pool5 : Array CpInfo := pool [(1, .class_ 2), (0, u "java/lang/Comparable"), (0, .class_ 4), (0, u "java/lang/Object")] 7

/-- java/lang/Comparable -/
def k5 : Class := { plain "java/lang/Comparable" (some 0) with
  accessFlags := 1537
  interfaces := #[]
  cf := some (fileOf pool5 1 #[] #[] 1537 3 #[] #[])
  fields := #[]
  methods := #[]
  instanceTypes := #[]
  staticTypes := #[]
  resolved := Array.replicate 12 none
  statics := none }

def pool6 : Array CpInfo := pool [(2, .class_ 4), (1, u "java/lang/CharSequence"), (42, .class_ 48), (0, u "java/lang/CharSequence$1CodePointIterator"), (10, .class_ 60), (0, u "java/lang/CharSequence$1CharIterator"), (5, .class_ 67), (0, u "java/lang/Object")] 63

/-- java/lang/CharSequence -/
def k6 : Class := { plain "java/lang/CharSequence" (some 0) with
  accessFlags := 1537
  interfaces := #[]
  cf := some (fileOf pool6 2 #[.nestMembers #[47, 59]] #[] 1537 66 #[] #[])
  fields := #[]
  methods := #[]
  instanceTypes := #[]
  staticTypes := #[]
  resolved := Array.replicate 131 none
  statics := none }

def pool7 : Array CpInfo := pool [(1, .class_ 2), (0, u "java/lang/constant/Constable"), (0, .class_ 4), (0, u "java/lang/Object")] 6

/-- java/lang/constant/Constable -/
def k7 : Class := { plain "java/lang/constant/Constable" (some 0) with
  accessFlags := 1537
  interfaces := #[]
  cf := some (fileOf pool7 1 #[] #[] 1537 3 #[] #[])
  fields := #[]
  methods := #[]
  instanceTypes := #[]
  staticTypes := #[]
  resolved := Array.replicate 11 none
  statics := none }

def pool8 : Array CpInfo := pool [(1, .class_ 2), (0, u "java/lang/constant/ConstantDesc"), (0, .class_ 4), (0, u "java/lang/Object")] 32

/-- java/lang/constant/ConstantDesc -/
def k8 : Class := { plain "java/lang/constant/ConstantDesc" (some 0) with
  accessFlags := 1537
  interfaces := #[]
  cf := some (fileOf pool8 1 #[] #[] 1537 3 #[] #[])
  fields := #[]
  methods := #[]
  instanceTypes := #[]
  staticTypes := #[]
  resolved := Array.replicate 37 none
  statics := none }

def pool9 : Array CpInfo := pool [(2, .class_ 4), (1, u "java/lang/Object"), (0, u "<init>"), (0, u "()V"), (3, .class_ 12), (1, u "java/lang/String"), (0, u "value"), (0, u "[B"), (2, u "coder"), (0, u "B"), (2, u "hash"), (0, u "I"), (2, u "hashIsZero"), (0, u "Z"), (13, u "COMPACT_STRINGS"), (534, .class_ 576), (0, u "java/lang/CharSequence"), (22, u "CASE_INSENSITIVE_ORDER"), (0, u "Ljava/util/Comparator;"), (500, u "serialPersistentFields"), (0, u "[Ljava/io/ObjectStreamField;"), (0, .class_ 1104), (0, u "java/lang/String$CaseInsensitiveComparator"), (1, .class_ 1107), (0, u "java/io/Serializable"), (0, .class_ 1109), (0, u "java/lang/Comparable"), (0, .class_ 1111), (0, u "java/lang/constant/Constable"), (0, .class_ 1113), (0, u "java/lang/constant/ConstantDesc"), (2, u "serialVersionUID"), (0, u "J"), (3, u "REPL"), (0, u "C"), (2, u "LATIN1"), (1, u "UTF16")] 323

def k9m0 : Method := { name := "<init>", desc := "()V", sig := { parameters := [], returnType := none }, accessFlags := 1, code := none }
/-- java/lang/String -/
def k9 : Class := { plain "java/lang/String" (some 0) with
  accessFlags := 49
  interfaces := #[4, 5, 6, 7, 8]
  cf := some (fileOf pool9 10 #[.nestMembers #[1103]] #[{ accessFlags := 1, nameIndex := 5, descriptorIndex := 6, attributes := #[] }] 49 2 #[1106, 1108, 575, 1110, 1112] #[{ accessFlags := 18, nameIndex := 13, descriptorIndex := 14, attributes := #[] }, { accessFlags := 18, nameIndex := 17, descriptorIndex := 18, attributes := #[] }, { accessFlags := 2, nameIndex := 21, descriptorIndex := 22, attributes := #[] }, { accessFlags := 2, nameIndex := 25, descriptorIndex := 26, attributes := #[] }, { accessFlags := 26, nameIndex := 1116, descriptorIndex := 1117, attributes := #[] }, { accessFlags := 24, nameIndex := 40, descriptorIndex := 26, attributes := #[] }, { accessFlags := 26, nameIndex := 1101, descriptorIndex := 1102, attributes := #[] }, { accessFlags := 26, nameIndex := 1121, descriptorIndex := 1122, attributes := #[] }, { accessFlags := 25, nameIndex := 599, descriptorIndex := 600, attributes := #[] }, { accessFlags := 24, nameIndex := 1125, descriptorIndex := 18, attributes := #[] }, { accessFlags := 24, nameIndex := 1127, descriptorIndex := 18, attributes := #[] }])
  fields := #[{ name := "value", type := (.array .byte), accessFlags := 18, slot := 0, constantValue := 0 }, { name := "coder", type := .byte, accessFlags := 18, slot := 1, constantValue := 0 }, { name := "hash", type := .int, accessFlags := 2, slot := 2, constantValue := 0 }, { name := "hashIsZero", type := .boolean, accessFlags := 2, slot := 3, constantValue := 0 }, { name := "serialVersionUID", type := .long, accessFlags := 26, slot := 0, constantValue := 0 }, { name := "COMPACT_STRINGS", type := .boolean, accessFlags := 24, slot := 1, constantValue := 0 }, { name := "serialPersistentFields", type := (.array (.object "java/io/ObjectStreamField")), accessFlags := 26, slot := 2, constantValue := 0 }, { name := "REPL", type := .char, accessFlags := 26, slot := 3, constantValue := 0 }, { name := "CASE_INSENSITIVE_ORDER", type := (.object "java/util/Comparator"), accessFlags := 25, slot := 4, constantValue := 0 }, { name := "LATIN1", type := .byte, accessFlags := 24, slot := 5, constantValue := 0 }, { name := "UTF16", type := .byte, accessFlags := 24, slot := 6, constantValue := 0 }]
  methods := #[k9m0]
  instanceTypes := #[(.array .byte), .byte, .int, .boolean]
  staticTypes := #[.long, .boolean, (.array (.object "java/io/ObjectStreamField")), .char, (.object "java/util/Comparator"), .byte, .byte]
  resolved := Array.replicate 1451 none
  statics := none }

def pool10 : Array CpInfo := pool [(1, .methodref 2 3), (0, .class_ 4), (0, .nameAndType 5 6), (0, u "java/lang/Record"), (0, u "<init>"), (0, u "()V"), (0, .fieldref 8 9), (0, .class_ 10), (0, .nameAndType 11 12), (0, u "com/example/marginfold/marginfold/perimeter/Measure"), (0, u "units"), (0, u "[D"), (0, .fieldref 8 14), (0, .nameAndType 15 16), (0, u "weight"), (0, u "D"), (0, .fieldref 8 18), (0, .nameAndType 19 20), (0, u "nonNegative"), (0, u "Z"), (0, .fieldref 8 22), (0, .nameAndType 23 20), (0, u "rowsInMw"), (18, .methodref 8 43), (0, .nameAndType 5 44), (0, u "([DDZZ)V"), (35, u "(ILcom/example/marginfold/marginfold/perimeter/LinearMargin;)Lcom/example/marginfold/marginfold/perimeter/LinearMargin;"), (25, u "withRowsInMw"), (0, u "()Lcom/example/marginfold/marginfold/perimeter/Measure;"), (0, u "row"), (0, u "rowUnit"), (0, u "(I)D"), (3, u "()[D"), (0, u "()D"), (0, u "()Z")] 23

def k10c0 : Code := { maxStack := 3, maxLocals := 6, code := prog_27_method_1_code, exceptionTable := #[], attributes := #[] }
def k10m0 : Method := { name := "<init>", desc := "([DDZZ)V", sig := { parameters := [(.array .double), .double, .boolean, .boolean], returnType := none }, accessFlags := 0, code := some k10c0 }
def k10c1 : Code := { maxStack := 7, maxLocals := 1, code := prog_27_method_4_code, exceptionTable := #[], attributes := #[] }
def k10m1 : Method := { name := "withRowsInMw", desc := "()Lcom/example/marginfold/marginfold/perimeter/Measure;", sig := { parameters := [], returnType := some (.object "com/example/marginfold/marginfold/perimeter/Measure") }, accessFlags := 0, code := some k10c1 }
def k10c2 : Code := { maxStack := 3, maxLocals := 3, code := prog_27_method_6_code, exceptionTable := #[], attributes := #[] }
def k10m2 : Method := { name := "row", desc := "(ILcom/example/marginfold/marginfold/perimeter/LinearMargin;)Lcom/example/marginfold/marginfold/perimeter/LinearMargin;", sig := { parameters := [.int, (.object "com/example/marginfold/marginfold/perimeter/LinearMargin")], returnType := some (.object "com/example/marginfold/marginfold/perimeter/LinearMargin") }, accessFlags := 0, code := some k10c2 }
def k10c3 : Code := { maxStack := 2, maxLocals := 2, code := prog_27_method_7_code, exceptionTable := #[], attributes := #[] }
def k10m3 : Method := { name := "rowUnit", desc := "(I)D", sig := { parameters := [.int], returnType := some .double }, accessFlags := 0, code := some k10c3 }
def k10c4 : Code := { maxStack := 1, maxLocals := 1, code := prog_27_method_12_code, exceptionTable := #[], attributes := #[] }
def k10m4 : Method := { name := "units", desc := "()[D", sig := { parameters := [], returnType := some (.array .double) }, accessFlags := 1, code := some k10c4 }
def k10c5 : Code := { maxStack := 2, maxLocals := 1, code := prog_27_method_13_code, exceptionTable := #[], attributes := #[] }
def k10m5 : Method := { name := "weight", desc := "()D", sig := { parameters := [], returnType := some .double }, accessFlags := 1, code := some k10c5 }
def k10c6 : Code := { maxStack := 1, maxLocals := 1, code := prog_27_method_14_code, exceptionTable := #[], attributes := #[] }
def k10m6 : Method := { name := "nonNegative", desc := "()Z", sig := { parameters := [], returnType := some .boolean }, accessFlags := 1, code := some k10c6 }
def k10c7 : Code := { maxStack := 1, maxLocals := 1, code := prog_27_method_15_code, exceptionTable := #[], attributes := #[] }
def k10m7 : Method := { name := "rowsInMw", desc := "()Z", sig := { parameters := [], returnType := some .boolean }, accessFlags := 1, code := some k10c7 }
/-- com/example/marginfold/marginfold/perimeter/Measure -/
def k10 : Class := { plain "com/example/marginfold/marginfold/perimeter/Measure" (some 2) with
  accessFlags := 48
  interfaces := #[]
  cf := some (fileOf pool10 8 #[] #[{ accessFlags := 0, nameIndex := 5, descriptorIndex := 44, attributes := #[] }, { accessFlags := 0, nameIndex := 106, descriptorIndex := 107, attributes := #[] }, { accessFlags := 0, nameIndex := 108, descriptorIndex := 80, attributes := #[] }, { accessFlags := 0, nameIndex := 109, descriptorIndex := 110, attributes := #[] }, { accessFlags := 1, nameIndex := 11, descriptorIndex := 114, attributes := #[] }, { accessFlags := 1, nameIndex := 15, descriptorIndex := 115, attributes := #[] }, { accessFlags := 1, nameIndex := 19, descriptorIndex := 116, attributes := #[] }, { accessFlags := 1, nameIndex := 23, descriptorIndex := 116, attributes := #[] }] 48 2 #[] #[{ accessFlags := 18, nameIndex := 11, descriptorIndex := 12, attributes := #[] }, { accessFlags := 18, nameIndex := 15, descriptorIndex := 16, attributes := #[] }, { accessFlags := 18, nameIndex := 19, descriptorIndex := 20, attributes := #[] }, { accessFlags := 18, nameIndex := 23, descriptorIndex := 20, attributes := #[] }])
  fields := #[{ name := "units", type := (.array .double), accessFlags := 18, slot := 0, constantValue := 0 }, { name := "weight", type := .double, accessFlags := 18, slot := 1, constantValue := 0 }, { name := "nonNegative", type := .boolean, accessFlags := 18, slot := 2, constantValue := 0 }, { name := "rowsInMw", type := .boolean, accessFlags := 18, slot := 3, constantValue := 0 }]
  methods := #[k10m0, k10m1, k10m2, k10m3, k10m4, k10m5, k10m6, k10m7]
  instanceTypes := #[(.array .double), .double, .boolean, .boolean]
  staticTypes := #[]
  resolved := Array.replicate 140 none
  statics := none }

def pool11 : Array CpInfo := pool [(1, u "java/lang/Cloneable"), (0, .class_ 1), (0, u "java/lang/Object"), (0, .class_ 3)] 3

/-- java/lang/Cloneable -/
def k11 : Class := { plain "java/lang/Cloneable" (some 0) with
  accessFlags := 1537
  interfaces := #[]
  cf := some (fileOf pool11 2 #[] #[] 1537 4 #[] #[])
  fields := #[]
  methods := #[]
  instanceTypes := #[]
  staticTypes := #[]
  resolved := Array.replicate 8 none
  statics := none }

/-- the primitive byte -/
def k12 : Class := { plain "byte" none with kind := .primitive 'B', accessFlags := 0x411 }
/-- [B -/
def k13 : Class := { plain "[B" (some 0) with kind := .array 12 .byte, interfaces := #[11, 4], accessFlags := 1041 }

/-- the primitive double -/
def k14 : Class := { plain "double" none with kind := .primitive 'D', accessFlags := 0x411 }
/-- [D -/
def k15 : Class := { plain "[D" (some 0) with kind := .array 14 .double, interfaces := #[11, 4], accessFlags := 1041 }

/-- the primitive int -/
def k16 : Class := { plain "int" none with kind := .primitive 'I', accessFlags := 0x411 }
/-- [I -/
def k17 : Class := { plain "[I" (some 0) with kind := .array 16 .int, interfaces := #[11, 4], accessFlags := 1041 }

def heap : Heap := #[]
def classes : Array Class := #[k0, k1, k2, k3, k4, k5, k6, k7, k8, k9, k10, k11, k12, k13, k14, k15, k16, k17]
def interned : List (Array UInt16 × Addr) := []
def slotsUsed : Nat := 0
def theMethod : MethodId := ⟨1, 1⟩
def args0 : Array Value := #[.int 5, .int 1, .int 2, .int 3]
def aboutOver (below : List Frame) : State where
  vm := { classes := classes, interned := interned.toArray }
  heap := heap
  slotsUsed := slotsUsed
  threads := #[{ frames := .invoking theMethod args0 :: below }]
def below0 : List Frame := [.native { method := ⟨0, 0⟩, args := #[] }]
def about1 : State := aboutOver below0
def p0 : Program := .bare "" "" ""
def e0 : Env := launch0.env 0 0 0
theorem w_frames : about1.frames = Frame.invoking theMethod args0 :: below0 := rfl
set_option maxRecDepth 65536 in
theorem w_args : argsFit about1.vm theMethod args0 = true := by decide +kernel
set_option maxRecDepth 65536 in
theorem w_heap : heapFits about1 = true := by decide +kernel
set_option maxRecDepth 65536 in
theorem w_runnable : about1.curStatus? = some .runnable := by decide +kernel
set_option maxRecDepth 65536 in
theorem w_alone : about1.alone = true := by decide +kernel
set_option maxRecDepth 65536 in
theorem w_named : about1.methodNamed? x = some theMethod := by decide +kernel
set_option maxRecDepth 65536 in
theorem w_hears : about1.hears theMethod below0 = true := by decide +kernel
set_option maxRecDepth 65536 in
theorem w_ripe : about1.ripe theMethod args0 below0 = true := by decide +kernel
theorem w_running : about1.status = .running := rfl
set_option maxRecDepth 65536 in
theorem w_room : about1.hasRoom e0.platform room_1 = true :=
  launch0.hasRoom_least _ room_1 (by decide +kernel) (by decide +kernel) (by decide +kernel) (by decide +kernel) (by decide +kernel) (by decide +kernel)
theorem allAtoms_all (ts : List Jvm.Cond) (a : Array Jvm.Value) (st : Jvm.State) : (allAtoms ts).before a st = ts.all (fun c => c.before a st) := by
  induction ts with
  | nil => rfl
  | cons c t ih =>
    show (Jvm.Cond.and c (allAtoms t)).before a st = _
    rw [Jvm.Cond.before_and, ih, List.all_cons]
def words1 : List Jvm.Cond := Jvm.Cond.code x code maxLocals ret :: tables_1
/-- a 'code' word, met by the world's own term for the bytes: nothing is compared byte by byte -/
theorem code_word {y : MethodName} {bytes : ByteArray} {mx : Nat} {rt : Option FieldType} {a : Array Value} {s : State} {m : MethodId} {meth : Method} {c : Code} (h1 : s.methodNamed? y = some m) (h2 : s.vm.method? m = some meth) (h3 : meth.code = some c) (h4 : c.code = bytes)
    (h5 : (c.maxLocals == mx && c.exceptionTable.isEmpty && decide (c.maxStack ≤ mostOperands) && decide (meth.sig.returnType = rt) && !meth.locks && decide (parseMethodDescriptor y.desc = some meth.sig)) = true) : (Jvm.Cond.code y bytes mx rt).before a s = true := by
  simp only [Bool.and_eq_true, beq_iff_eq, Bool.not_eq_true', decide_eq_true_eq] at h5
  obtain ⟨⟨⟨⟨⟨g1, g2⟩, g3⟩, g4⟩, g5⟩, g6⟩ := h5
  simp [Cond.before, Cond.holds, Cond.value, h1, h2, h3, h4, g1, g2, g3, g4, g5, g6]
def isCode : Jvm.Cond → Bool
  | .code _ _ _ _ => true
  | _ => false
theorem all_split {L : List Jvm.Cond} {P : Jvm.Cond → Bool} (h1 : L.all (fun c => isCode c || P c) = true) (h2 : ∀ c ∈ L.filter isCode, P c = true) : L.all P = true := by
  refine List.all_eq_true.mpr fun c hc => ?_
  have h := List.all_eq_true.mp h1 c hc
  rcases Bool.eq_false_or_eq_true (isCode c) with hi | hi
  · exact h2 c (List.mem_filter.mpr ⟨hc, hi⟩)
  · simpa [hi] using h
set_option maxRecDepth 65536 in
theorem w_c0 : (Jvm.Cond.code x code maxLocals ret).before args0 about1 = true := code_word (m := ⟨1, 1⟩) (meth := k1m1) (c := k1c1) (by decide +kernel) rfl rfl rfl (by decide +kernel)
set_option maxRecDepth 65536 in
theorem w_c1 : (Jvm.Cond.code ({ cls := "com/example/marginfold/marginfold/perimeter/LinearMargin", name := "<init>", desc := "(Ljava/lang/String;D[D)V" } : Jvm.MethodName) prog_26_method_1_code (5 : Nat) (Option.none : Option Jvm.ClassFile.FieldType)).before args0 about1 = true := code_word (m := ⟨3, 0⟩) (meth := k3m0) (c := k3c0) (by decide +kernel) rfl rfl rfl (by decide +kernel)
set_option maxRecDepth 65536 in
theorem w_c2 : (Jvm.Cond.code ({ cls := "java/lang/Record", name := "<init>", desc := "()V" } : Jvm.MethodName) jdk_30_method_1_code (1 : Nat) (Option.none : Option Jvm.ClassFile.FieldType)).before args0 about1 = true := code_word (m := ⟨2, 0⟩) (meth := k2m0) (c := k2c0) (by decide +kernel) rfl rfl rfl (by decide +kernel)
set_option maxRecDepth 65536 in
theorem w_c3 : (Jvm.Cond.code ({ cls := "java/lang/Object", name := "<init>", desc := "()V" } : Jvm.MethodName) object_method_1_code (1 : Nat) (Option.none : Option Jvm.ClassFile.FieldType)).before args0 about1 = true := code_word (m := ⟨0, 0⟩) (meth := k0m0) (c := k0c0) (by decide +kernel) rfl rfl rfl (by decide +kernel)
set_option maxRecDepth 65536 in
theorem w_c4 : (Jvm.Cond.code ({ cls := "com/example/marginfold/marginfold/perimeter/Measure", name := "<init>", desc := "([DDZZ)V" } : Jvm.MethodName) prog_27_method_1_code (6 : Nat) (Option.none : Option Jvm.ClassFile.FieldType)).before args0 about1 = true := code_word (m := ⟨10, 0⟩) (meth := k10m0) (c := k10c0) (by decide +kernel) rfl rfl rfl (by decide +kernel)
set_option maxRecDepth 65536 in
theorem w_c5 : (Jvm.Cond.code ({ cls := "com/example/marginfold/marginfold/perimeter/Measure", name := "withRowsInMw", desc := "()Lcom/example/marginfold/marginfold/perimeter/Measure;" } : Jvm.MethodName) prog_27_method_4_code (1 : Nat) (Option.some (Jvm.ClassFile.FieldType.object "com/example/marginfold/marginfold/perimeter/Measure"))).before args0 about1 = true := code_word (m := ⟨10, 1⟩) (meth := k10m1) (c := k10c1) (by decide +kernel) rfl rfl rfl (by decide +kernel)
set_option maxRecDepth 65536 in
theorem w_c6 : (Jvm.Cond.code ({ cls := "com/example/marginfold/marginfold/perimeter/Measure", name := "units", desc := "()[D" } : Jvm.MethodName) prog_27_method_12_code (1 : Nat) (Option.some (Jvm.ClassFile.FieldType.array Jvm.ClassFile.FieldType.double))).before args0 about1 = true := code_word (m := ⟨10, 4⟩) (meth := k10m4) (c := k10c4) (by decide +kernel) rfl rfl rfl (by decide +kernel)
set_option maxRecDepth 65536 in
theorem w_c7 : (Jvm.Cond.code ({ cls := "com/example/marginfold/marginfold/perimeter/Measure", name := "weight", desc := "()D" } : Jvm.MethodName) prog_27_method_13_code (1 : Nat) (Option.some Jvm.ClassFile.FieldType.double)).before args0 about1 = true := code_word (m := ⟨10, 5⟩) (meth := k10m5) (c := k10c5) (by decide +kernel) rfl rfl rfl (by decide +kernel)
set_option maxRecDepth 65536 in
theorem w_c8 : (Jvm.Cond.code ({ cls := "com/example/marginfold/marginfold/perimeter/Measure", name := "nonNegative", desc := "()Z" } : Jvm.MethodName) prog_27_method_14_code (1 : Nat) (Option.some Jvm.ClassFile.FieldType.boolean)).before args0 about1 = true := code_word (m := ⟨10, 6⟩) (meth := k10m6) (c := k10c6) (by decide +kernel) rfl rfl rfl (by decide +kernel)
set_option maxRecDepth 65536 in
theorem w_c9 : (Jvm.Cond.code ({ cls := "com/example/marginfold/marginfold/perimeter/Measure", name := "rowsInMw", desc := "()Z" } : Jvm.MethodName) prog_27_method_15_code (1 : Nat) (Option.some Jvm.ClassFile.FieldType.boolean)).before args0 about1 = true := code_word (m := ⟨10, 7⟩) (meth := k10m7) (c := k10c7) (by decide +kernel) rfl rfl rfl (by decide +kernel)
set_option maxRecDepth 65536 in
theorem w_c10 : (Jvm.Cond.code ({ cls := "com/example/marginfold/marginfold/perimeter/Measure", name := "rowUnit", desc := "(I)D" } : Jvm.MethodName) prog_27_method_7_code (2 : Nat) (Option.some Jvm.ClassFile.FieldType.double)).before args0 about1 = true := code_word (m := ⟨10, 3⟩) (meth := k10m3) (c := k10c3) (by decide +kernel) rfl rfl rfl (by decide +kernel)
set_option maxRecDepth 65536 in
theorem w_c11 : (Jvm.Cond.code ({ cls := "com/example/marginfold/marginfold/perimeter/Measure", name := "row", desc := "(ILcom/example/marginfold/marginfold/perimeter/LinearMargin;)Lcom/example/marginfold/marginfold/perimeter/LinearMargin;" } : Jvm.MethodName) prog_27_method_6_code (3 : Nat) (Option.some (Jvm.ClassFile.FieldType.object "com/example/marginfold/marginfold/perimeter/LinearMargin"))).before args0 about1 = true := code_word (m := ⟨10, 2⟩) (meth := k10m2) (c := k10c2) (by decide +kernel) rfl rfl rfl (by decide +kernel)
def codes1 : List Jvm.Cond := [Jvm.Cond.code x code maxLocals ret, Jvm.Cond.code ({ cls := "com/example/marginfold/marginfold/perimeter/LinearMargin", name := "<init>", desc := "(Ljava/lang/String;D[D)V" } : Jvm.MethodName) prog_26_method_1_code (5 : Nat) (Option.none : Option Jvm.ClassFile.FieldType), Jvm.Cond.code ({ cls := "java/lang/Record", name := "<init>", desc := "()V" } : Jvm.MethodName) jdk_30_method_1_code (1 : Nat) (Option.none : Option Jvm.ClassFile.FieldType), Jvm.Cond.code ({ cls := "java/lang/Object", name := "<init>", desc := "()V" } : Jvm.MethodName) object_method_1_code (1 : Nat) (Option.none : Option Jvm.ClassFile.FieldType), Jvm.Cond.code ({ cls := "com/example/marginfold/marginfold/perimeter/Measure", name := "<init>", desc := "([DDZZ)V" } : Jvm.MethodName) prog_27_method_1_code (6 : Nat) (Option.none : Option Jvm.ClassFile.FieldType), Jvm.Cond.code ({ cls := "com/example/marginfold/marginfold/perimeter/Measure", name := "withRowsInMw", desc := "()Lcom/example/marginfold/marginfold/perimeter/Measure;" } : Jvm.MethodName) prog_27_method_4_code (1 : Nat) (Option.some (Jvm.ClassFile.FieldType.object "com/example/marginfold/marginfold/perimeter/Measure")), Jvm.Cond.code ({ cls := "com/example/marginfold/marginfold/perimeter/Measure", name := "units", desc := "()[D" } : Jvm.MethodName) prog_27_method_12_code (1 : Nat) (Option.some (Jvm.ClassFile.FieldType.array Jvm.ClassFile.FieldType.double)), Jvm.Cond.code ({ cls := "com/example/marginfold/marginfold/perimeter/Measure", name := "weight", desc := "()D" } : Jvm.MethodName) prog_27_method_13_code (1 : Nat) (Option.some Jvm.ClassFile.FieldType.double), Jvm.Cond.code ({ cls := "com/example/marginfold/marginfold/perimeter/Measure", name := "nonNegative", desc := "()Z" } : Jvm.MethodName) prog_27_method_14_code (1 : Nat) (Option.some Jvm.ClassFile.FieldType.boolean), Jvm.Cond.code ({ cls := "com/example/marginfold/marginfold/perimeter/Measure", name := "rowsInMw", desc := "()Z" } : Jvm.MethodName) prog_27_method_15_code (1 : Nat) (Option.some Jvm.ClassFile.FieldType.boolean), Jvm.Cond.code ({ cls := "com/example/marginfold/marginfold/perimeter/Measure", name := "rowUnit", desc := "(I)D" } : Jvm.MethodName) prog_27_method_7_code (2 : Nat) (Option.some Jvm.ClassFile.FieldType.double), Jvm.Cond.code ({ cls := "com/example/marginfold/marginfold/perimeter/Measure", name := "row", desc := "(ILcom/example/marginfold/marginfold/perimeter/LinearMargin;)Lcom/example/marginfold/marginfold/perimeter/LinearMargin;" } : Jvm.MethodName) prog_27_method_6_code (3 : Nat) (Option.some (Jvm.ClassFile.FieldType.object "com/example/marginfold/marginfold/perimeter/LinearMargin"))]
set_option maxRecDepth 65536 in
theorem codes_eq : words1.filter isCode = codes1 := rfl
theorem w_codes : ∀ c ∈ words1.filter isCode, c.before args0 about1 = true := by
  rw [codes_eq]
  intro c hc
  simp only [codes1, List.mem_cons, List.not_mem_nil, or_false] at hc
  rcases hc with rfl | rfl | rfl | rfl | rfl | rfl | rfl | rfl | rfl | rfl | rfl | rfl
  · exact w_c0
  · exact w_c1
  · exact w_c2
  · exact w_c3
  · exact w_c4
  · exact w_c5
  · exact w_c6
  · exact w_c7
  · exact w_c8
  · exact w_c9
  · exact w_c10
  · exact w_c11
set_option maxRecDepth 65536 in
theorem w_t1 : (words1.take 24).all (fun c => isCode c || c.before args0 about1) = true := by decide +kernel
set_option maxRecDepth 65536 in
theorem w_t2 : ((words1.drop 24).take 24).all (fun c => isCode c || c.before args0 about1) = true := by decide +kernel
set_option maxRecDepth 65536 in
theorem w_t3 : (((words1.drop 24).drop 24).take 24).all (fun c => isCode c || c.before args0 about1) = true := by decide +kernel
set_option maxRecDepth 65536 in
theorem w_t4 : (((words1.drop 24).drop 24).drop 24).all (fun c => isCode c || c.before args0 about1) = true := by decide +kernel
theorem w_tables : (allAtoms (Jvm.Cond.code x code maxLocals ret :: tables_1)).before args0 about1 = true := by
  rw [allAtoms_all]
  show words1.all (fun c => c.before args0 about1) = true
  refine all_split ?_ w_codes
  rw [← List.take_append_drop 24 words1, List.all_append, w_t1, ← List.take_append_drop 24 (words1.drop 24), List.all_append, w_t2, ← List.take_append_drop 24 ((words1.drop 24).drop 24), List.all_append, w_t3, w_t4]
  rfl
set_option maxRecDepth 65536 in
theorem w_case : (Jvm.Cond.and given_1 narrow_1).before args0 about1 = true := by decide +kernel
theorem w_applies : (headSpec (Jvm.Cond.code x code maxLocals ret :: tables_1) room_1).applies x e0.platform about1 = true :=
  (Spec.applies_iff w_frames).mpr ⟨w_running, w_runnable, w_alone, w_named, w_hears, w_ripe, w_room, w_tables⟩
theorem atStart : AtStart classFile x code maxLocals ret World_1 tables_1 room_1 Calls_1 rest_1 Pre_1 launch0 p0 e0 about1 theMethod args0 below0 :=
  ⟨lists_1, trivial, launch0.admits_env _ _ _, launch0.least_env, fairChoices_fair.cas, fairChoices_fair.clock, w_frames, w_args, w_heap, w_applies, trivial, trivial, w_case⟩
end start1
theorem witness_1 : WitnessClaimed_1 := ⟨start1.p0, start1.e0, start1.about1, start1.theMethod, start1.args0, start1.below0, start1.atStart⟩
end Jvm.Pilot.@@N@@
