import JvmDerived
import JvmDerived.Pilot.@@N@@Statement
import JvmDerived.Pilot.@@N@@Code
set_option linter.unusedVariables false
set_option linter.unusedSimpArgs false
namespace Jvm.OwnGo
open Jvm Sem ClassFile Op Lib Jvm.Stand Jvm.Free Jvm.LawKit Jvm.RoadKit
/-! ## 1. where a walk stands, and how it ends -/
/-- a walk may bear one more word on its base; KT: none -/
def KT : State → Prop := fun _ => True
def Ctx (K : State → Prop) (Z : State) (y : MethodName) (bytes : ByteArray) (ml : Nat) (ret : Option FieldType) (p : Program) (s : State) (m : MethodId) (meth : Method) (c : Code) : Prop :=
  p.tables.exec = Jvm.exec ∧ c.code = bytes ∧ c.maxLocals = ml ∧ s.vm.findClass y.cls = some m.cls ∧ Z.Warmed39 s.vm ∧ meth.sig.returnType = ret ∧ meth.locks = false ∧ meth.name = y.name ∧ K s
/-- what the walk's base has to do with the method's start: the same, or (where literals may be made) the start under later tables -/
def Base (wd : Bool) (s0 s : State) (h : Heap) : Prop := if wd = true then ∃ vm0 k0, s = s0.setVm vm0 ∧ s0.Since vm0 k0 ∧ k0 ≤ h.size else s = s0
def EndK (wd : Bool) (s0 : State) (o : Outcome) (t : State) (L : List Loc) (k n : Nat) : Prop := if wd = true then ReturnedEndW s0 o t L k n else FrameEnd s0 o t L k n
def Ends (wd : Bool) (n0 kc ks : Nat) (Q : Option Value → Heap → Prop) (p : Program) (e : Env) (below : List Frame) (s0 T : State) (g : JFrame) : Prop :=
  ∃ s₂ o, Steps p.tables e below (T.setTop g) s₂ ∧ s₂.status = .running ∧ Ended s₂ below o ∧ ∃ v L, o = .returned v ∧ (Q v s₂.heap ∧ Fr n0 L) ∧ EndK wd s0 o s₂ L kc ks
def Go (wd : Bool) (K : State → Prop) (l : Launch) (Z : State) (R : Room) (y : MethodName) (bytes : ByteArray) (ml : Nat) (ret : Option FieldType) (n0 kc ks : Nat) (Q : Option Value → Heap → Prop) (h : Heap) (k n pc : Nat) (ls : List Slot) (st : List Value) : Prop :=
  ∀ (p : Program) (e : Env) (s0 s : State) (m : MethodId) (args : Array Value) (below : List Frame) (meth : Method) (c : Code) (T : State) (L : List Loc),
    Base wd s0 s h → Ctx K Z y bytes ml ret p s m meth c → Stand p l e R s m args below meth c T L k n → T.heap = h → Fr n0 L → Ends wd n0 kc ks Q p e below s0 T (mkF m pc ls.toArray st)
/-- a contract: what a body leaves, called with the values as' over the heap h -/
def Con (wd : Bool) (l : Launch) (Z : State) (y : MethodName) (bytes : ByteArray) (ml : Nat) (ret : Option FieldType) (rm : Room) (as' : Array Value) (h : Heap) (n0 : Nat) (Q : Option Value → Heap → Prop) : Prop :=
  ∀ ws : List Cond, MetFree l y (head1 (Cond.code y bytes ml ret :: ws) rm) (fun a U => a = as' ∧ Z.Warmed39 U.vm ∧ U.heap = h) (fun _ _ _ _ _ => True)
    (fun _ U o U' => ∃ v L, o = .returned v ∧ ((Q v U'.heap ∧ h.size ≤ U'.heap.size) ∧ Fr n0 L) ∧ EndK wd U o U' L rm.cells rm.slots)
/-- it returns a value -/
def R1 (P : Value → Heap → Prop) : Option Value → Heap → Prop := fun v h => ∃ w, v = some w ∧ P w h
/-- it returns nothing -/
def R0 (P : Heap → Prop) : Option Value → Heap → Prop := fun v h => v = none ∧ P h
/-- it returns this value and leaves the heap as it was -/
abbrev Ret (w : Value) (h : Heap) : Option Value → Heap → Prop := R1 fun w' h' => w' = w ∧ h = h'
/-- a local variable written over -/
def setl : List Slot → Nat → Slot → List Slot
  | [], _, _ => []
  | _ :: r, 0, x => x :: r
  | a :: r, i + 1, x => a :: setl r i x
def lupd {α : Type} : List α → Nat → α → List α
  | [], _, _ => []
  | _ :: r, 0, x => x :: r
  | a :: r, i + 1, x => a :: lupd r i x
def one : Slot → Bool
  | .unset => true
  | .val v => v.category == 1
  | .second => false
def two : Slot → Slot → Bool
  | .val v, .second => v.category == 2
  | a, b => one a && one b
def Dc (bytes : ByteArray) (pc : Nat) (i : Instr) (len pc' : Nat) : Prop := decode bytes pc = .ok (i, len) ∧ pc + len = pc'
def Dp (bytes : ByteArray) (pc : Nat) (v : Int32) (pc' : Nat) : Prop := (∃ i, decode bytes pc = .ok (.iconst i, 1) ∧ Int32.ofInt i = v ∧ pc + 1 = pc') ∨ (∃ i, decode bytes pc = .ok (.bipush i, 2) ∧ (Int8.ofInt i).toInt32 = v ∧ pc + 2 = pc') ∨ (∃ i, decode bytes pc = .ok (.sipush i, 3) ∧ (Int16.ofInt i).toInt32 = v ∧ pc + 3 = pc')
def Dlc (bytes : ByteArray) (pc : Nat) (v : Int64) (pc' : Nat) : Prop := ∃ k : Fin 2, decode bytes pc = .ok (.lconst k, 1) ∧ Int64.ofNat k = v ∧ pc + 1 = pc'
/-- a branch: where it goes on, and where it leads -/
def Db (bytes : ByteArray) (pc : Nat) (f : Int → Instr) (pc' tg : Nat) : Prop := ∃ o : Int, decode bytes pc = .ok (f o, 3) ∧ pc + 3 = pc' ∧ 0 ≤ (pc : Int) + o ∧ ((pc : Int) + o).toNat = tg
def Dld (bytes : ByteArray) (pc : Nat) (f : Nat → Instr) (fn : Fin 4 → Instr) (i pc' : Nat) : Prop := (decode bytes pc = .ok (f i, 2) ∧ pc + 2 = pc') ∨ (∃ k : Fin 4, decode bytes pc = .ok (fn k, 1) ∧ k.val = i ∧ pc + 1 = pc')
def Dinc (bytes : ByteArray) (pc i : Nat) (v : Int32) (pc' : Nat) : Prop := ∃ c : Int, decode bytes pc = .ok (.iinc i c, 3) ∧ Int32.ofInt c = v ∧ pc + 3 = pc'
/-- the same, by the instructions' sorts -/
abbrev Dil (b : ByteArray) (pc i pc' : Nat) : Prop := Dld b pc .iload .iload_n i pc'
abbrev Dal (b : ByteArray) (pc i pc' : Nat) : Prop := Dld b pc .aload .aload_n i pc'
abbrev Dll (b : ByteArray) (pc i pc' : Nat) : Prop := Dld b pc .lload .lload_n i pc'
abbrev Dis (b : ByteArray) (pc i pc' : Nat) : Prop := Dld b pc .istore .istore_n i pc'
abbrev Das (b : ByteArray) (pc i pc' : Nat) : Prop := Dld b pc .astore .astore_n i pc'
abbrev Dls (b : ByteArray) (pc i pc' : Nat) : Prop := Dld b pc .lstore .lstore_n i pc'
section Walk
variable {wd : Bool} {K₀ : State → Prop} {l : Launch} {Z : State} {R : Room} {y : MethodName} {bytes : ByteArray} {ml : Nat} {ret : Option FieldType} {n0 kc ks : Nat} {Q : Option Value → Heap → Prop} {h : Heap} {k n pc pc' tg i : Nat} {ls : List Slot} {st : List Value} {a0 : Array Value}
theorem lrem64 (x y : Int64) : x - x / y * y = x % y := by
  apply Int64.toInt_inj.mp
  have h1 := Int64.le_toInt (x % y)
  have h2 := Int64.toInt_lt (x % y)
  rw [Int64.toInt_sub, Int64.toInt_mul, Int64.toInt_div, Int.bmod_mul_bmod, Int.sub_bmod_bmod, Int.mul_comm (x.toInt.tdiv y.toInt), ← Int.tmod_def, ← Int64.toInt_mod]
  exact Int.bmod_eq_of_le_mul_two (by omega) (by omega)
theorem setl_arr : ∀ (ls : List Slot) (i : Nat) (x : Slot), (setl ls i x).toArray = ls.toArray.setIfInBounds i x := by
  intro ls i x
  rw [List.setIfInBounds_toArray]
  congr 1
  induction ls generalizing i with
  | nil => simp [setl]
  | cons a r ih => cases i with
    | zero => simp [setl]
    | succ i => simp [setl, ih]
theorem setl_len : ∀ (ls : List Slot) (i : Nat) (x : Slot), (setl ls i x).length = ls.length := by
  intro ls i x
  induction ls generalizing i with
  | nil => rfl
  | cons a r ih => cases i with
    | zero => rfl
    | succ i => simp [setl, ih]
theorem upd_set {α : Type} : ∀ (ls : List α) (i : Nat) (x : α), lupd ls i x = ls.set i x := by
  intro ls i x
  induction ls generalizing i with
  | nil => simp [lupd]
  | cons a r ih => cases i with
    | zero => simp [lupd]
    | succ i => simp [lupd, ih]
theorem setl_get {ls : List Slot} {i : Nat} {x o : Slot} (h : ls[i]? = some o) (j : Nat) : (setl ls i x)[j]? = if j = i then some x else ls[j]? := by
  induction ls generalizing i j with
  | nil => simp at h
  | cons a r ih => cases i with
    | zero => cases j <;> simp [setl]
    | succ i => cases j with
      | zero => simp [setl]
      | succ j => simp only [setl, List.getElem?_cons_succ] at h ⊢; rw [ih h j]; simp
theorem Base.mono {s0 s : State} {h' : Heap} (B : Base wd s0 s h) (q : h.size ≤ h'.size) : Base wd s0 s h' := by
  cases wd
  · exact B
  · obtain ⟨vm0, k0, e1, e2, e3⟩ := B; exact ⟨vm0, k0, e1, e2, Nat.le_trans e3 q⟩
theorem Base.start (s : State) (hh : s.heap = h) : Base wd s s h := by
  cases wd
  · exact (rfl : s = s)
  · exact ⟨s.vm, h.size, rfl, (State.WarmedH.refl s).since _, Nat.le_refl _⟩
theorem EndK.size {s0 t : State} {o : Outcome} {L : List Loc} {k n : Nat} (E : EndK wd s0 o t L k n) : s0.heap.size ≤ t.heap.size := by
  cases wd
  · exact E.2.2.2.1
  · exact E.2.2.2.2.1
theorem endK {s0 s T : State} {fs : List Frame} {v : Option Value} {L : List Loc} (B : Base wd s0 s h) (hh : T.heap = h) (hW : s.WarmedH (T.setFrames fs).vm) (hsame : s.sameButNew ({ T.setFrames fs with vm := s.vm } : State) L k n) (hk : k ≤ kc) (hn : n ≤ ks) : EndK wd s0 (.returned v) (T.setFrames fs) L kc ks := by
  cases wd
  · have e : s = s0 := B
    subst e
    exact ⟨⟨_, rfl⟩, hW, hsame.mono hk hn⟩
  · obtain ⟨vm0, k0, rfl, hS, hk0⟩ := B
    obtain ⟨a1, a2, a3⟩ := hS.ended (U := T.setFrames fs) hW (by show k0 ≤ T.heap.size; rw [hh]; exact hk0) hsame
    exact ⟨⟨_, rfl⟩, a1, a2, a3.mono hk hn⟩
theorem Ends.pre {p : Program} {e : Env} {below : List Frame} {s0 T T' : State} {g g' : JFrame} (E : Ends wd n0 kc ks Q p e below s0 T' g') (st : ∀ t, Steps p.tables e below (T'.setTop g') t → Steps p.tables e below (T.setTop g) t) : Ends wd n0 kc ks Q p e below s0 T g := by
  obtain ⟨s₂, o, h1, r⟩ := E; exact ⟨s₂, o, st _ h1, r⟩
theorem go_pure {ls' : List Slot} {st' : List Value} (G : Go wd K₀ l Z R y bytes ml ret n0 kc ks Q h k n pc' ls' st') (H : ∀ {p : Program} {e : Env} {s : State} {m : MethodId} {args : Array Value} {below : List Frame} {meth : Method} {c : Code} {T : State} {L : List Loc}, Ctx K₀ Z y bytes ml ret p s m meth c → Stand p l e R s m args below meth c T L k n →
    ∀ t, Steps p.tables e below (T.setTop (mkF m pc' ls'.toArray st')) t → Steps p.tables e below (T.setTop (mkF m pc ls.toArray st)) t) : Go wd K₀ l Z R y bytes ml ret n0 kc ks Q h k n pc ls st :=
  fun p e s0 s m args below meth c T L B C X hh N => (G p e s0 s m args below meth c T L B C X hh N).pre (H C X)
theorem go_more {k' n' : Nat} (hk : k ≤ k') (hn : n ≤ n') (G : Go wd K₀ l Z R y bytes ml ret n0 kc ks Q h k' n' pc ls st) : Go wd K₀ l Z R y bytes ml ret n0 kc ks Q h k n pc ls st :=
  fun p e s0 s m args below meth c T L B C X hh N => G p e s0 s m args below meth c T L B C (X.more hk hn) hh N
theorem go_nameI {x : Int32} (G : ∀ v : Int32, v = x → Go wd K₀ l Z R y bytes ml ret n0 kc ks Q h k n pc ls (.int v :: st)) : Go wd K₀ l Z R y bytes ml ret n0 kc ks Q h k n pc ls (.int x :: st) := G x rfl
theorem go_nameJ {x : Int64} (G : ∀ v : Int64, v = x → Go wd K₀ l Z R y bytes ml ret n0 kc ks Q h k n pc ls (.long v :: st)) : Go wd K₀ l Z R y bytes ml ret n0 kc ks Q h k n pc ls (.long x :: st) := G x rfl
theorem go_isI {x : Int32} (x' : Int32) (q : x = x') (G : Go wd K₀ l Z R y bytes ml ret n0 kc ks Q h k n pc ls (.int x' :: st)) : Go wd K₀ l Z R y bytes ml ret n0 kc ks Q h k n pc ls (.int x :: st) := q ▸ G
theorem go_isJ {x : Int64} (x' : Int64) (q : x = x') (G : Go wd K₀ l Z R y bytes ml ret n0 kc ks Q h k n pc ls (.long x' :: st)) : Go wd K₀ l Z R y bytes ml ret n0 kc ks Q h k n pc ls (.long x :: st) := q ▸ G
theorem go_iload {v : Int32} (D : Dil bytes pc i pc') (hl : ls[i]? = some (.val (.int v))) (G : Go wd K₀ l Z R y bytes ml ret n0 kc ks Q h k n pc' ls (.int v :: st)) : Go wd K₀ l Z R y bytes ml ret n0 kc ks Q h k n pc ls st := by
  rcases D with ⟨hd, rfl⟩ | ⟨kk, hd, rfl, rfl⟩
  · exact go_pure G (fun C X t => XS.iload X.here C.1 (g := mkF _ pc ls.toArray st) rfl (hb C.2.1 hd) (by simpa using hl))
  · exact go_pure G (fun C X t => XS.iloadN X.here C.1 (g := mkF _ pc ls.toArray st) rfl (hb C.2.1 hd) (by simpa using hl))
theorem go_lload {v : Int64} (D : Dll bytes pc i pc') (hl : ls[i]? = some (.val (.long v))) (G : Go wd K₀ l Z R y bytes ml ret n0 kc ks Q h k n pc' ls (.long v :: st)) : Go wd K₀ l Z R y bytes ml ret n0 kc ks Q h k n pc ls st := by
  rcases D with ⟨hd, rfl⟩ | ⟨kk, hd, rfl, rfl⟩
  · exact go_pure G (fun C X t => XT.lload X.here C.1 (g := mkF _ pc ls.toArray st) rfl (hb C.2.1 hd) (by simpa using hl))
  · exact go_pure G (fun C X t => XT.lloadN X.here C.1 (g := mkF _ pc ls.toArray st) rfl (hb C.2.1 hd) (by simpa using hl))
theorem go_aload {v : Value} (D : Dal bytes pc i pc') (hl : ls[i]? = some (.val v)) (hv : v.isRef = true) (G : Go wd K₀ l Z R y bytes ml ret n0 kc ks Q h k n pc' ls (v :: st)) : Go wd K₀ l Z R y bytes ml ret n0 kc ks Q h k n pc ls st := by
  rcases D with ⟨hd, rfl⟩ | ⟨kk, hd, rfl, rfl⟩
  · exact go_pure G (fun C X t => XS.aload X.here C.1 (g := mkF _ pc ls.toArray st) rfl (hb C.2.1 hd) (by simpa using hl) hv)
  · exact go_pure G (fun C X t => XS.aloadN X.here C.1 (g := mkF _ pc ls.toArray st) rfl (hb C.2.1 hd) (by simpa using hl) hv)
theorem store_one {ls : List Slot} {i : Nat} {v : Value} {o : Slot} (hv : v.category = 1) (hl : ls[i]? = some o) (ho : one o = true) : storeLocals ls.toArray i v = some (setl ls i (.val v)).toArray := by
  rw [setl_arr]
  refine storeLocals_cat1 (x := o) (by simpa using hl) hv ?_
  cases o <;> simp [one] at ho ⊢
  exact ho
theorem store_two {ls : List Slot} {i : Nat} {v : Value} {o o' : Slot} (hv : v.category = 2) (hl : ls[i]? = some o) (hl' : ls[i + 1]? = some o') (ho : two o o' = true) : storeLocals ls.toArray i v = some (setl (setl ls i (.val v)) (i + 1) .second).toArray := by
  rw [setl_arr, setl_arr]
  refine Jvm.Free.Fl.storeLocals_cat2 (by simpa using hl) (by simpa using hl') hv ?_
  cases o <;> cases o' <;> simp_all [two, one, Jvm.Free.Fl.Plain1]
theorem go_istore {x : Int32} {o : Slot} (D : Dis bytes pc i pc') (hl : ls[i]? = some o) (ho : one o = true) (G : Go wd K₀ l Z R y bytes ml ret n0 kc ks Q h k n pc' (setl ls i (.val (.int x))) st) : Go wd K₀ l Z R y bytes ml ret n0 kc ks Q h k n pc ls (.int x :: st) := by
  rcases D with ⟨hd, rfl⟩ | ⟨kk, hd, rfl, rfl⟩
  · exact go_pure G (fun C X t => XS.istore X.here C.1 (g := mkF _ pc ls.toArray (.int x :: st)) rfl (hb C.2.1 hd) rfl (store_one rfl hl ho))
  · exact go_pure G (fun C X t => XS.istoreN X.here C.1 (g := mkF _ pc ls.toArray (.int x :: st)) rfl (hb C.2.1 hd) rfl (store_one rfl hl ho))
theorem go_astore {x : Value} {o : Slot} (D : Das bytes pc i pc') (hv : x.isRef = true) (hl : ls[i]? = some o) (ho : one o = true) (G : Go wd K₀ l Z R y bytes ml ret n0 kc ks Q h k n pc' (setl ls i (.val x)) st) : Go wd K₀ l Z R y bytes ml ret n0 kc ks Q h k n pc ls (x :: st) := by
  have hc : x.category = 1 := XT.cat1 hv
  rcases D with ⟨hd, rfl⟩ | ⟨kk, hd, rfl, rfl⟩
  · exact go_pure G (fun C X t => XS.astore X.here C.1 (g := mkF _ pc ls.toArray (x :: st)) rfl (hb C.2.1 hd) rfl hv (store_one hc hl ho))
  · exact go_pure G (fun C X t => XS.astoreN X.here C.1 (g := mkF _ pc ls.toArray (x :: st)) rfl (hb C.2.1 hd) rfl hv (store_one hc hl ho))
theorem go_lstore {x : Int64} {o o' : Slot} (D : Dls bytes pc i pc') (hl : ls[i]? = some o) (hl' : ls[i + 1]? = some o') (ho : two o o' = true) (G : Go wd K₀ l Z R y bytes ml ret n0 kc ks Q h k n pc' (setl (setl ls i (.val (.long x))) (i + 1) .second) st) : Go wd K₀ l Z R y bytes ml ret n0 kc ks Q h k n pc ls (.long x :: st) := by
  rcases D with ⟨hd, rfl⟩ | ⟨kk, hd, rfl, rfl⟩
  · exact go_pure G (fun C X t => XT.lstore X.here C.1 (g := mkF _ pc ls.toArray (.long x :: st)) rfl (hb C.2.1 hd) rfl (store_two rfl hl hl' ho))
  · exact go_pure G (fun C X t => XT.lstoreN X.here C.1 (g := mkF _ pc ls.toArray (.long x :: st)) rfl (hb C.2.1 hd) rfl (store_two rfl hl hl' ho))
/-- any store, the locals said -/
theorem go_istoreX {x : Int32} {ls' : List Slot} (D : Dis bytes pc i pc') (hl : storeLocals ls.toArray i (.int x) = some ls'.toArray) (G : Go wd K₀ l Z R y bytes ml ret n0 kc ks Q h k n pc' ls' st) : Go wd K₀ l Z R y bytes ml ret n0 kc ks Q h k n pc ls (.int x :: st) := by
  rcases D with ⟨hd, rfl⟩ | ⟨kk, hd, rfl, rfl⟩
  · exact go_pure G (fun C X t => XS.istore X.here C.1 (g := mkF _ pc ls.toArray (.int x :: st)) rfl (hb C.2.1 hd) rfl hl)
  · exact go_pure G (fun C X t => XS.istoreN X.here C.1 (g := mkF _ pc ls.toArray (.int x :: st)) rfl (hb C.2.1 hd) rfl hl)
theorem go_astoreX {x : Value} {ls' : List Slot} (D : Das bytes pc i pc') (hv : x.isRef = true) (hl : storeLocals ls.toArray i x = some ls'.toArray) (G : Go wd K₀ l Z R y bytes ml ret n0 kc ks Q h k n pc' ls' st) : Go wd K₀ l Z R y bytes ml ret n0 kc ks Q h k n pc ls (x :: st) := by
  rcases D with ⟨hd, rfl⟩ | ⟨kk, hd, rfl, rfl⟩
  · exact go_pure G (fun C X t => XS.astore X.here C.1 (g := mkF _ pc ls.toArray (x :: st)) rfl (hb C.2.1 hd) rfl hv hl)
  · exact go_pure G (fun C X t => XS.astoreN X.here C.1 (g := mkF _ pc ls.toArray (x :: st)) rfl (hb C.2.1 hd) rfl hv hl)
theorem go_lstoreX {x : Int64} {ls' : List Slot} (D : Dls bytes pc i pc') (hl : storeLocals ls.toArray i (.long x) = some ls'.toArray) (G : Go wd K₀ l Z R y bytes ml ret n0 kc ks Q h k n pc' ls' st) : Go wd K₀ l Z R y bytes ml ret n0 kc ks Q h k n pc ls (.long x :: st) := by
  rcases D with ⟨hd, rfl⟩ | ⟨kk, hd, rfl, rfl⟩
  · exact go_pure G (fun C X t => XT.lstore X.here C.1 (g := mkF _ pc ls.toArray (.long x :: st)) rfl (hb C.2.1 hd) rfl hl)
  · exact go_pure G (fun C X t => XT.lstoreN X.here C.1 (g := mkF _ pc ls.toArray (.long x :: st)) rfl (hb C.2.1 hd) rfl hl)
theorem go_iinc {x v : Int32} (D : Dinc bytes pc i v pc') (hl : ls[i]? = some (.val (.int x))) (G : Go wd K₀ l Z R y bytes ml ret n0 kc ks Q h k n pc' (setl ls i (.val (.int (x + v)))) st) : Go wd K₀ l Z R y bytes ml ret n0 kc ks Q h k n pc ls st := by
  obtain ⟨c, hd, rfl, rfl⟩ := D
  exact go_pure G (fun C X t => XS.iinc X.here C.1 (g := mkF _ pc ls.toArray st) rfl (hb C.2.1 hd) (by simpa using hl) (store_one rfl hl rfl))
theorem go_iincX {x v x' : Int32} (D : Dinc bytes pc i v pc') (hl : ls[i]? = some (.val (.int x))) (q : x + v = x') (G : Go wd K₀ l Z R y bytes ml ret n0 kc ks Q h k n pc' (setl ls i (.val (.int x'))) st) : Go wd K₀ l Z R y bytes ml ret n0 kc ks Q h k n pc ls st := go_iinc D hl (q ▸ G)
theorem go_push {v : Int32} (D : Dp bytes pc v pc') (G : Go wd K₀ l Z R y bytes ml ret n0 kc ks Q h k n pc' ls (.int v :: st)) : Go wd K₀ l Z R y bytes ml ret n0 kc ks Q h k n pc ls st := by
  rcases D with ⟨_, hd, rfl, rfl⟩ | ⟨_, hd, rfl, rfl⟩ | ⟨_, hd, rfl, rfl⟩
  · exact go_pure G (fun C X t => XS.iconst X.here C.1 (g := mkF _ pc ls.toArray st) rfl (hb C.2.1 hd))
  · exact go_pure G (fun C X t => XS.bipush X.here C.1 (g := mkF _ pc ls.toArray st) rfl (hb C.2.1 hd))
  · exact go_pure G (fun C X t => XS.sipush X.here C.1 (g := mkF _ pc ls.toArray st) rfl (hb C.2.1 hd))
theorem go_lconst {v : Int64} (D : Dlc bytes pc v pc') (G : Go wd K₀ l Z R y bytes ml ret n0 kc ks Q h k n pc' ls (.long v :: st)) : Go wd K₀ l Z R y bytes ml ret n0 kc ks Q h k n pc ls st := by
  obtain ⟨_, hd, rfl, rfl⟩ := D
  exact go_pure G (fun C X t => XT.lconst X.here C.1 (g := mkF _ pc ls.toArray st) rfl (hb C.2.1 hd))
theorem go_null (D : Dc bytes pc .aconst_null 1 pc') (G : Go wd K₀ l Z R y bytes ml ret n0 kc ks Q h k n pc' ls (.null :: st)) : Go wd K₀ l Z R y bytes ml ret n0 kc ks Q h k n pc ls st := by
  obtain ⟨hd, rfl⟩ := D
  exact go_pure G (fun C X t => XS.aconstNull X.here C.1 (g := mkF _ pc ls.toArray st) rfl (hb C.2.1 hd))
theorem go_iadd {a : Int32} {b : Int32} (D : Dc bytes pc .iadd 1 pc') (G : Go wd K₀ l Z R y bytes ml ret n0 kc ks Q h k n pc' ls (.int (a + b) :: st)) : Go wd K₀ l Z R y bytes ml ret n0 kc ks Q h k n pc ls (.int b :: .int a :: st) := by
  obtain ⟨hd, rfl⟩ := D
  exact go_pure G (fun C X t => XS.iadd X.here C.1 (g := mkF _ pc ls.toArray (.int b :: .int a :: st)) rfl (hb C.2.1 hd) rfl)
theorem go_isub {a : Int32} {b : Int32} (D : Dc bytes pc .isub 1 pc') (G : Go wd K₀ l Z R y bytes ml ret n0 kc ks Q h k n pc' ls (.int (a - b) :: st)) : Go wd K₀ l Z R y bytes ml ret n0 kc ks Q h k n pc ls (.int b :: .int a :: st) := by
  obtain ⟨hd, rfl⟩ := D
  exact go_pure G (fun C X t => XS.isub X.here C.1 (g := mkF _ pc ls.toArray (.int b :: .int a :: st)) rfl (hb C.2.1 hd) rfl)
theorem go_imul {a : Int32} {b : Int32} (D : Dc bytes pc .imul 1 pc') (G : Go wd K₀ l Z R y bytes ml ret n0 kc ks Q h k n pc' ls (.int (a * b) :: st)) : Go wd K₀ l Z R y bytes ml ret n0 kc ks Q h k n pc ls (.int b :: .int a :: st) := by
  obtain ⟨hd, rfl⟩ := D
  exact go_pure G (fun C X t => XS.imul X.here C.1 (g := mkF _ pc ls.toArray (.int b :: .int a :: st)) rfl (hb C.2.1 hd) rfl)
theorem go_iand {a : Int32} {b : Int32} (D : Dc bytes pc .iand 1 pc') (G : Go wd K₀ l Z R y bytes ml ret n0 kc ks Q h k n pc' ls (.int (a &&& b) :: st)) : Go wd K₀ l Z R y bytes ml ret n0 kc ks Q h k n pc ls (.int b :: .int a :: st) := by
  obtain ⟨hd, rfl⟩ := D
  exact go_pure G (fun C X t => XS.iand X.here C.1 (g := mkF _ pc ls.toArray (.int b :: .int a :: st)) rfl (hb C.2.1 hd) rfl)
theorem go_ior {a : Int32} {b : Int32} (D : Dc bytes pc .ior 1 pc') (G : Go wd K₀ l Z R y bytes ml ret n0 kc ks Q h k n pc' ls (.int (a ||| b) :: st)) : Go wd K₀ l Z R y bytes ml ret n0 kc ks Q h k n pc ls (.int b :: .int a :: st) := by
  obtain ⟨hd, rfl⟩ := D
  exact go_pure G (fun C X t => XT.ior X.here C.1 (g := mkF _ pc ls.toArray (.int b :: .int a :: st)) rfl (hb C.2.1 hd) rfl)
theorem go_ixor {a : Int32} {b : Int32} (D : Dc bytes pc .ixor 1 pc') (G : Go wd K₀ l Z R y bytes ml ret n0 kc ks Q h k n pc' ls (.int (a ^^^ b) :: st)) : Go wd K₀ l Z R y bytes ml ret n0 kc ks Q h k n pc ls (.int b :: .int a :: st) := by
  obtain ⟨hd, rfl⟩ := D
  exact go_pure G (fun C X t => XT.ixor X.here C.1 (g := mkF _ pc ls.toArray (.int b :: .int a :: st)) rfl (hb C.2.1 hd) rfl)
theorem go_idiv {a : Int32} {b : Int32} (D : Dc bytes pc .idiv 1 pc') (hz : b ≠ 0) (G : Go wd K₀ l Z R y bytes ml ret n0 kc ks Q h k n pc' ls (.int (a / b) :: st)) : Go wd K₀ l Z R y bytes ml ret n0 kc ks Q h k n pc ls (.int b :: .int a :: st) := by
  obtain ⟨hd, rfl⟩ := D
  exact go_pure G (fun C X t => XS.idiv X.here C.1 (g := mkF _ pc ls.toArray (.int b :: .int a :: st)) rfl (hb C.2.1 hd) rfl hz)
theorem go_ladd {a : Int64} {b : Int64} (D : Dc bytes pc .ladd 1 pc') (G : Go wd K₀ l Z R y bytes ml ret n0 kc ks Q h k n pc' ls (.long (a + b) :: st)) : Go wd K₀ l Z R y bytes ml ret n0 kc ks Q h k n pc ls (.long b :: .long a :: st) := by
  obtain ⟨hd, rfl⟩ := D
  exact go_pure G (fun C X t => XT.ladd X.here C.1 (g := mkF _ pc ls.toArray (.long b :: .long a :: st)) rfl (hb C.2.1 hd) rfl)
theorem go_lsub {a : Int64} {b : Int64} (D : Dc bytes pc .lsub 1 pc') (G : Go wd K₀ l Z R y bytes ml ret n0 kc ks Q h k n pc' ls (.long (a - b) :: st)) : Go wd K₀ l Z R y bytes ml ret n0 kc ks Q h k n pc ls (.long b :: .long a :: st) := by
  obtain ⟨hd, rfl⟩ := D
  exact go_pure G (fun C X t => XT.lsub X.here C.1 (g := mkF _ pc ls.toArray (.long b :: .long a :: st)) rfl (hb C.2.1 hd) rfl)
theorem go_lmul {a : Int64} {b : Int64} (D : Dc bytes pc .lmul 1 pc') (G : Go wd K₀ l Z R y bytes ml ret n0 kc ks Q h k n pc' ls (.long (a * b) :: st)) : Go wd K₀ l Z R y bytes ml ret n0 kc ks Q h k n pc ls (.long b :: .long a :: st) := by
  obtain ⟨hd, rfl⟩ := D
  exact go_pure G (fun C X t => XT.lmul X.here C.1 (g := mkF _ pc ls.toArray (.long b :: .long a :: st)) rfl (hb C.2.1 hd) rfl)
theorem go_land {a : Int64} {b : Int64} (D : Dc bytes pc .land 1 pc') (G : Go wd K₀ l Z R y bytes ml ret n0 kc ks Q h k n pc' ls (.long (a &&& b) :: st)) : Go wd K₀ l Z R y bytes ml ret n0 kc ks Q h k n pc ls (.long b :: .long a :: st) := by
  obtain ⟨hd, rfl⟩ := D
  exact go_pure G (fun C X t => XT.land X.here C.1 (g := mkF _ pc ls.toArray (.long b :: .long a :: st)) rfl (hb C.2.1 hd) rfl)
theorem go_lor {a : Int64} {b : Int64} (D : Dc bytes pc .lor 1 pc') (G : Go wd K₀ l Z R y bytes ml ret n0 kc ks Q h k n pc' ls (.long (a ||| b) :: st)) : Go wd K₀ l Z R y bytes ml ret n0 kc ks Q h k n pc ls (.long b :: .long a :: st) := by
  obtain ⟨hd, rfl⟩ := D
  exact go_pure G (fun C X t => XT.lor X.here C.1 (g := mkF _ pc ls.toArray (.long b :: .long a :: st)) rfl (hb C.2.1 hd) rfl)
theorem go_lxor {a : Int64} {b : Int64} (D : Dc bytes pc .lxor 1 pc') (G : Go wd K₀ l Z R y bytes ml ret n0 kc ks Q h k n pc' ls (.long (a ^^^ b) :: st)) : Go wd K₀ l Z R y bytes ml ret n0 kc ks Q h k n pc ls (.long b :: .long a :: st) := by
  obtain ⟨hd, rfl⟩ := D
  exact go_pure G (fun C X t => XT.lxor X.here C.1 (g := mkF _ pc ls.toArray (.long b :: .long a :: st)) rfl (hb C.2.1 hd) rfl)
theorem go_ldiv {a : Int64} {b : Int64} (D : Dc bytes pc .ldiv 1 pc') (hz : b ≠ 0) (G : Go wd K₀ l Z R y bytes ml ret n0 kc ks Q h k n pc' ls (.long (a / b) :: st)) : Go wd K₀ l Z R y bytes ml ret n0 kc ks Q h k n pc ls (.long b :: .long a :: st) := by
  obtain ⟨hd, rfl⟩ := D
  exact go_pure G (fun C X t => XT.ldiv X.here C.1 (g := mkF _ pc ls.toArray (.long b :: .long a :: st)) rfl (hb C.2.1 hd) rfl hz)
theorem go_ishl {a : Int32} {b : Int32} (D : Dc bytes pc .ishl 1 pc') (G : Go wd K₀ l Z R y bytes ml ret n0 kc ks Q h k n pc' ls (.int (a <<< (b &&& 31)) :: st)) : Go wd K₀ l Z R y bytes ml ret n0 kc ks Q h k n pc ls (.int b :: .int a :: st) := by
  obtain ⟨hd, rfl⟩ := D
  exact go_pure G (fun C X t => XT.ishl X.here C.1 (g := mkF _ pc ls.toArray (.int b :: .int a :: st)) rfl (hb C.2.1 hd) rfl)
theorem go_ishr {a : Int32} {b : Int32} (D : Dc bytes pc .ishr 1 pc') (G : Go wd K₀ l Z R y bytes ml ret n0 kc ks Q h k n pc' ls (.int (a >>> (b &&& 31)) :: st)) : Go wd K₀ l Z R y bytes ml ret n0 kc ks Q h k n pc ls (.int b :: .int a :: st) := by
  obtain ⟨hd, rfl⟩ := D
  exact go_pure G (fun C X t => XT.ishr X.here C.1 (g := mkF _ pc ls.toArray (.int b :: .int a :: st)) rfl (hb C.2.1 hd) rfl)
theorem go_iushr {a : Int32} {b : Int32} (D : Dc bytes pc .iushr 1 pc') (G : Go wd K₀ l Z R y bytes ml ret n0 kc ks Q h k n pc' ls (.int (XT.ushr a b) :: st)) : Go wd K₀ l Z R y bytes ml ret n0 kc ks Q h k n pc ls (.int b :: .int a :: st) := by
  obtain ⟨hd, rfl⟩ := D
  exact go_pure G (fun C X t => XT.iushr X.here C.1 (g := mkF _ pc ls.toArray (.int b :: .int a :: st)) rfl (hb C.2.1 hd) rfl)
theorem go_lshl {a : Int64} {b : Int32} (D : Dc bytes pc .lshl 1 pc') (G : Go wd K₀ l Z R y bytes ml ret n0 kc ks Q h k n pc' ls (.long (a <<< (b.toInt64 &&& 63)) :: st)) : Go wd K₀ l Z R y bytes ml ret n0 kc ks Q h k n pc ls (.int b :: .long a :: st) := by
  obtain ⟨hd, rfl⟩ := D
  exact go_pure G (fun C X t => XT.lshl X.here C.1 (g := mkF _ pc ls.toArray (.int b :: .long a :: st)) rfl (hb C.2.1 hd) rfl)
theorem go_lshr {a : Int64} {b : Int32} (D : Dc bytes pc .lshr 1 pc') (G : Go wd K₀ l Z R y bytes ml ret n0 kc ks Q h k n pc' ls (.long (a >>> (b.toInt64 &&& 63)) :: st)) : Go wd K₀ l Z R y bytes ml ret n0 kc ks Q h k n pc ls (.int b :: .long a :: st) := by
  obtain ⟨hd, rfl⟩ := D
  exact go_pure G (fun C X t => XT.lshr X.here C.1 (g := mkF _ pc ls.toArray (.int b :: .long a :: st)) rfl (hb C.2.1 hd) rfl)
theorem go_lushr {a : Int64} {b : Int32} (D : Dc bytes pc .lushr 1 pc') (G : Go wd K₀ l Z R y bytes ml ret n0 kc ks Q h k n pc' ls (.long (XT.ushrL a b) :: st)) : Go wd K₀ l Z R y bytes ml ret n0 kc ks Q h k n pc ls (.int b :: .long a :: st) := by
  obtain ⟨hd, rfl⟩ := D
  exact go_pure G (fun C X t => XT.lushr X.here C.1 (g := mkF _ pc ls.toArray (.int b :: .long a :: st)) rfl (hb C.2.1 hd) rfl)
theorem go_lcmp {a : Int64} {b : Int64} (D : Dc bytes pc .lcmp 1 pc') (G : Go wd K₀ l Z R y bytes ml ret n0 kc ks Q h k n pc' ls (.int (XT.cmpL a b) :: st)) : Go wd K₀ l Z R y bytes ml ret n0 kc ks Q h k n pc ls (.long b :: .long a :: st) := by
  obtain ⟨hd, rfl⟩ := D
  exact go_pure G (fun C X t => XT.lcmp X.here C.1 (g := mkF _ pc ls.toArray (.long b :: .long a :: st)) rfl (hb C.2.1 hd) rfl)
theorem go_irem {a b : Int32} (D : Dc bytes pc .irem 1 pc') (hz : b ≠ 0) (G : Go wd K₀ l Z R y bytes ml ret n0 kc ks Q h k n pc' ls (.int (a % b) :: st)) : Go wd K₀ l Z R y bytes ml ret n0 kc ks Q h k n pc ls (.int b :: .int a :: st) := by
  obtain ⟨hd, rfl⟩ := D
  exact go_pure G (fun C X t hr => iremM X C.1 (g := mkF _ pc ls.toArray (.int b :: .int a :: st)) rfl (hb C.2.1 hd) rfl hz hr)
theorem go_lrem {a b : Int64} (D : Dc bytes pc .lrem 1 pc') (hz : b ≠ 0) (G : Go wd K₀ l Z R y bytes ml ret n0 kc ks Q h k n pc' ls (.long (a % b) :: st)) : Go wd K₀ l Z R y bytes ml ret n0 kc ks Q h k n pc ls (.long b :: .long a :: st) := by
  obtain ⟨hd, rfl⟩ := D
  rw [← lrem64] at G
  exact go_pure G (fun C X t => XT.lrem X.here C.1 (g := mkF _ pc ls.toArray (.long b :: .long a :: st)) rfl (hb C.2.1 hd) rfl hz)
theorem go_ineg {a : Int32} (D : Dc bytes pc .ineg 1 pc') (G : Go wd K₀ l Z R y bytes ml ret n0 kc ks Q h k n pc' ls (.int (-a) :: st)) : Go wd K₀ l Z R y bytes ml ret n0 kc ks Q h k n pc ls (.int a :: st) := by
  obtain ⟨hd, rfl⟩ := D
  exact go_pure G (fun C X t => XS.ineg X.here C.1 (g := mkF _ pc ls.toArray (.int a :: st)) rfl (hb C.2.1 hd) rfl)
theorem go_lneg {a : Int64} (D : Dc bytes pc .lneg 1 pc') (G : Go wd K₀ l Z R y bytes ml ret n0 kc ks Q h k n pc' ls (.long (-a) :: st)) : Go wd K₀ l Z R y bytes ml ret n0 kc ks Q h k n pc ls (.long a :: st) := by
  obtain ⟨hd, rfl⟩ := D
  exact go_pure G (fun C X t => XT.lneg X.here C.1 (g := mkF _ pc ls.toArray (.long a :: st)) rfl (hb C.2.1 hd) rfl)
theorem go_i2l {a : Int32} (D : Dc bytes pc .i2l 1 pc') (G : Go wd K₀ l Z R y bytes ml ret n0 kc ks Q h k n pc' ls (.long a.toInt64 :: st)) : Go wd K₀ l Z R y bytes ml ret n0 kc ks Q h k n pc ls (.int a :: st) := by
  obtain ⟨hd, rfl⟩ := D
  exact go_pure G (fun C X t => XT.i2l X.here C.1 (g := mkF _ pc ls.toArray (.int a :: st)) rfl (hb C.2.1 hd) rfl)
theorem go_l2i {a : Int64} (D : Dc bytes pc .l2i 1 pc') (G : Go wd K₀ l Z R y bytes ml ret n0 kc ks Q h k n pc' ls (.int a.toInt32 :: st)) : Go wd K₀ l Z R y bytes ml ret n0 kc ks Q h k n pc ls (.long a :: st) := by
  obtain ⟨hd, rfl⟩ := D
  exact go_pure G (fun C X t => XT.l2i X.here C.1 (g := mkF _ pc ls.toArray (.long a :: st)) rfl (hb C.2.1 hd) rfl)
theorem go_i2b {a : Int32} (D : Dc bytes pc .i2b 1 pc') (G : Go wd K₀ l Z R y bytes ml ret n0 kc ks Q h k n pc' ls (.int a.toInt8.toInt32 :: st)) : Go wd K₀ l Z R y bytes ml ret n0 kc ks Q h k n pc ls (.int a :: st) := by
  obtain ⟨hd, rfl⟩ := D
  exact go_pure G (fun C X t => XT.i2b X.here C.1 (g := mkF _ pc ls.toArray (.int a :: st)) rfl (hb C.2.1 hd) rfl)
theorem go_i2s {a : Int32} (D : Dc bytes pc .i2s 1 pc') (G : Go wd K₀ l Z R y bytes ml ret n0 kc ks Q h k n pc' ls (.int a.toInt16.toInt32 :: st)) : Go wd K₀ l Z R y bytes ml ret n0 kc ks Q h k n pc ls (.int a :: st) := by
  obtain ⟨hd, rfl⟩ := D
  exact go_pure G (fun C X t => XT.i2s X.here C.1 (g := mkF _ pc ls.toArray (.int a :: st)) rfl (hb C.2.1 hd) rfl)
theorem go_i2c {a : Int32} (D : Dc bytes pc .i2c 1 pc') (G : Go wd K₀ l Z R y bytes ml ret n0 kc ks Q h k n pc' ls (.int a.toUInt32.toUInt16.toUInt32.toInt32 :: st)) : Go wd K₀ l Z R y bytes ml ret n0 kc ks Q h k n pc ls (.int a :: st) := by
  obtain ⟨hd, rfl⟩ := D
  exact go_pure G (fun C X t => XT.i2c X.here C.1 (g := mkF _ pc ls.toArray (.int a :: st)) rfl (hb C.2.1 hd) rfl)
theorem go_dup {v : Value} (D : Dc bytes pc .dup 1 pc') (hv : v.category = 1) (G : Go wd K₀ l Z R y bytes ml ret n0 kc ks Q h k n pc' ls (v :: v :: st)) : Go wd K₀ l Z R y bytes ml ret n0 kc ks Q h k n pc ls (v :: st) := by
  obtain ⟨hd, rfl⟩ := D
  exact go_pure G (fun C X t => XS.dup X.here C.1 (g := mkF _ pc ls.toArray (v :: st)) rfl (hb C.2.1 hd) rfl hv)
theorem go_pop {v : Value} (D : Dc bytes pc .pop 1 pc') (hv : v.category = 1) (G : Go wd K₀ l Z R y bytes ml ret n0 kc ks Q h k n pc' ls st) : Go wd K₀ l Z R y bytes ml ret n0 kc ks Q h k n pc ls (v :: st) := by
  obtain ⟨hd, rfl⟩ := D
  exact go_pure G (fun C X t => XT.pop X.here C.1 (g := mkF _ pc ls.toArray (v :: st)) rfl (hb C.2.1 hd) rfl hv)
theorem go_dupx1 {v w : Value} (D : Dc bytes pc .dup_x1 1 pc') (hv : v.category = 1) (hw : w.category = 1) (G : Go wd K₀ l Z R y bytes ml ret n0 kc ks Q h k n pc' ls (v :: w :: v :: st)) : Go wd K₀ l Z R y bytes ml ret n0 kc ks Q h k n pc ls (v :: w :: st) := by
  obtain ⟨hd, rfl⟩ := D
  exact go_pure G (fun C X t => XT.dupX1 X.here C.1 (g := mkF _ pc ls.toArray (v :: w :: st)) rfl (hb C.2.1 hd) rfl hv hw)
theorem go_dup2 {v w : Value} (D : Dc bytes pc .dup2 1 pc') (hv : v.category = 1) (hw : w.category = 1) (G : Go wd K₀ l Z R y bytes ml ret n0 kc ks Q h k n pc' ls (v :: w :: v :: w :: st)) : Go wd K₀ l Z R y bytes ml ret n0 kc ks Q h k n pc ls (v :: w :: st) := by
  obtain ⟨hd, rfl⟩ := D
  exact go_pure G (fun C X t => XT.dup2 X.here C.1 (g := mkF _ pc ls.toArray (v :: w :: st)) rfl (hb C.2.1 hd) rfl hv hw)
theorem go_dup2L {v : Int64} (D : Dc bytes pc .dup2 1 pc') (G : Go wd K₀ l Z R y bytes ml ret n0 kc ks Q h k n pc' ls (.long v :: .long v :: st)) : Go wd K₀ l Z R y bytes ml ret n0 kc ks Q h k n pc ls (.long v :: st) := by
  obtain ⟨hd, rfl⟩ := D
  exact go_pure G (fun C X t => XT.dup2L X.here C.1 (g := mkF _ pc ls.toArray (.long v :: st)) rfl (hb C.2.1 hd) rfl)
theorem go_goto (D : Db bytes pc .goto pc' tg) (G : Go wd K₀ l Z R y bytes ml ret n0 kc ks Q h k n tg ls st) : Go wd K₀ l Z R y bytes ml ret n0 kc ks Q h k n pc ls st := by
  obtain ⟨o, hd, rfl, ho, hp⟩ := D
  exact go_pure G (fun C X t => XS.goto X.here C.1 (g := mkF _ pc ls.toArray st) rfl (pc0 := pc) rfl (hb C.2.1 hd) ho hp)
theorem go_icmp_eq {a b : Int32} (D : Db bytes pc (.if_icmp .eq) pc' tg) (G1 : a = b → Go wd K₀ l Z R y bytes ml ret n0 kc ks Q h k n tg ls st) (G2 : ¬ a = b → Go wd K₀ l Z R y bytes ml ret n0 kc ks Q h k n pc' ls st) : Go wd K₀ l Z R y bytes ml ret n0 kc ks Q h k n pc ls (.int b :: .int a :: st) := by
  obtain ⟨o, hd, rfl, ho, hp⟩ := D
  by_cases q : a = b
  · exact go_pure (G1 q) (fun C X t => XS.icmpYes X.here C.1 (g := mkF _ pc ls.toArray (.int b :: .int a :: st)) rfl (pc0 := pc) rfl (hb C.2.1 hd) rfl (XT.ii_eq_t q) ho hp)
  · exact go_pure (G2 q) (fun C X t => XS.icmpNo X.here C.1 (g := mkF _ pc ls.toArray (.int b :: .int a :: st)) rfl (hb C.2.1 hd) rfl (XT.ii_eq_f q))
theorem go_if_eq {a : Int32} (D : Db bytes pc (.ifCond .eq) pc' tg) (G1 : a = 0 → Go wd K₀ l Z R y bytes ml ret n0 kc ks Q h k n tg ls st) (G2 : ¬ a = 0 → Go wd K₀ l Z R y bytes ml ret n0 kc ks Q h k n pc' ls st) : Go wd K₀ l Z R y bytes ml ret n0 kc ks Q h k n pc ls (.int a :: st) := by
  obtain ⟨o, hd, rfl, ho, hp⟩ := D
  by_cases q : a = 0
  · exact go_pure (G1 q) (fun C X t => XS.ifYes X.here C.1 (g := mkF _ pc ls.toArray (.int a :: st)) rfl (pc0 := pc) rfl (hb C.2.1 hd) rfl (XT.i0_eq_t q) ho hp)
  · exact go_pure (G2 q) (fun C X t => XS.ifNo X.here C.1 (g := mkF _ pc ls.toArray (.int a :: st)) rfl (hb C.2.1 hd) rfl (XT.i0_eq_f q))
theorem go_lc_eq {a b : Int64} (D : Db bytes pc (.ifCond .eq) pc' tg) (G1 : a = b → Go wd K₀ l Z R y bytes ml ret n0 kc ks Q h k n tg ls st) (G2 : ¬ a = b → Go wd K₀ l Z R y bytes ml ret n0 kc ks Q h k n pc' ls st) : Go wd K₀ l Z R y bytes ml ret n0 kc ks Q h k n pc ls (.int (XT.cmpL a b) :: st) := by
  obtain ⟨o, hd, rfl, ho, hp⟩ := D
  by_cases q : a = b
  · exact go_pure (G1 q) (fun C X t => XS.ifYes X.here C.1 (g := mkF _ pc ls.toArray (.int (XT.cmpL a b) :: st)) rfl (pc0 := pc) rfl (hb C.2.1 hd) rfl (XT.ll_eq_t q) ho hp)
  · exact go_pure (G2 q) (fun C X t => XS.ifNo X.here C.1 (g := mkF _ pc ls.toArray (.int (XT.cmpL a b) :: st)) rfl (hb C.2.1 hd) rfl (XT.ll_eq_f q))
theorem go_icmp_ne {a b : Int32} (D : Db bytes pc (.if_icmp .ne) pc' tg) (G1 : ¬ a = b → Go wd K₀ l Z R y bytes ml ret n0 kc ks Q h k n tg ls st) (G2 : a = b → Go wd K₀ l Z R y bytes ml ret n0 kc ks Q h k n pc' ls st) : Go wd K₀ l Z R y bytes ml ret n0 kc ks Q h k n pc ls (.int b :: .int a :: st) := by
  obtain ⟨o, hd, rfl, ho, hp⟩ := D
  by_cases q : a = b
  · exact go_pure (G2 q) (fun C X t => XS.icmpNo X.here C.1 (g := mkF _ pc ls.toArray (.int b :: .int a :: st)) rfl (hb C.2.1 hd) rfl (XT.ii_ne_f q))
  · exact go_pure (G1 q) (fun C X t => XS.icmpYes X.here C.1 (g := mkF _ pc ls.toArray (.int b :: .int a :: st)) rfl (pc0 := pc) rfl (hb C.2.1 hd) rfl (XT.ii_ne_t q) ho hp)
theorem go_if_ne {a : Int32} (D : Db bytes pc (.ifCond .ne) pc' tg) (G1 : ¬ a = 0 → Go wd K₀ l Z R y bytes ml ret n0 kc ks Q h k n tg ls st) (G2 : a = 0 → Go wd K₀ l Z R y bytes ml ret n0 kc ks Q h k n pc' ls st) : Go wd K₀ l Z R y bytes ml ret n0 kc ks Q h k n pc ls (.int a :: st) := by
  obtain ⟨o, hd, rfl, ho, hp⟩ := D
  by_cases q : a = 0
  · exact go_pure (G2 q) (fun C X t => XS.ifNo X.here C.1 (g := mkF _ pc ls.toArray (.int a :: st)) rfl (hb C.2.1 hd) rfl (XT.i0_ne_f q))
  · exact go_pure (G1 q) (fun C X t => XS.ifYes X.here C.1 (g := mkF _ pc ls.toArray (.int a :: st)) rfl (pc0 := pc) rfl (hb C.2.1 hd) rfl (XT.i0_ne_t q) ho hp)
theorem go_lc_ne {a b : Int64} (D : Db bytes pc (.ifCond .ne) pc' tg) (G1 : ¬ a = b → Go wd K₀ l Z R y bytes ml ret n0 kc ks Q h k n tg ls st) (G2 : a = b → Go wd K₀ l Z R y bytes ml ret n0 kc ks Q h k n pc' ls st) : Go wd K₀ l Z R y bytes ml ret n0 kc ks Q h k n pc ls (.int (XT.cmpL a b) :: st) := by
  obtain ⟨o, hd, rfl, ho, hp⟩ := D
  by_cases q : a = b
  · exact go_pure (G2 q) (fun C X t => XS.ifNo X.here C.1 (g := mkF _ pc ls.toArray (.int (XT.cmpL a b) :: st)) rfl (hb C.2.1 hd) rfl (XT.ll_ne_f q))
  · exact go_pure (G1 q) (fun C X t => XS.ifYes X.here C.1 (g := mkF _ pc ls.toArray (.int (XT.cmpL a b) :: st)) rfl (pc0 := pc) rfl (hb C.2.1 hd) rfl (XT.ll_ne_t q) ho hp)
theorem go_icmp_lt {a b : Int32} (D : Db bytes pc (.if_icmp .lt) pc' tg) (G1 : a < b → Go wd K₀ l Z R y bytes ml ret n0 kc ks Q h k n tg ls st) (G2 : ¬ a < b → Go wd K₀ l Z R y bytes ml ret n0 kc ks Q h k n pc' ls st) : Go wd K₀ l Z R y bytes ml ret n0 kc ks Q h k n pc ls (.int b :: .int a :: st) := by
  obtain ⟨o, hd, rfl, ho, hp⟩ := D
  by_cases q : a < b
  · exact go_pure (G1 q) (fun C X t => XS.icmpYes X.here C.1 (g := mkF _ pc ls.toArray (.int b :: .int a :: st)) rfl (pc0 := pc) rfl (hb C.2.1 hd) rfl (XT.ii_lt_t q) ho hp)
  · exact go_pure (G2 q) (fun C X t => XS.icmpNo X.here C.1 (g := mkF _ pc ls.toArray (.int b :: .int a :: st)) rfl (hb C.2.1 hd) rfl (XT.ii_lt_f q))
theorem go_if_lt {a : Int32} (D : Db bytes pc (.ifCond .lt) pc' tg) (G1 : a < 0 → Go wd K₀ l Z R y bytes ml ret n0 kc ks Q h k n tg ls st) (G2 : ¬ a < 0 → Go wd K₀ l Z R y bytes ml ret n0 kc ks Q h k n pc' ls st) : Go wd K₀ l Z R y bytes ml ret n0 kc ks Q h k n pc ls (.int a :: st) := by
  obtain ⟨o, hd, rfl, ho, hp⟩ := D
  by_cases q : a < 0
  · exact go_pure (G1 q) (fun C X t => XS.ifYes X.here C.1 (g := mkF _ pc ls.toArray (.int a :: st)) rfl (pc0 := pc) rfl (hb C.2.1 hd) rfl (XT.i0_lt_t q) ho hp)
  · exact go_pure (G2 q) (fun C X t => XS.ifNo X.here C.1 (g := mkF _ pc ls.toArray (.int a :: st)) rfl (hb C.2.1 hd) rfl (XT.i0_lt_f q))
theorem go_lc_lt {a b : Int64} (D : Db bytes pc (.ifCond .lt) pc' tg) (G1 : a < b → Go wd K₀ l Z R y bytes ml ret n0 kc ks Q h k n tg ls st) (G2 : ¬ a < b → Go wd K₀ l Z R y bytes ml ret n0 kc ks Q h k n pc' ls st) : Go wd K₀ l Z R y bytes ml ret n0 kc ks Q h k n pc ls (.int (XT.cmpL a b) :: st) := by
  obtain ⟨o, hd, rfl, ho, hp⟩ := D
  by_cases q : a < b
  · exact go_pure (G1 q) (fun C X t => XS.ifYes X.here C.1 (g := mkF _ pc ls.toArray (.int (XT.cmpL a b) :: st)) rfl (pc0 := pc) rfl (hb C.2.1 hd) rfl (XT.ll_lt_t q) ho hp)
  · exact go_pure (G2 q) (fun C X t => XS.ifNo X.here C.1 (g := mkF _ pc ls.toArray (.int (XT.cmpL a b) :: st)) rfl (hb C.2.1 hd) rfl (XT.ll_lt_f q))
theorem go_icmp_ge {a b : Int32} (D : Db bytes pc (.if_icmp .ge) pc' tg) (G1 : ¬ a < b → Go wd K₀ l Z R y bytes ml ret n0 kc ks Q h k n tg ls st) (G2 : a < b → Go wd K₀ l Z R y bytes ml ret n0 kc ks Q h k n pc' ls st) : Go wd K₀ l Z R y bytes ml ret n0 kc ks Q h k n pc ls (.int b :: .int a :: st) := by
  obtain ⟨o, hd, rfl, ho, hp⟩ := D
  by_cases q : a < b
  · exact go_pure (G2 q) (fun C X t => XS.icmpNo X.here C.1 (g := mkF _ pc ls.toArray (.int b :: .int a :: st)) rfl (hb C.2.1 hd) rfl (XT.ii_ge_f q))
  · exact go_pure (G1 q) (fun C X t => XS.icmpYes X.here C.1 (g := mkF _ pc ls.toArray (.int b :: .int a :: st)) rfl (pc0 := pc) rfl (hb C.2.1 hd) rfl (XT.ii_ge_t q) ho hp)
theorem go_if_ge {a : Int32} (D : Db bytes pc (.ifCond .ge) pc' tg) (G1 : ¬ a < 0 → Go wd K₀ l Z R y bytes ml ret n0 kc ks Q h k n tg ls st) (G2 : a < 0 → Go wd K₀ l Z R y bytes ml ret n0 kc ks Q h k n pc' ls st) : Go wd K₀ l Z R y bytes ml ret n0 kc ks Q h k n pc ls (.int a :: st) := by
  obtain ⟨o, hd, rfl, ho, hp⟩ := D
  by_cases q : a < 0
  · exact go_pure (G2 q) (fun C X t => XS.ifNo X.here C.1 (g := mkF _ pc ls.toArray (.int a :: st)) rfl (hb C.2.1 hd) rfl (XT.i0_ge_f q))
  · exact go_pure (G1 q) (fun C X t => XS.ifYes X.here C.1 (g := mkF _ pc ls.toArray (.int a :: st)) rfl (pc0 := pc) rfl (hb C.2.1 hd) rfl (XT.i0_ge_t q) ho hp)
theorem go_lc_ge {a b : Int64} (D : Db bytes pc (.ifCond .ge) pc' tg) (G1 : ¬ a < b → Go wd K₀ l Z R y bytes ml ret n0 kc ks Q h k n tg ls st) (G2 : a < b → Go wd K₀ l Z R y bytes ml ret n0 kc ks Q h k n pc' ls st) : Go wd K₀ l Z R y bytes ml ret n0 kc ks Q h k n pc ls (.int (XT.cmpL a b) :: st) := by
  obtain ⟨o, hd, rfl, ho, hp⟩ := D
  by_cases q : a < b
  · exact go_pure (G2 q) (fun C X t => XS.ifNo X.here C.1 (g := mkF _ pc ls.toArray (.int (XT.cmpL a b) :: st)) rfl (hb C.2.1 hd) rfl (XT.ll_ge_f q))
  · exact go_pure (G1 q) (fun C X t => XS.ifYes X.here C.1 (g := mkF _ pc ls.toArray (.int (XT.cmpL a b) :: st)) rfl (pc0 := pc) rfl (hb C.2.1 hd) rfl (XT.ll_ge_t q) ho hp)
theorem go_icmp_gt {a b : Int32} (D : Db bytes pc (.if_icmp .gt) pc' tg) (G1 : b < a → Go wd K₀ l Z R y bytes ml ret n0 kc ks Q h k n tg ls st) (G2 : ¬ b < a → Go wd K₀ l Z R y bytes ml ret n0 kc ks Q h k n pc' ls st) : Go wd K₀ l Z R y bytes ml ret n0 kc ks Q h k n pc ls (.int b :: .int a :: st) := by
  obtain ⟨o, hd, rfl, ho, hp⟩ := D
  by_cases q : b < a
  · exact go_pure (G1 q) (fun C X t => XS.icmpYes X.here C.1 (g := mkF _ pc ls.toArray (.int b :: .int a :: st)) rfl (pc0 := pc) rfl (hb C.2.1 hd) rfl (XT.ii_gt_t q) ho hp)
  · exact go_pure (G2 q) (fun C X t => XS.icmpNo X.here C.1 (g := mkF _ pc ls.toArray (.int b :: .int a :: st)) rfl (hb C.2.1 hd) rfl (XT.ii_gt_f q))
theorem go_if_gt {a : Int32} (D : Db bytes pc (.ifCond .gt) pc' tg) (G1 : 0 < a → Go wd K₀ l Z R y bytes ml ret n0 kc ks Q h k n tg ls st) (G2 : ¬ 0 < a → Go wd K₀ l Z R y bytes ml ret n0 kc ks Q h k n pc' ls st) : Go wd K₀ l Z R y bytes ml ret n0 kc ks Q h k n pc ls (.int a :: st) := by
  obtain ⟨o, hd, rfl, ho, hp⟩ := D
  by_cases q : 0 < a
  · exact go_pure (G1 q) (fun C X t => XS.ifYes X.here C.1 (g := mkF _ pc ls.toArray (.int a :: st)) rfl (pc0 := pc) rfl (hb C.2.1 hd) rfl (XT.i0_gt_t q) ho hp)
  · exact go_pure (G2 q) (fun C X t => XS.ifNo X.here C.1 (g := mkF _ pc ls.toArray (.int a :: st)) rfl (hb C.2.1 hd) rfl (XT.i0_gt_f q))
theorem go_lc_gt {a b : Int64} (D : Db bytes pc (.ifCond .gt) pc' tg) (G1 : b < a → Go wd K₀ l Z R y bytes ml ret n0 kc ks Q h k n tg ls st) (G2 : ¬ b < a → Go wd K₀ l Z R y bytes ml ret n0 kc ks Q h k n pc' ls st) : Go wd K₀ l Z R y bytes ml ret n0 kc ks Q h k n pc ls (.int (XT.cmpL a b) :: st) := by
  obtain ⟨o, hd, rfl, ho, hp⟩ := D
  by_cases q : b < a
  · exact go_pure (G1 q) (fun C X t => XS.ifYes X.here C.1 (g := mkF _ pc ls.toArray (.int (XT.cmpL a b) :: st)) rfl (pc0 := pc) rfl (hb C.2.1 hd) rfl (XT.ll_gt_t q) ho hp)
  · exact go_pure (G2 q) (fun C X t => XS.ifNo X.here C.1 (g := mkF _ pc ls.toArray (.int (XT.cmpL a b) :: st)) rfl (hb C.2.1 hd) rfl (XT.ll_gt_f q))
theorem go_icmp_le {a b : Int32} (D : Db bytes pc (.if_icmp .le) pc' tg) (G1 : ¬ b < a → Go wd K₀ l Z R y bytes ml ret n0 kc ks Q h k n tg ls st) (G2 : b < a → Go wd K₀ l Z R y bytes ml ret n0 kc ks Q h k n pc' ls st) : Go wd K₀ l Z R y bytes ml ret n0 kc ks Q h k n pc ls (.int b :: .int a :: st) := by
  obtain ⟨o, hd, rfl, ho, hp⟩ := D
  by_cases q : b < a
  · exact go_pure (G2 q) (fun C X t => XS.icmpNo X.here C.1 (g := mkF _ pc ls.toArray (.int b :: .int a :: st)) rfl (hb C.2.1 hd) rfl (XT.ii_le_f q))
  · exact go_pure (G1 q) (fun C X t => XS.icmpYes X.here C.1 (g := mkF _ pc ls.toArray (.int b :: .int a :: st)) rfl (pc0 := pc) rfl (hb C.2.1 hd) rfl (XT.ii_le_t q) ho hp)
theorem go_if_le {a : Int32} (D : Db bytes pc (.ifCond .le) pc' tg) (G1 : ¬ 0 < a → Go wd K₀ l Z R y bytes ml ret n0 kc ks Q h k n tg ls st) (G2 : 0 < a → Go wd K₀ l Z R y bytes ml ret n0 kc ks Q h k n pc' ls st) : Go wd K₀ l Z R y bytes ml ret n0 kc ks Q h k n pc ls (.int a :: st) := by
  obtain ⟨o, hd, rfl, ho, hp⟩ := D
  by_cases q : 0 < a
  · exact go_pure (G2 q) (fun C X t => XS.ifNo X.here C.1 (g := mkF _ pc ls.toArray (.int a :: st)) rfl (hb C.2.1 hd) rfl (XT.i0_le_f q))
  · exact go_pure (G1 q) (fun C X t => XS.ifYes X.here C.1 (g := mkF _ pc ls.toArray (.int a :: st)) rfl (pc0 := pc) rfl (hb C.2.1 hd) rfl (XT.i0_le_t q) ho hp)
theorem go_lc_le {a b : Int64} (D : Db bytes pc (.ifCond .le) pc' tg) (G1 : ¬ b < a → Go wd K₀ l Z R y bytes ml ret n0 kc ks Q h k n tg ls st) (G2 : b < a → Go wd K₀ l Z R y bytes ml ret n0 kc ks Q h k n pc' ls st) : Go wd K₀ l Z R y bytes ml ret n0 kc ks Q h k n pc ls (.int (XT.cmpL a b) :: st) := by
  obtain ⟨o, hd, rfl, ho, hp⟩ := D
  by_cases q : b < a
  · exact go_pure (G2 q) (fun C X t => XS.ifNo X.here C.1 (g := mkF _ pc ls.toArray (.int (XT.cmpL a b) :: st)) rfl (hb C.2.1 hd) rfl (XT.ll_le_f q))
  · exact go_pure (G1 q) (fun C X t => XS.ifYes X.here C.1 (g := mkF _ pc ls.toArray (.int (XT.cmpL a b) :: st)) rfl (pc0 := pc) rfl (hb C.2.1 hd) rfl (XT.ll_le_t q) ho hp)
theorem go_acmp_eq {a b : Value} (D : Db bytes pc (.if_acmp .eq) pc' tg) (ha : a.isRef = true) (hb' : b.isRef = true) (G1 : a = b → Go wd K₀ l Z R y bytes ml ret n0 kc ks Q h k n tg ls st) (G2 : ¬ a = b → Go wd K₀ l Z R y bytes ml ret n0 kc ks Q h k n pc' ls st) : Go wd K₀ l Z R y bytes ml ret n0 kc ks Q h k n pc ls (b :: a :: st) := by
  obtain ⟨o, hd, rfl, ho, hp⟩ := D
  by_cases q : a = b
  · exact go_pure (G1 q) (fun C X t => XT.acmpYes X.here C.1 (g := mkF _ pc ls.toArray (b :: a :: st)) rfl (pc0 := pc) rfl (hb C.2.1 hd) rfl ha hb' (XT.aa_eq_t q) ho hp)
  · exact go_pure (G2 q) (fun C X t => XT.acmpNo X.here C.1 (g := mkF _ pc ls.toArray (b :: a :: st)) rfl (hb C.2.1 hd) rfl ha hb' (XT.aa_eq_f q))
theorem go_acmp_ne {a b : Value} (D : Db bytes pc (.if_acmp .ne) pc' tg) (ha : a.isRef = true) (hb' : b.isRef = true) (G1 : ¬ a = b → Go wd K₀ l Z R y bytes ml ret n0 kc ks Q h k n tg ls st) (G2 : a = b → Go wd K₀ l Z R y bytes ml ret n0 kc ks Q h k n pc' ls st) : Go wd K₀ l Z R y bytes ml ret n0 kc ks Q h k n pc ls (b :: a :: st) := by
  obtain ⟨o, hd, rfl, ho, hp⟩ := D
  by_cases q : a = b
  · exact go_pure (G2 q) (fun C X t => XT.acmpNo X.here C.1 (g := mkF _ pc ls.toArray (b :: a :: st)) rfl (hb C.2.1 hd) rfl ha hb' (XT.aa_ne_f q))
  · exact go_pure (G1 q) (fun C X t => XT.acmpYes X.here C.1 (g := mkF _ pc ls.toArray (b :: a :: st)) rfl (pc0 := pc) rfl (hb C.2.1 hd) rfl ha hb' (XT.aa_ne_t q) ho hp)
theorem go_ifnullT (D : Db bytes pc .ifnull pc' tg) (G : Go wd K₀ l Z R y bytes ml ret n0 kc ks Q h k n tg ls st) : Go wd K₀ l Z R y bytes ml ret n0 kc ks Q h k n pc ls (.null :: st) := by
  obtain ⟨o, hd, rfl, ho, hp⟩ := D
  exact go_pure G (fun C X t => XS.ifnullYes X.here C.1 (g := mkF _ pc ls.toArray (.null :: st)) rfl (pc0 := pc) rfl (hb C.2.1 hd) rfl ho hp)
theorem go_ifnullF {a : Addr} (D : Db bytes pc .ifnull pc' tg) (G : Go wd K₀ l Z R y bytes ml ret n0 kc ks Q h k n pc' ls st) : Go wd K₀ l Z R y bytes ml ret n0 kc ks Q h k n pc ls (.ref a :: st) := by
  obtain ⟨o, hd, rfl, ho, hp⟩ := D
  exact go_pure G (fun C X t => XS.ifnullNo X.here C.1 (g := mkF _ pc ls.toArray (.ref a :: st)) rfl (hb C.2.1 hd) rfl)
theorem go_nonnullT {a : Addr} (D : Db bytes pc .ifnonnull pc' tg) (G : Go wd K₀ l Z R y bytes ml ret n0 kc ks Q h k n tg ls st) : Go wd K₀ l Z R y bytes ml ret n0 kc ks Q h k n pc ls (.ref a :: st) := by
  obtain ⟨o, hd, rfl, ho, hp⟩ := D
  exact go_pure G (fun C X t => XT.ifnonnullYes X.here C.1 (g := mkF _ pc ls.toArray (.ref a :: st)) rfl (pc0 := pc) rfl (hb C.2.1 hd) rfl ho hp)
theorem go_nonnullF (D : Db bytes pc .ifnonnull pc' tg) (G : Go wd K₀ l Z R y bytes ml ret n0 kc ks Q h k n pc' ls st) : Go wd K₀ l Z R y bytes ml ret n0 kc ks Q h k n pc ls (.null :: st) := by
  obtain ⟨o, hd, rfl, ho, hp⟩ := D
  exact go_pure G (fun C X t => XT.ifnonnullNo X.here C.1 (g := mkF _ pc ls.toArray (.null :: st)) rfl (hb C.2.1 hd) rfl)
theorem go_nonnullV {v : Value} (D : Db bytes pc .ifnonnull pc' tg) (hv : v.isRef = true) (G1 : v ≠ .null → Go wd K₀ l Z R y bytes ml ret n0 kc ks Q h k n tg ls st) (G2 : v = .null → Go wd K₀ l Z R y bytes ml ret n0 kc ks Q h k n pc' ls st) : Go wd K₀ l Z R y bytes ml ret n0 kc ks Q h k n pc ls (v :: st) := by
  cases v with
  | null => exact go_nonnullF D (G2 rfl)
  | ref a => exact go_nonnullT D (G1 (fun q => nomatch q))
  | int _ => cases hv
  | long _ => cases hv
  | float _ => cases hv
  | double _ => cases hv
  | _ => cases hv
theorem go_ldcI {v : Int32} {idx : Nat} (D : Dc bytes pc (.ldc idx) 2 pc') (w : (Cond.constant y.cls idx v).before a0 Z = true) (G : Go wd K₀ l Z R y bytes ml ret n0 kc ks Q h k n pc' ls (.int v :: st)) : Go wd K₀ l Z R y bytes ml ret n0 kc ks Q h k n pc ls st := by
  obtain ⟨hd, rfl⟩ := D
  exact go_pure G (fun C X t => X.ldcInt C.1 C.2.2.2.1 (mvT C.2.2.2.2.1 w) (g := mkF _ pc ls.toArray st) rfl (hb C.2.1 hd) t)
theorem go_ldcJ {v : Int64} {idx : Nat} (D : Dc bytes pc (.ldc2_w idx) 3 pc') (w : (Cond.constantLong y.cls idx v).before a0 Z = true) (G : Go wd K₀ l Z R y bytes ml ret n0 kc ks Q h k n pc' ls (.long v :: st)) : Go wd K₀ l Z R y bytes ml ret n0 kc ks Q h k n pc ls st := by
  obtain ⟨hd, rfl⟩ := D
  exact go_pure G (fun C X t => X.ldc2Long C.1 C.2.2.2.1 (mvT C.2.2.2.2.1 w) (g := mkF _ pc ls.toArray st) rfl (hb C.2.1 hd) t)
theorem go_iret {z : Int32} (hr : ret = some .int) (D : Dc bytes pc .ireturn 1 pc') (hk : k ≤ kc) (hn : n ≤ ks) (q : Q (some (.int z)) h) : Go wd K₀ l Z R y bytes ml ret n0 kc ks Q h k n pc ls (.int z :: st) := by
  intro p e s0 s m args below meth c T L Bs C X hh N
  obtain ⟨hd, rfl⟩ := D
  have hl := C.2.2.2.2.2.2.1
  obtain ⟨fs, hr', hrun, hended, hW, hsame⟩ := X.leave (v := some (.int z)) (fun q => by rw [C.2.2.2.2.2.1, hr] at q; cases q) hl
  exact ⟨_, _, retOut X C.1 (C.2.2.2.2.2.1.trans hr) rfl (Or.inl ⟨rfl, Or.inl rfl, z, rfl⟩) (hb C.2.1 hd) hr', hrun, hended, _, L, rfl, ⟨by show Q _ T.heap; rw [hh]; exact q, N⟩, endK Bs hh hW hsame hk hn⟩
theorem go_bret {z : Int32} (hr : ret = some .boolean) (D : Dc bytes pc .ireturn 1 pc') (hk : k ≤ kc) (hn : n ≤ ks) (hz : z = 0 ∨ z = 1) (q : Q (some (.int z)) h) : Go wd K₀ l Z R y bytes ml ret n0 kc ks Q h k n pc ls (.int z :: st) := by
  intro p e s0 s m args below meth c T L Bs C X hh N
  obtain ⟨hd, rfl⟩ := D
  have hl := C.2.2.2.2.2.2.1
  obtain ⟨fs, hr', hrun, hended, hW, hsame⟩ := X.leave (v := some (.int z)) (fun q => by rw [C.2.2.2.2.2.1, hr] at q; cases q) hl
  exact ⟨_, _, retOut X C.1 (C.2.2.2.2.2.1.trans hr) (by rcases hz with rfl | rfl <;> rfl) (Or.inl ⟨rfl, Or.inr (Or.inl rfl), z, rfl⟩) (hb C.2.1 hd) hr', hrun, hended, _, L, rfl, ⟨by show Q _ T.heap; rw [hh]; exact q, N⟩, endK Bs hh hW hsame hk hn⟩
theorem go_nret {z : Int32} {ty : FieldType} (hr : ret = some ty) (hty : ty = .byte ∨ ty = .char ∨ ty = .short) (D : Dc bytes pc .ireturn 1 pc') (hk : k ≤ kc) (hn : n ≤ ks) (hz : narrow ty (.int z) = .int z) (q : Q (some (.int z)) h) : Go wd K₀ l Z R y bytes ml ret n0 kc ks Q h k n pc ls (.int z :: st) := by
  intro p e s0 s m args below meth c T L Bs C X hh N
  obtain ⟨hd, rfl⟩ := D
  have hl := C.2.2.2.2.2.2.1
  obtain ⟨fs, hr', hrun, hended, hW, hsame⟩ := X.leave (v := some (.int z)) (fun q => by rw [C.2.2.2.2.2.1, hr] at q; cases q) hl
  exact ⟨_, _, retOut X C.1 (C.2.2.2.2.2.1.trans hr) hz (Or.inl ⟨rfl, Or.inr (Or.inr hty), z, rfl⟩) (hb C.2.1 hd) hr', hrun, hended, _, L, rfl, ⟨by show Q _ T.heap; rw [hh]; exact q, N⟩, endK Bs hh hW hsame hk hn⟩
theorem go_lret {z : Int64} (hr : ret = some .long) (D : Dc bytes pc .lreturn 1 pc') (hk : k ≤ kc) (hn : n ≤ ks) (q : Q (some (.long z)) h) : Go wd K₀ l Z R y bytes ml ret n0 kc ks Q h k n pc ls (.long z :: st) := by
  intro p e s0 s m args below meth c T L Bs C X hh N
  obtain ⟨hd, rfl⟩ := D
  have hl := C.2.2.2.2.2.2.1
  obtain ⟨fs, hr', hrun, hended, hW, hsame⟩ := X.leave (v := some (.long z)) (fun q => by rw [C.2.2.2.2.2.1, hr] at q; cases q) hl
  exact ⟨_, _, retOut X C.1 (C.2.2.2.2.2.1.trans hr) rfl (Or.inr (Or.inl ⟨rfl, rfl, z, rfl⟩)) (hb C.2.1 hd) hr', hrun, hended, _, L, rfl, ⟨by show Q _ T.heap; rw [hh]; exact q, N⟩, endK Bs hh hW hsame hk hn⟩
theorem narrow_ref {t : FieldType} {w : Value} (ht : t.isReference = true) (hw : w.isRef = true) : narrow t w = w := by
  cases t <;> cases w <;> first | rfl | (simp [FieldType.isReference] at ht; done) | (simp [Value.isRef] at hw; done)
theorem go_aret {w : Value} {t : FieldType} (hr : ret = some t) (ht : t.isReference = true) (hw : w.isRef = true) (D : Dc bytes pc .areturn 1 pc') (hk : k ≤ kc) (hn : n ≤ ks) (q : Q (some w) h) : Go wd K₀ l Z R y bytes ml ret n0 kc ks Q h k n pc ls (w :: st) := by
  intro p e s0 s m args below meth c T L Bs C X hh N
  obtain ⟨hd, rfl⟩ := D
  have hl := C.2.2.2.2.2.2.1
  obtain ⟨fs, hr', hrun, hended, hW, hsame⟩ := X.leave (v := some w) (fun q => by rw [C.2.2.2.2.2.1, hr] at q; cases q) hl
  exact ⟨_, _, retOut X C.1 (C.2.2.2.2.2.1.trans hr) (narrow_ref ht hw) (Or.inr (Or.inr (Or.inr (Or.inr ⟨rfl, ht, hw⟩)))) (hb C.2.1 hd) hr', hrun, hended, _, L, rfl, ⟨by show Q _ T.heap; rw [hh]; exact q, N⟩, endK Bs hh hW hsame hk hn⟩
theorem go_ret (hr : ret = none) (D : Dc bytes pc .return_ 1 pc') (hk : k ≤ kc) (hn : n ≤ ks) (q : Q none h) : Go wd K₀ l Z R y bytes ml ret n0 kc ks Q h k n pc ls [] := by
  intro p e s0 s m args below meth c T L Bs C X hh N
  obtain ⟨hd, rfl⟩ := D
  have hl := C.2.2.2.2.2.2.1
  obtain ⟨fs, hr', hrun, hended, hW, hsame⟩ := X.leave (v := none) (fun _ => rfl) hl
  exact ⟨_, _, X.returnOut C.1 (C.2.2.2.2.2.1.trans hr) (hb C.2.1 hd) hr', hrun, hended, _, L, rfl, ⟨by show Q _ T.heap; rw [hh]; exact q, N⟩, endK Bs hh hW hsame hk hn⟩
theorem con_of {as' : Array Value} (hp : plainFor y = true) (he : Jvm.Sym.laidSlots as'.toList ++ List.replicate (ml - (Jvm.Sym.laidSlots as'.toList).length) .unset = ls) (G : Go wd KT l Z R y bytes ml ret n0 R.cells R.slots Q h 0 0 0 ls []) : Con wd l Z y bytes ml ret R as' h n0 Q := by
  intro ws
  refine MetFree.of_bodySF hp hisR ?_
  intro p e s m args below meth c s₁ Bd hml hP hK
  obtain ⟨rfl, hZ, hh⟩ := hP
  have X0 : Stand p l e R s m args below meth c s₁ [] 0 0 := Stand.of_body Bd
  have e0 : s₁.heap = h := by rw [← hh, Bd.state]; rfl
  obtain ⟨s₂, o, h1, h2, h3, v, L, e1, ⟨q1, q2⟩, q3⟩ := G p e s s m args below meth c s₁ [] (Base.start s hh) ⟨Bd.exec, Bd.bytes, hml, findClass_of_methodNamed Bd.named, hZ, Bd.returns, Bd.notSynchronized, (name_of_methodNamed Bd.named Bd.method).1, trivial⟩ X0 e0 (Fr.nil n0)
  exact ⟨s₂, o, (XT.entry (Ls := ls.toArray) (by simpa using he)).trans h1, h2, h3, v, L, e1, ⟨⟨q1, by rw [← hh]; exact q3.size⟩, q2⟩, q3⟩
theorem go_callS1 {y' : MethodName} {b' : ByteArray} {m' : Nat} {r' : Option FieldType} {rm : Room} {idx W : Nat} {argsL : List Value} {P : Value → Heap → Prop} (D : Dc bytes pc (.invokestatic idx) 3 pc') (hM : Con false l Z y' b' m' r' rm argsL.toArray h n0 (R1 P))
    (w1 : (Cond.methodLink y.cls idx y').before a0 Z = true) (w2 : (Cond.static y').before a0 Z = true) (w3 : (Cond.initialized y'.cls).before a0 Z = true) (w4 : (Cond.code y' b' m' r').before a0 Z = true) (hy : y'.cls ≠ "java/lang/invoke/MethodHandle" ∧ y'.cls ≠ "java/lang/invoke/VarHandle")
    (hlen : ∀ sig, parseMethodDescriptor y'.desc = some sig → argsL.length = sig.parameters.length) {st₀ : List Value} (hst : st₀ = argsL.reverse ++ st) (hW : (st.map fun v => v.category).sum = W) (hf : rm.frames + 1 ≤ R.frames) (hlo : W + (m' + 11) + rm.locals ≤ R.locals) (hk : k + rm.cells ≤ R.cells) (hn : n + rm.slots ≤ R.slots) (hls : ls.length = ml)
    (G : ∀ w h', P w h' → Go wd K₀ l Z R y bytes ml ret n0 kc ks Q h' (k + rm.cells) (n + rm.slots) pc' ls (w :: st)) : Go wd K₀ l Z R y bytes ml ret n0 kc ks Q h k n pc ls st₀ := by
  subst hst
  intro p e s0 s m args below meth c T L Bs C X hh N
  obtain ⟨hd, rfl⟩ := D
  have hZ := C.2.2.2.2.1
  obtain ⟨v, vm₁, ⟨B, Lb, kb, nb⟩, -, X', ⟨Lq, ⟨⟨hQ, hsz⟩, Ns⟩, e1, e2, e3⟩, st'⟩ := Jvm.LawKit.callS X C.1 (y := y') C.2.2.2.1 (mvT hZ w1) (mvT hZ w2) (mvT hZ w3) (mvT hZ w4) hy (backOf (W := W) (Q := fun v h' L => ((R1 P) v h' ∧ h.size ≤ h'.size) ∧ Fr n0 L) (hM []) hZ w4 w3 hf hlo) (g := mkF m pc ls.toArray (argsL.reverse ++ st)) rfl
    (by rw [C.2.2.1]; simpa using hls) (argsL := argsL) (rest := st) hlen rfl (by show 2 * 0 + _ ≤ W; rw [← hW]; omega) (hb C.2.1 hd) (fun _ _ => ⟨rfl, hh, hk, hn⟩)
  dsimp only [Pt.U, Pt.locs, Pt.cells, Pt.slots] at X' hQ hsz e1 e2 e3 st'
  subst e1 e2 e3
  obtain ⟨w, rfl, hP⟩ := hQ
  exact (G w B.heap hP p e s0 s m args below meth c B _ (Bs.mono hsz) C X' rfl (N.app Ns)).pre st'
theorem go_callV1 {y' : MethodName} {b' : ByteArray} {m' : Nat} {r' : Option FieldType} {rm : Room} {idx W : Nat} {argsL : List Value} {P : Value → Heap → Prop} {x' : MethodName} {K : String} {a : Addr} (D : Dc bytes pc (.invokevirtual idx) 3 pc') (hM : Con false l Z y' b' m' r' rm (.ref a :: argsL).toArray h n0 (R1 P)) (E : Exa Z h a K)
    (w1 : (Cond.methodLink y.cls idx x').before a0 Z = true) (w5 : (Cond.declares x').before a0 Z = true) (nf : ∀ s : State, Z.Warmed39 s.vm → NotFace s x') (w6 : (Cond.selects K x' y').before a0 Z = true) (w2 : (Cond.instanceMethod y').before a0 Z = true) (w3 : (Cond.initialized y'.cls).before a0 Z = true) (w4 : (Cond.code y' b' m' r').before a0 Z = true)
    (hy : x'.cls ≠ "java/lang/invoke/MethodHandle" ∧ x'.cls ≠ "java/lang/invoke/VarHandle") (hlen : ∀ sig, parseMethodDescriptor x'.desc = some sig → argsL.length = sig.parameters.length) {st₀ : List Value} (hst : st₀ = argsL.reverse ++ .ref a :: st) (hW : (st.map fun v => v.category).sum = W) (hf : rm.frames + 1 ≤ R.frames) (hlo : W + (m' + 11) + rm.locals ≤ R.locals) (hk : k + rm.cells ≤ R.cells) (hn : n + rm.slots ≤ R.slots) (hls : ls.length = ml)
    (G : ∀ w h', P w h' → Go wd K₀ l Z R y bytes ml ret n0 kc ks Q h' (k + rm.cells) (n + rm.slots) pc' ls (w :: st)) : Go wd K₀ l Z R y bytes ml ret n0 kc ks Q h k n pc ls st₀ := by
  subst hst
  intro p e s0 s m args below meth c T L Bs C X hh N
  obtain ⟨hd, rfl⟩ := D
  have hZ := C.2.2.2.2.1
  obtain ⟨cq, kq, qa, qb, qc⟩ := isOf (T := T) hZ hh E
  obtain ⟨v, vm₁, ⟨B, Lb, kb, nb⟩, -, X', ⟨Lq, ⟨⟨hQ, hsz⟩, Ns⟩, e1, e2, e3⟩, st'⟩ := X.virtualBack C.1 (y := x') (z := y') C.2.2.2.1 (mvT hZ w1) (mvT hZ w5) (nf s hZ) (mvT hZ w6) (mvT hZ w2) hy (backOf (W := W) (Q := fun v h' L => ((R1 P) v h' ∧ h.size ≤ h'.size) ∧ Fr n0 L) (hM []) hZ w4 w3 hf hlo) qa qc (g := mkF m pc ls.toArray (argsL.reverse ++ .ref a :: st)) rfl
    (by rw [C.2.2.1]; simpa using hls) (Steps.refl _) (argsL := argsL) (rest := st) hlen rfl (by show 2 * 0 + _ ≤ W; rw [← hW]; omega) (hb C.2.1 hd) (fun _ _ => ⟨rfl, hh, hk, hn⟩)
  dsimp only [Pt.U, Pt.locs, Pt.cells, Pt.slots] at X' hQ hsz e1 e2 e3 st'
  subst e1 e2 e3
  obtain ⟨w, rfl, hP⟩ := hQ
  exact (G w B.heap hP p e s0 s m args below meth c B _ (Bs.mono hsz) C X' rfl (N.app Ns)).pre (fun t q => st'.trans q)
theorem go_callP1 {y' : MethodName} {b' : ByteArray} {m' : Nat} {r' : Option FieldType} {rm : Room} {idx W : Nat} {argsL : List Value} {P : Value → Heap → Prop} {K : String} {a : Addr} (D : Dc bytes pc (.invokevirtual idx) 3 pc') (hM : Con false l Z y' b' m' r' rm (.ref a :: argsL).toArray h n0 (R1 P)) (E : Exa Z h a K)
    (w1 : (Cond.methodLink y.cls idx y').before a0 Z = true) (w2 : (Cond.instanceMethod y').before a0 Z = true) {kk : Nat} (wi : (Cond.instantiable y'.cls kk).before a0 Z = true) (w5 : (Cond.privateMethod y').before a0 Z = true) (w3 : (Cond.initialized y'.cls).before a0 Z = true) (w4 : (Cond.code y' b' m' r').before a0 Z = true) (hy : y'.cls ≠ "java/lang/invoke/MethodHandle" ∧ y'.cls ≠ "java/lang/invoke/VarHandle")
    (hlen : ∀ sig, parseMethodDescriptor y'.desc = some sig → argsL.length = sig.parameters.length) {st₀ : List Value} (hst : st₀ = argsL.reverse ++ .ref a :: st) (hW : (st.map fun v => v.category).sum = W) (hf : rm.frames + 1 ≤ R.frames) (hlo : W + (m' + 11) + rm.locals ≤ R.locals) (hk : k + rm.cells ≤ R.cells) (hn : n + rm.slots ≤ R.slots) (hls : ls.length = ml)
    (G : ∀ w h', P w h' → Go wd K₀ l Z R y bytes ml ret n0 kc ks Q h' (k + rm.cells) (n + rm.slots) pc' ls (w :: st)) : Go wd K₀ l Z R y bytes ml ret n0 kc ks Q h k n pc ls st₀ := by
  subst hst
  intro p e s0 s m args below meth c T L Bs C X hh N
  obtain ⟨hd, rfl⟩ := D
  have hZ := C.2.2.2.2.1
  obtain ⟨cq, q1, q2⟩ := E.cell
  have wi' : (Cond.instantiable y'.cls kk).before args s = true := mvT hZ wi
  obtain ⟨c2, k2, i1, i2, -, i4, -⟩ := Cond.instantiable_spec wi'
  have hpa : s.PrivateAt y' := Cond.privateMethod_at (mvP hZ w5 (args := #[]))
  have w6 : (Cond.selects y'.cls y' y').before args s = true := selects_self_of_private i1 i2 (Bool.or_eq_false_iff.mp i4).1 hpa (mvT hZ w2) hy
  obtain ⟨v, vm₁, ⟨B, Lb, kb, nb⟩, -, X', ⟨Lq, ⟨⟨hQ, hsz⟩, Ns⟩, e1, e2, e3⟩, st'⟩ := X.privateBack C.1 (y := y') C.2.2.2.1 (mvT hZ w1) (mvT hZ w2) w6 hpa (mvT hZ w4) hy (backOf (W := W) (Q := fun v h' L => ((R1 P) v h' ∧ h.size ≤ h'.size) ∧ Fr n0 L) (hM []) hZ w4 w3 hf hlo) (g := mkF m pc ls.toArray (argsL.reverse ++ .ref a :: st)) rfl
    (by rw [C.2.2.1]; simpa using hls) (Steps.refl _) (a := a) (by rw [hh]; exact q1) q2 (argsL := argsL) (rest := st) hlen rfl (by show 2 * 0 + _ ≤ W; rw [← hW]; omega) (hb C.2.1 hd) (fun _ _ => ⟨rfl, hh, hk, hn⟩)
  dsimp only [Pt.U, Pt.locs, Pt.cells, Pt.slots] at X' hQ hsz e1 e2 e3 st'
  subst e1 e2 e3
  obtain ⟨w, rfl, hP⟩ := hQ
  exact (G w B.heap hP p e s0 s m args below meth c B _ (Bs.mono hsz) C X' rfl (N.app Ns)).pre (fun t q => st'.trans q)
theorem go_callS0 {y' : MethodName} {b' : ByteArray} {m' : Nat} {r' : Option FieldType} {rm : Room} {idx W : Nat} {argsL : List Value} {P : Heap → Prop} (D : Dc bytes pc (.invokestatic idx) 3 pc') (hM : Con false l Z y' b' m' r' rm argsL.toArray h n0 (R0 P))
    (w1 : (Cond.methodLink y.cls idx y').before a0 Z = true) (w2 : (Cond.static y').before a0 Z = true) (w3 : (Cond.initialized y'.cls).before a0 Z = true) (w4 : (Cond.code y' b' m' r').before a0 Z = true) (hy : y'.cls ≠ "java/lang/invoke/MethodHandle" ∧ y'.cls ≠ "java/lang/invoke/VarHandle")
    (hlen : ∀ sig, parseMethodDescriptor y'.desc = some sig → argsL.length = sig.parameters.length) {st₀ : List Value} (hst : st₀ = argsL.reverse ++ st) (hW : (st.map fun v => v.category).sum = W) (hf : rm.frames + 1 ≤ R.frames) (hlo : W + (m' + 11) + rm.locals ≤ R.locals) (hk : k + rm.cells ≤ R.cells) (hn : n + rm.slots ≤ R.slots) (hls : ls.length = ml)
    (G : ∀ h', P h' → Go wd K₀ l Z R y bytes ml ret n0 kc ks Q h' (k + rm.cells) (n + rm.slots) pc' ls st) : Go wd K₀ l Z R y bytes ml ret n0 kc ks Q h k n pc ls st₀ := by
  subst hst
  intro p e s0 s m args below meth c T L Bs C X hh N
  obtain ⟨hd, rfl⟩ := D
  have hZ := C.2.2.2.2.1
  obtain ⟨v, vm₁, ⟨B, Lb, kb, nb⟩, -, X', ⟨Lq, ⟨⟨hQ, hsz⟩, Ns⟩, e1, e2, e3⟩, st'⟩ := Jvm.LawKit.callS X C.1 (y := y') C.2.2.2.1 (mvT hZ w1) (mvT hZ w2) (mvT hZ w3) (mvT hZ w4) hy (backOf (W := W) (Q := fun v h' L => ((R0 P) v h' ∧ h.size ≤ h'.size) ∧ Fr n0 L) (hM []) hZ w4 w3 hf hlo) (g := mkF m pc ls.toArray (argsL.reverse ++ st)) rfl
    (by rw [C.2.2.1]; simpa using hls) (argsL := argsL) (rest := st) hlen rfl (by show 2 * 0 + _ ≤ W; rw [← hW]; omega) (hb C.2.1 hd) (fun _ _ => ⟨rfl, hh, hk, hn⟩)
  dsimp only [Pt.U, Pt.locs, Pt.cells, Pt.slots] at X' hQ hsz e1 e2 e3 st'
  subst e1 e2 e3
  obtain ⟨rfl, hP⟩ := hQ
  exact (G B.heap hP p e s0 s m args below meth c B _ (Bs.mono hsz) C X' rfl (N.app Ns)).pre st'
theorem go_callN0 {y' : MethodName} {b' : ByteArray} {m' : Nat} {r' : Option FieldType} {rm : Room} {idx W : Nat} {argsL : List Value} {P : Heap → Prop} {a : Addr} (D : Dc bytes pc (.invokespecial idx) 3 pc') (hi : y'.name = "<init>") (hr' : r' = none) (hM : Con false l Z y' b' m' r' rm (.ref a :: argsL).toArray h n0 (R0 P))
    (w1 : (Cond.methodLink y.cls idx y').before a0 Z = true) (w2 : (Cond.instanceMethod y').before a0 Z = true) (w3 : (Cond.initialized y'.cls).before a0 Z = true) (w4 : (Cond.code y' b' m' r').before a0 Z = true) (hy : y'.cls ≠ "java/lang/invoke/MethodHandle" ∧ y'.cls ≠ "java/lang/invoke/VarHandle")
    (hlen : ∀ sig, parseMethodDescriptor y'.desc = some sig → argsL.length = sig.parameters.length) {st₀ : List Value} (hst : st₀ = argsL.reverse ++ .ref a :: st) (hW : (st.map fun v => v.category).sum = W) (hf : rm.frames + 1 ≤ R.frames) (hlo : W + (m' + 11) + rm.locals ≤ R.locals) (hk : k + rm.cells ≤ R.cells) (hn : n + rm.slots ≤ R.slots) (hls : ls.length = ml)
    (G : ∀ h', P h' → Go wd K₀ l Z R y bytes ml ret n0 kc ks Q h' (k + rm.cells) (n + rm.slots) pc' ls st) : Go wd K₀ l Z R y bytes ml ret n0 kc ks Q h k n pc ls st₀ := by
  subst hst hr'
  intro p e s0 s m args below meth c T L Bs C X hh N
  obtain ⟨hd, rfl⟩ := D
  have hZ := C.2.2.2.2.1
  obtain ⟨v, vm₁, ⟨B, Lb, kb, nb⟩, -, X', ⟨Lq, ⟨⟨hQ, hsz⟩, Ns⟩, e1, e2, e3⟩, st'⟩ := X.specialBack C.1 (y := y') hi C.2.2.2.1 (mvT hZ w1) (mvT hZ w2) (mvT hZ w4) hy (backOf (W := W) (Q := fun v h' L => ((R0 P) v h' ∧ h.size ≤ h'.size) ∧ Fr n0 L) (hM []) hZ w4 w3 hf hlo) (g := mkF m pc ls.toArray (argsL.reverse ++ .ref a :: st)) rfl
    (by rw [C.2.2.1]; simpa using hls) (Steps.refl _) (a := a) (argsL := argsL) (rest := st) hlen rfl (by show 2 * 0 + _ ≤ W; rw [← hW]; omega) (hb C.2.1 hd) (fun _ _ => ⟨rfl, hh, hk, hn⟩)
  dsimp only [Pt.U, Pt.locs, Pt.cells, Pt.slots] at X' hQ hsz e1 e2 e3 st'
  subst e1 e2 e3
  obtain ⟨rfl, hP⟩ := hQ
  exact (G B.heap hP p e s0 s m args below meth c B _ (Bs.mono hsz) C X' rfl (N.app Ns)).pre (fun t q => st'.trans q)
theorem go_callV0 {y' : MethodName} {b' : ByteArray} {m' : Nat} {r' : Option FieldType} {rm : Room} {idx W : Nat} {argsL : List Value} {P : Heap → Prop} {x' : MethodName} {K : String} {a : Addr} (D : Dc bytes pc (.invokevirtual idx) 3 pc') (hM : Con false l Z y' b' m' r' rm (.ref a :: argsL).toArray h n0 (R0 P)) (E : Exa Z h a K)
    (w1 : (Cond.methodLink y.cls idx x').before a0 Z = true) (w5 : (Cond.declares x').before a0 Z = true) (nf : ∀ s : State, Z.Warmed39 s.vm → NotFace s x') (w6 : (Cond.selects K x' y').before a0 Z = true) (w2 : (Cond.instanceMethod y').before a0 Z = true) (w3 : (Cond.initialized y'.cls).before a0 Z = true) (w4 : (Cond.code y' b' m' r').before a0 Z = true)
    (hy : x'.cls ≠ "java/lang/invoke/MethodHandle" ∧ x'.cls ≠ "java/lang/invoke/VarHandle") (hlen : ∀ sig, parseMethodDescriptor x'.desc = some sig → argsL.length = sig.parameters.length) {st₀ : List Value} (hst : st₀ = argsL.reverse ++ .ref a :: st) (hW : (st.map fun v => v.category).sum = W) (hf : rm.frames + 1 ≤ R.frames) (hlo : W + (m' + 11) + rm.locals ≤ R.locals) (hk : k + rm.cells ≤ R.cells) (hn : n + rm.slots ≤ R.slots) (hls : ls.length = ml)
    (G : ∀ h', P h' → Go wd K₀ l Z R y bytes ml ret n0 kc ks Q h' (k + rm.cells) (n + rm.slots) pc' ls st) : Go wd K₀ l Z R y bytes ml ret n0 kc ks Q h k n pc ls st₀ := by
  subst hst
  intro p e s0 s m args below meth c T L Bs C X hh N
  obtain ⟨hd, rfl⟩ := D
  have hZ := C.2.2.2.2.1
  obtain ⟨cq, kq, qa, qb, qc⟩ := isOf (T := T) hZ hh E
  obtain ⟨v, vm₁, ⟨B, Lb, kb, nb⟩, -, X', ⟨Lq, ⟨⟨hQ, hsz⟩, Ns⟩, e1, e2, e3⟩, st'⟩ := X.virtualBack C.1 (y := x') (z := y') C.2.2.2.1 (mvT hZ w1) (mvT hZ w5) (nf s hZ) (mvT hZ w6) (mvT hZ w2) hy (backOf (W := W) (Q := fun v h' L => ((R0 P) v h' ∧ h.size ≤ h'.size) ∧ Fr n0 L) (hM []) hZ w4 w3 hf hlo) qa qc (g := mkF m pc ls.toArray (argsL.reverse ++ .ref a :: st)) rfl
    (by rw [C.2.2.1]; simpa using hls) (Steps.refl _) (argsL := argsL) (rest := st) hlen rfl (by show 2 * 0 + _ ≤ W; rw [← hW]; omega) (hb C.2.1 hd) (fun _ _ => ⟨rfl, hh, hk, hn⟩)
  dsimp only [Pt.U, Pt.locs, Pt.cells, Pt.slots] at X' hQ hsz e1 e2 e3 st'
  subst e1 e2 e3
  obtain ⟨rfl, hP⟩ := hQ
  exact (G B.heap hP p e s0 s m args below meth c B _ (Bs.mono hsz) C X' rfl (N.app Ns)).pre (fun t q => st'.trans q)
theorem go_callP0 {y' : MethodName} {b' : ByteArray} {m' : Nat} {r' : Option FieldType} {rm : Room} {idx W : Nat} {argsL : List Value} {P : Heap → Prop} {K : String} {a : Addr} (D : Dc bytes pc (.invokevirtual idx) 3 pc') (hM : Con false l Z y' b' m' r' rm (.ref a :: argsL).toArray h n0 (R0 P)) (E : Exa Z h a K)
    (w1 : (Cond.methodLink y.cls idx y').before a0 Z = true) (w2 : (Cond.instanceMethod y').before a0 Z = true) {kk : Nat} (wi : (Cond.instantiable y'.cls kk).before a0 Z = true) (w5 : (Cond.privateMethod y').before a0 Z = true) (w3 : (Cond.initialized y'.cls).before a0 Z = true) (w4 : (Cond.code y' b' m' r').before a0 Z = true) (hy : y'.cls ≠ "java/lang/invoke/MethodHandle" ∧ y'.cls ≠ "java/lang/invoke/VarHandle")
    (hlen : ∀ sig, parseMethodDescriptor y'.desc = some sig → argsL.length = sig.parameters.length) {st₀ : List Value} (hst : st₀ = argsL.reverse ++ .ref a :: st) (hW : (st.map fun v => v.category).sum = W) (hf : rm.frames + 1 ≤ R.frames) (hlo : W + (m' + 11) + rm.locals ≤ R.locals) (hk : k + rm.cells ≤ R.cells) (hn : n + rm.slots ≤ R.slots) (hls : ls.length = ml)
    (G : ∀ h', P h' → Go wd K₀ l Z R y bytes ml ret n0 kc ks Q h' (k + rm.cells) (n + rm.slots) pc' ls st) : Go wd K₀ l Z R y bytes ml ret n0 kc ks Q h k n pc ls st₀ := by
  subst hst
  intro p e s0 s m args below meth c T L Bs C X hh N
  obtain ⟨hd, rfl⟩ := D
  have hZ := C.2.2.2.2.1
  obtain ⟨cq, q1, q2⟩ := E.cell
  have wi' : (Cond.instantiable y'.cls kk).before args s = true := mvT hZ wi
  obtain ⟨c2, k2, i1, i2, -, i4, -⟩ := Cond.instantiable_spec wi'
  have hpa : s.PrivateAt y' := Cond.privateMethod_at (mvP hZ w5 (args := #[]))
  have w6 : (Cond.selects y'.cls y' y').before args s = true := selects_self_of_private i1 i2 (Bool.or_eq_false_iff.mp i4).1 hpa (mvT hZ w2) hy
  obtain ⟨v, vm₁, ⟨B, Lb, kb, nb⟩, -, X', ⟨Lq, ⟨⟨hQ, hsz⟩, Ns⟩, e1, e2, e3⟩, st'⟩ := X.privateBack C.1 (y := y') C.2.2.2.1 (mvT hZ w1) (mvT hZ w2) w6 hpa (mvT hZ w4) hy (backOf (W := W) (Q := fun v h' L => ((R0 P) v h' ∧ h.size ≤ h'.size) ∧ Fr n0 L) (hM []) hZ w4 w3 hf hlo) (g := mkF m pc ls.toArray (argsL.reverse ++ .ref a :: st)) rfl
    (by rw [C.2.2.1]; simpa using hls) (Steps.refl _) (a := a) (by rw [hh]; exact q1) q2 (argsL := argsL) (rest := st) hlen rfl (by show 2 * 0 + _ ≤ W; rw [← hW]; omega) (hb C.2.1 hd) (fun _ _ => ⟨rfl, hh, hk, hn⟩)
  dsimp only [Pt.U, Pt.locs, Pt.cells, Pt.slots] at X' hQ hsz e1 e2 e3 st'
  subst e1 e2 e3
  obtain ⟨rfl, hP⟩ := hQ
  exact (G B.heap hP p e s0 s m args below meth c B _ (Bs.mono hsz) C X' rfl (N.app Ns)).pre (fun t q => st'.trans q)
theorem Base.since {s0 s : State} {vm' : Vm} {h' : Heap} (B : Base true s0 s h) (q : s.Since vm' h'.size) (g : h.size ≤ h'.size) : Base true s0 (s.setVm vm') h' := by
  obtain ⟨vm0, k0, rfl, hS, hk⟩ := B
  exact ⟨vm', h'.size, rfl, hS.trans q (Nat.le_trans hk g), Nat.le_refl _⟩
theorem Ctx.since {p : Program} {s : State} {m : MethodId} {meth : Method} {c : Code} {vm' : Vm} {k' : Nat} (C : Ctx K₀ Z y bytes ml ret p s m meth c) (q : s.Since vm' k') : Ctx KT Z y bytes ml ret p (s.setVm vm') m meth c :=
  ⟨C.1, C.2.1, C.2.2.1, by rw [show (s.setVm vm').vm = vm' from rfl, q.1.alike.findClass]; exact C.2.2.2.1, State.Warmed39.trans C.2.2.2.2.1 q.1, C.2.2.2.2.2.1, C.2.2.2.2.2.2.1, C.2.2.2.2.2.2.2.1, trivial⟩
theorem go_ldcS {idx nn : Nat} {text : String} (D : Dc bytes pc (.ldc idx) 2 pc') (w : (Cond.stringLink y.cls idx text).before a0 Z = true) (wS : ∀ a ∈ Bundle.stringAtoms, a.before a0 Z = true) (hn : 4 * text.toList.length ≤ nn) (hbig : nn ≤ 536870912) (hc : k + 2 ≤ R.cells) (hl : n + (nn + 4) ≤ R.slots)
    (G : ∀ (a : Addr) h', Ext h h' → Go true KT l Z R y bytes ml ret n0 kc ks Q h' (k + 2) (n + (nn + 4)) pc' ls (.ref a :: st)) : Go true K₀ l Z R y bytes ml ret n0 kc ks Q h k n pc ls st := by
  intro p e s0 s m args below meth c T L Bs C X hh N
  obtain ⟨hd, rfl⟩ := D
  obtain ⟨vm0, k0, rfl, hS, hk⟩ := Bs
  obtain ⟨a, T', h', k1, X', e', E, hS', hk', hZ', hf', st'⟩ := ldcS X C.1 C.2.2.2.2.1 C.2.2.2.1 w wS hh hS hk (g := mkF m pc ls.toArray st) rfl (hb C.2.1 hd) hn hbig hc hl
  exact (G a h' E p e s0 _ m args below meth c T' L ⟨_, k1, rfl, hS', hk'⟩ ⟨C.1, C.2.1, C.2.2.1, hf', hZ', C.2.2.2.2.2.1, C.2.2.2.2.2.2.1, C.2.2.2.2.2.2.2.1, trivial⟩ X' e' N).pre st'
theorem go_K (G : Go true KT l Z R y bytes ml ret n0 kc ks Q h k n pc ls st) : Go true K₀ l Z R y bytes ml ret n0 kc ks Q h k n pc ls st := fun p e s0 s m args below meth c T L B C X hh N => G p e s0 s m args below meth c T L B ⟨C.1, C.2.1, C.2.2.1, C.2.2.2.1, C.2.2.2.2.1, C.2.2.2.2.2.1, C.2.2.2.2.2.2.1, C.2.2.2.2.2.2.2.1, trivial⟩ X hh N
theorem go_ldcV {idx nn : Nat} {text : String} {vs : List Value} {z : Int32} (D : Dc bytes pc (.ldc idx) 2 pc') (w : (Cond.stringLink y.cls idx text).before a0 Z = true) (wS : ∀ a ∈ Bundle.stringAtoms, a.before a0 Z = true) (hld : Jvm.Lit.constHeld Z y.cls idx) (hcw : Jvm.Lit.compactW.before a0 Z = true)
    (ht : (∀ c ∈ text.toList, c.toNat < 256) ∧ text.toList.map (fun c => Value.int (Jvm.Lit.byteI c.toNat.toUInt16)) = vs) (hz : ¬ z < 0) (hlv : z.toNatClampNeg = vs.length) (hn : 4 * text.toList.length ≤ nn) (hbig : nn ≤ 536870912) (hc : k + 2 ≤ R.cells) (hl : n + (nn + 4) ≤ R.slots) (hn0 : Z.heap.size = n0)
    (G : ∀ (a b : Addr) (kb : ClassId) h', Ext h h' → Exa Z h' a "java/lang/String" → Fld Z h' a "java/lang/String" "coder" "B" (.int 0) → Fld Z h' a "java/lang/String" "value" "[B" (.ref b) → Arv Z h' b kb .byte z vs (.int 0) → Go true KT l Z R y bytes ml ret n0 kc ks Q h' (k + 2) (n + (nn + 4)) pc' ls (.ref a :: st)) : Go true (fun s => s = Z) l Z R y bytes ml ret n0 kc ks Q h k n pc ls st := by
  intro p e s0 s m args below meth c T L Bs C X hh N
  obtain ⟨hd, rfl⟩ := D
  obtain ⟨vm0, k0, rfl, hS, hk⟩ := Bs
  have hZs : s0.setVm vm0 = Z := C.2.2.2.2.2.2.2.2
  subst hZs
  obtain ⟨a, T', h', k1, b, kb, X', e', E, hS', hk', hZ', hf', F1, F2, F3, F4, -, -, -, -, st'⟩ := ldcSVL (Z := s0.setVm vm0) (s := s0) (vm0 := vm0) (Ts := []) X C.1 C.2.2.2.2.1 C.2.2.2.1 w wS hh hS hk (hn0 ▸ N) (fun _ _ q => q) IB.start (by simp) hld hcw ht hz hlv (g := mkF m pc ls.toArray st) rfl (hb C.2.1 hd) hn hbig hc hl
  exact (G a b kb h' E F1 F2 F3 F4 p e s0 _ m args below meth c T' L ⟨_, k1, rfl, hS', hk'⟩ ⟨C.1, C.2.1, C.2.2.1, hf', hZ', C.2.2.2.2.2.1, C.2.2.2.2.2.2.1, C.2.2.2.2.2.2.2.1, trivial⟩ X' e' N).pre st'
theorem con_ofZ {as' : Array Value} (hp : plainFor y = true) (he : Jvm.Sym.laidSlots as'.toList ++ List.replicate (ml - (Jvm.Sym.laidSlots as'.toList).length) .unset = ls) (G : Go wd (fun s => s = Z) l Z R y bytes ml ret n0 R.cells R.slots Q Z.heap 0 0 0 ls []) (ws : List Cond) :
    MetFree l y (head1 (Cond.code y bytes ml ret :: ws) R) (fun a U => a = as' ∧ U = Z) (fun _ _ _ _ _ => True) (fun _ U o U' => ∃ v L, o = .returned v ∧ ((Q v U'.heap ∧ Z.heap.size ≤ U'.heap.size) ∧ Fr n0 L) ∧ EndK wd U o U' L R.cells R.slots) := by
  refine MetFree.of_bodySF hp hisR ?_
  intro p e s m args below meth c s₁ Bd hml hP hK
  obtain ⟨rfl, hZ⟩ := hP
  subst hZ
  have X0 : Stand p l e R s m args below meth c s₁ [] 0 0 := Stand.of_body Bd
  have e0 : s₁.heap = s.heap := by rw [Bd.state]; rfl
  obtain ⟨s₂, o, h1, h2, h3, v, L, e1, ⟨q1, q2⟩, q3⟩ := G p e s s m args below meth c s₁ [] (Base.start s rfl) ⟨Bd.exec, Bd.bytes, hml, findClass_of_methodNamed Bd.named, State.Warmed39.refl s, Bd.returns, Bd.notSynchronized, (name_of_methodNamed Bd.named Bd.method).1, rfl⟩ X0 e0 (Fr.nil n0)
  exact ⟨s₂, o, (XT.entry (Ls := ls.toArray) (by simpa using he)).trans h1, h2, h3, v, L, e1, ⟨⟨q1, q3.size⟩, q2⟩, q3⟩
theorem go_cast {idx : Nat} {C0 : String} {a : Addr} (D : Dc bytes pc (.checkcast idx) 3 pc') (w : (Cond.classLink y.cls idx C0).before a0 Z = true) (F : Ins Z h a C0 true) (G : Go wd K₀ l Z R y bytes ml ret n0 kc ks Q h k n pc' ls (.ref a :: st)) : Go wd K₀ l Z R y bytes ml ret n0 kc ks Q h k n pc ls (.ref a :: st) := by
  intro p e s0 s m args below meth c T L Bs C X hh N
  obtain ⟨hd, rfl⟩ := D
  obtain ⟨T', X', e', st'⟩ := castY X C.1 C.2.2.2.2.1 C.2.2.2.1 w hh F (g := mkF m pc ls.toArray (.ref a :: st)) rfl rfl (hb C.2.1 hd)
  exact (G p e s0 s m args below meth c T' L Bs C X' e' N).pre st'
theorem go_inst {idx : Nat} {C0 : String} {a : Addr} (D : Dc bytes pc (.instanceof idx) 3 pc') (w : (Cond.classLink y.cls idx C0).before a0 Z = true) (F : Ins Z h a C0 true) (G : Go wd K₀ l Z R y bytes ml ret n0 kc ks Q h k n pc' ls (.int 1 :: st)) : Go wd K₀ l Z R y bytes ml ret n0 kc ks Q h k n pc ls (.ref a :: st) := by
  intro p e s0 s m args below meth c T L Bs C X hh N
  obtain ⟨hd, rfl⟩ := D
  obtain ⟨T', X', e', st'⟩ := instY X C.1 C.2.2.2.2.1 C.2.2.2.1 w hh F (g := mkF m pc ls.toArray (.ref a :: st)) rfl rfl (hb C.2.1 hd)
  exact (G p e s0 s m args below meth c T' L Bs C X' e' N).pre st'
theorem go_wcallS1 {y' : MethodName} {b' : ByteArray} {m' : Nat} {r' : Option FieldType} {rm : Room} {idx W : Nat} {argsL : List Value} {P : Value → Heap → Prop} (D : Dc bytes pc (.invokestatic idx) 3 pc') (hM : Con true l Z y' b' m' r' rm argsL.toArray h n0 (R1 P))
    (w1 : (Cond.methodLink y.cls idx y').before a0 Z = true) (w2 : (Cond.static y').before a0 Z = true) (w3 : (Cond.initialized y'.cls).before a0 Z = true) (w4 : (Cond.code y' b' m' r').before a0 Z = true) (hy : y'.cls ≠ "java/lang/invoke/MethodHandle" ∧ y'.cls ≠ "java/lang/invoke/VarHandle")
    (hlen : ∀ sig, parseMethodDescriptor y'.desc = some sig → argsL.length = sig.parameters.length) {st₀ : List Value} (hst : st₀ = argsL.reverse ++ st) (hW : (st.map fun v => v.category).sum = W) (hf : rm.frames + 1 ≤ R.frames) (hlo : W + (m' + 11) + rm.locals ≤ R.locals) (hk : k + rm.cells ≤ R.cells) (hn : n + rm.slots ≤ R.slots) (hls : ls.length = ml)
    (G : ∀ w h', P w h' → Go true KT l Z R y bytes ml ret n0 kc ks Q h' (k + rm.cells) (n + rm.slots) pc' ls (w :: st)) : Go true K₀ l Z R y bytes ml ret n0 kc ks Q h k n pc ls st₀ := by
  subst hst
  intro p e s0 s m args below meth c T L Bs C X hh N
  obtain ⟨hd, rfl⟩ := D
  have hZ := C.2.2.2.2.1
  obtain ⟨v, vm₁, ⟨B, Lb, kb, nb⟩, -, X', hSi, -, ⟨Lq, ⟨⟨hQ, hsz⟩, Ns⟩, e1, e2, e3⟩, st'⟩ := callSS X C.1 (y := y') C.2.2.2.1 (mvT hZ w1) (mvT hZ w2) (mvT hZ w3) (mvT hZ w4) hy (backOfS (W := W) (Q := fun v h' L => ((R1 P) v h' ∧ h.size ≤ h'.size) ∧ Fr n0 L) (hM []) hZ w4 w3 hf hlo) (g := mkF m pc ls.toArray (argsL.reverse ++ st)) rfl
    (by rw [C.2.2.1]; simpa using hls) (argsL := argsL) (rest := st) hlen rfl (by show 2 * 0 + _ ≤ W; rw [← hW]; omega) (hb C.2.1 hd) (fun _ _ => ⟨rfl, hh, hk, hn⟩)
  dsimp only [Pt.U, Pt.locs, Pt.cells, Pt.slots] at X' hSi hQ hsz e1 e2 e3 st'
  subst e1 e2 e3
  obtain ⟨w, rfl, hP⟩ := hQ
  exact (G w B.heap hP p e s0 _ m args below meth c B _ (Bs.since hSi hsz) (C.since hSi) X' rfl (N.app Ns)).pre (fun t q => st'.trans q)
theorem go_wcallV1 {y' : MethodName} {b' : ByteArray} {m' : Nat} {r' : Option FieldType} {rm : Room} {idx W : Nat} {argsL : List Value} {P : Value → Heap → Prop} {x' : MethodName} {K : String} {a : Addr} (D : Dc bytes pc (.invokevirtual idx) 3 pc') (hM : Con true l Z y' b' m' r' rm (.ref a :: argsL).toArray h n0 (R1 P)) (E : Exa Z h a K)
    (w1 : (Cond.methodLink y.cls idx x').before a0 Z = true) (w5 : (Cond.declares x').before a0 Z = true) (nf : ∀ s : State, Z.Warmed39 s.vm → NotFace s x') (w6 : (Cond.selects K x' y').before a0 Z = true) (w2 : (Cond.instanceMethod y').before a0 Z = true) (w3 : (Cond.initialized y'.cls).before a0 Z = true) (w4 : (Cond.code y' b' m' r').before a0 Z = true)
    (hy : x'.cls ≠ "java/lang/invoke/MethodHandle" ∧ x'.cls ≠ "java/lang/invoke/VarHandle") (hlen : ∀ sig, parseMethodDescriptor x'.desc = some sig → argsL.length = sig.parameters.length) {st₀ : List Value} (hst : st₀ = argsL.reverse ++ .ref a :: st) (hW : (st.map fun v => v.category).sum = W) (hf : rm.frames + 1 ≤ R.frames) (hlo : W + (m' + 11) + rm.locals ≤ R.locals) (hk : k + rm.cells ≤ R.cells) (hn : n + rm.slots ≤ R.slots) (hls : ls.length = ml)
    (G : ∀ w h', P w h' → Go true KT l Z R y bytes ml ret n0 kc ks Q h' (k + rm.cells) (n + rm.slots) pc' ls (w :: st)) : Go true K₀ l Z R y bytes ml ret n0 kc ks Q h k n pc ls st₀ := by
  subst hst
  intro p e s0 s m args below meth c T L Bs C X hh N
  obtain ⟨hd, rfl⟩ := D
  have hZ := C.2.2.2.2.1
  obtain ⟨cq, kq, qa, qb, qc⟩ := isOf (T := T) hZ hh E
  obtain ⟨v, vm₁, ⟨B, Lb, kb, nb⟩, -, X', hSi, -, ⟨Lq, ⟨⟨hQ, hsz⟩, Ns⟩, e1, e2, e3⟩, st'⟩ := X.virtualBackS C.1 (y := x') (z := y') C.2.2.2.1 (mvT hZ w1) (mvT hZ w5) (nf s hZ) (mvT hZ w6) (mvT hZ w2) hy (backOfS (W := W) (Q := fun v h' L => ((R1 P) v h' ∧ h.size ≤ h'.size) ∧ Fr n0 L) (hM []) hZ w4 w3 hf hlo) qa qc (g := mkF m pc ls.toArray (argsL.reverse ++ .ref a :: st)) rfl
    (by rw [C.2.2.1]; simpa using hls) (Steps.refl _) (argsL := argsL) (rest := st) hlen rfl (by show 2 * 0 + _ ≤ W; rw [← hW]; omega) (hb C.2.1 hd) (fun _ _ => ⟨rfl, hh, hk, hn⟩)
  dsimp only [Pt.U, Pt.locs, Pt.cells, Pt.slots] at X' hSi hQ hsz e1 e2 e3 st'
  subst e1 e2 e3
  obtain ⟨w, rfl, hP⟩ := hQ
  exact (G w B.heap hP p e s0 _ m args below meth c B _ (Bs.since hSi hsz) (C.since hSi) X' rfl (N.app Ns)).pre (fun t q => st'.trans q)
theorem go_wcallP1 {y' : MethodName} {b' : ByteArray} {m' : Nat} {r' : Option FieldType} {rm : Room} {idx W : Nat} {argsL : List Value} {P : Value → Heap → Prop} {K : String} {a : Addr} (D : Dc bytes pc (.invokevirtual idx) 3 pc') (hM : Con true l Z y' b' m' r' rm (.ref a :: argsL).toArray h n0 (R1 P)) (E : Exa Z h a K)
    (w1 : (Cond.methodLink y.cls idx y').before a0 Z = true) (w2 : (Cond.instanceMethod y').before a0 Z = true) {kk : Nat} (wi : (Cond.instantiable y'.cls kk).before a0 Z = true) (w5 : (Cond.privateMethod y').before a0 Z = true) (w3 : (Cond.initialized y'.cls).before a0 Z = true) (w4 : (Cond.code y' b' m' r').before a0 Z = true) (hy : y'.cls ≠ "java/lang/invoke/MethodHandle" ∧ y'.cls ≠ "java/lang/invoke/VarHandle")
    (hlen : ∀ sig, parseMethodDescriptor y'.desc = some sig → argsL.length = sig.parameters.length) {st₀ : List Value} (hst : st₀ = argsL.reverse ++ .ref a :: st) (hW : (st.map fun v => v.category).sum = W) (hf : rm.frames + 1 ≤ R.frames) (hlo : W + (m' + 11) + rm.locals ≤ R.locals) (hk : k + rm.cells ≤ R.cells) (hn : n + rm.slots ≤ R.slots) (hls : ls.length = ml)
    (G : ∀ w h', P w h' → Go true KT l Z R y bytes ml ret n0 kc ks Q h' (k + rm.cells) (n + rm.slots) pc' ls (w :: st)) : Go true K₀ l Z R y bytes ml ret n0 kc ks Q h k n pc ls st₀ := by
  subst hst
  intro p e s0 s m args below meth c T L Bs C X hh N
  obtain ⟨hd, rfl⟩ := D
  have hZ := C.2.2.2.2.1
  obtain ⟨cq, q1, q2⟩ := E.cell
  have wi' : (Cond.instantiable y'.cls kk).before args s = true := mvT hZ wi
  obtain ⟨c2, k2, i1, i2, -, i4, -⟩ := Cond.instantiable_spec wi'
  have hpa : s.PrivateAt y' := Cond.privateMethod_at (mvP hZ w5 (args := #[]))
  have w6 : (Cond.selects y'.cls y' y').before args s = true := selects_self_of_private i1 i2 (Bool.or_eq_false_iff.mp i4).1 hpa (mvT hZ w2) hy
  obtain ⟨v, vm₁, ⟨B, Lb, kb, nb⟩, -, X', hSi, -, ⟨Lq, ⟨⟨hQ, hsz⟩, Ns⟩, e1, e2, e3⟩, st'⟩ := X.privateBackS C.1 (y := y') C.2.2.2.1 (mvT hZ w1) (mvT hZ w2) w6 hpa (mvT hZ w4) hy (backOfS (W := W) (Q := fun v h' L => ((R1 P) v h' ∧ h.size ≤ h'.size) ∧ Fr n0 L) (hM []) hZ w4 w3 hf hlo) (g := mkF m pc ls.toArray (argsL.reverse ++ .ref a :: st)) rfl
    (by rw [C.2.2.1]; simpa using hls) (Steps.refl _) (a := a) (by rw [hh]; exact q1) q2 (argsL := argsL) (rest := st) hlen rfl (by show 2 * 0 + _ ≤ W; rw [← hW]; omega) (hb C.2.1 hd) (fun _ _ => ⟨rfl, hh, hk, hn⟩)
  dsimp only [Pt.U, Pt.locs, Pt.cells, Pt.slots] at X' hSi hQ hsz e1 e2 e3 st'
  subst e1 e2 e3
  obtain ⟨w, rfl, hP⟩ := hQ
  exact (G w B.heap hP p e s0 _ m args below meth c B _ (Bs.since hSi hsz) (C.since hSi) X' rfl (N.app Ns)).pre (fun t q => st'.trans q)
theorem go_wcallS0 {y' : MethodName} {b' : ByteArray} {m' : Nat} {r' : Option FieldType} {rm : Room} {idx W : Nat} {argsL : List Value} {P : Heap → Prop} (D : Dc bytes pc (.invokestatic idx) 3 pc') (hM : Con true l Z y' b' m' r' rm argsL.toArray h n0 (R0 P))
    (w1 : (Cond.methodLink y.cls idx y').before a0 Z = true) (w2 : (Cond.static y').before a0 Z = true) (w3 : (Cond.initialized y'.cls).before a0 Z = true) (w4 : (Cond.code y' b' m' r').before a0 Z = true) (hy : y'.cls ≠ "java/lang/invoke/MethodHandle" ∧ y'.cls ≠ "java/lang/invoke/VarHandle")
    (hlen : ∀ sig, parseMethodDescriptor y'.desc = some sig → argsL.length = sig.parameters.length) {st₀ : List Value} (hst : st₀ = argsL.reverse ++ st) (hW : (st.map fun v => v.category).sum = W) (hf : rm.frames + 1 ≤ R.frames) (hlo : W + (m' + 11) + rm.locals ≤ R.locals) (hk : k + rm.cells ≤ R.cells) (hn : n + rm.slots ≤ R.slots) (hls : ls.length = ml)
    (G : ∀ h', P h' → Go true KT l Z R y bytes ml ret n0 kc ks Q h' (k + rm.cells) (n + rm.slots) pc' ls st) : Go true K₀ l Z R y bytes ml ret n0 kc ks Q h k n pc ls st₀ := by
  subst hst
  intro p e s0 s m args below meth c T L Bs C X hh N
  obtain ⟨hd, rfl⟩ := D
  have hZ := C.2.2.2.2.1
  obtain ⟨v, vm₁, ⟨B, Lb, kb, nb⟩, -, X', hSi, -, ⟨Lq, ⟨⟨hQ, hsz⟩, Ns⟩, e1, e2, e3⟩, st'⟩ := callSS X C.1 (y := y') C.2.2.2.1 (mvT hZ w1) (mvT hZ w2) (mvT hZ w3) (mvT hZ w4) hy (backOfS (W := W) (Q := fun v h' L => ((R0 P) v h' ∧ h.size ≤ h'.size) ∧ Fr n0 L) (hM []) hZ w4 w3 hf hlo) (g := mkF m pc ls.toArray (argsL.reverse ++ st)) rfl
    (by rw [C.2.2.1]; simpa using hls) (argsL := argsL) (rest := st) hlen rfl (by show 2 * 0 + _ ≤ W; rw [← hW]; omega) (hb C.2.1 hd) (fun _ _ => ⟨rfl, hh, hk, hn⟩)
  dsimp only [Pt.U, Pt.locs, Pt.cells, Pt.slots] at X' hSi hQ hsz e1 e2 e3 st'
  subst e1 e2 e3
  obtain ⟨rfl, hP⟩ := hQ
  exact (G B.heap hP p e s0 _ m args below meth c B _ (Bs.since hSi hsz) (C.since hSi) X' rfl (N.app Ns)).pre (fun t q => st'.trans q)
theorem go_wcallN0 {y' : MethodName} {b' : ByteArray} {m' : Nat} {r' : Option FieldType} {rm : Room} {idx W : Nat} {argsL : List Value} {P : Heap → Prop} {a : Addr} (D : Dc bytes pc (.invokespecial idx) 3 pc') (hi : y'.name = "<init>") (hr' : r' = none) (hM : Con true l Z y' b' m' r' rm (.ref a :: argsL).toArray h n0 (R0 P))
    (w1 : (Cond.methodLink y.cls idx y').before a0 Z = true) (w2 : (Cond.instanceMethod y').before a0 Z = true) (w3 : (Cond.initialized y'.cls).before a0 Z = true) (w4 : (Cond.code y' b' m' r').before a0 Z = true) (hy : y'.cls ≠ "java/lang/invoke/MethodHandle" ∧ y'.cls ≠ "java/lang/invoke/VarHandle")
    (hlen : ∀ sig, parseMethodDescriptor y'.desc = some sig → argsL.length = sig.parameters.length) {st₀ : List Value} (hst : st₀ = argsL.reverse ++ .ref a :: st) (hW : (st.map fun v => v.category).sum = W) (hf : rm.frames + 1 ≤ R.frames) (hlo : W + (m' + 11) + rm.locals ≤ R.locals) (hk : k + rm.cells ≤ R.cells) (hn : n + rm.slots ≤ R.slots) (hls : ls.length = ml)
    (G : ∀ h', P h' → Go true KT l Z R y bytes ml ret n0 kc ks Q h' (k + rm.cells) (n + rm.slots) pc' ls st) : Go true K₀ l Z R y bytes ml ret n0 kc ks Q h k n pc ls st₀ := by
  subst hst hr'
  intro p e s0 s m args below meth c T L Bs C X hh N
  obtain ⟨hd, rfl⟩ := D
  have hZ := C.2.2.2.2.1
  obtain ⟨v, vm₁, ⟨B, Lb, kb, nb⟩, -, X', hSi, -, ⟨Lq, ⟨⟨hQ, hsz⟩, Ns⟩, e1, e2, e3⟩, st'⟩ := X.specialBackS C.1 (y := y') hi C.2.2.2.1 (mvT hZ w1) (mvT hZ w2) (mvT hZ w4) hy (backOfS (W := W) (Q := fun v h' L => ((R0 P) v h' ∧ h.size ≤ h'.size) ∧ Fr n0 L) (hM []) hZ w4 w3 hf hlo) (g := mkF m pc ls.toArray (argsL.reverse ++ .ref a :: st)) rfl
    (by rw [C.2.2.1]; simpa using hls) (Steps.refl _) (a := a) (argsL := argsL) (rest := st) hlen rfl (by show 2 * 0 + _ ≤ W; rw [← hW]; omega) (hb C.2.1 hd) (fun _ _ => ⟨rfl, hh, hk, hn⟩)
  dsimp only [Pt.U, Pt.locs, Pt.cells, Pt.slots] at X' hSi hQ hsz e1 e2 e3 st'
  subst e1 e2 e3
  obtain ⟨rfl, hP⟩ := hQ
  exact (G B.heap hP p e s0 _ m args below meth c B _ (Bs.since hSi hsz) (C.since hSi) X' rfl (N.app Ns)).pre (fun t q => st'.trans q)
theorem go_wcallV0 {y' : MethodName} {b' : ByteArray} {m' : Nat} {r' : Option FieldType} {rm : Room} {idx W : Nat} {argsL : List Value} {P : Heap → Prop} {x' : MethodName} {K : String} {a : Addr} (D : Dc bytes pc (.invokevirtual idx) 3 pc') (hM : Con true l Z y' b' m' r' rm (.ref a :: argsL).toArray h n0 (R0 P)) (E : Exa Z h a K)
    (w1 : (Cond.methodLink y.cls idx x').before a0 Z = true) (w5 : (Cond.declares x').before a0 Z = true) (nf : ∀ s : State, Z.Warmed39 s.vm → NotFace s x') (w6 : (Cond.selects K x' y').before a0 Z = true) (w2 : (Cond.instanceMethod y').before a0 Z = true) (w3 : (Cond.initialized y'.cls).before a0 Z = true) (w4 : (Cond.code y' b' m' r').before a0 Z = true)
    (hy : x'.cls ≠ "java/lang/invoke/MethodHandle" ∧ x'.cls ≠ "java/lang/invoke/VarHandle") (hlen : ∀ sig, parseMethodDescriptor x'.desc = some sig → argsL.length = sig.parameters.length) {st₀ : List Value} (hst : st₀ = argsL.reverse ++ .ref a :: st) (hW : (st.map fun v => v.category).sum = W) (hf : rm.frames + 1 ≤ R.frames) (hlo : W + (m' + 11) + rm.locals ≤ R.locals) (hk : k + rm.cells ≤ R.cells) (hn : n + rm.slots ≤ R.slots) (hls : ls.length = ml)
    (G : ∀ h', P h' → Go true KT l Z R y bytes ml ret n0 kc ks Q h' (k + rm.cells) (n + rm.slots) pc' ls st) : Go true K₀ l Z R y bytes ml ret n0 kc ks Q h k n pc ls st₀ := by
  subst hst
  intro p e s0 s m args below meth c T L Bs C X hh N
  obtain ⟨hd, rfl⟩ := D
  have hZ := C.2.2.2.2.1
  obtain ⟨cq, kq, qa, qb, qc⟩ := isOf (T := T) hZ hh E
  obtain ⟨v, vm₁, ⟨B, Lb, kb, nb⟩, -, X', hSi, -, ⟨Lq, ⟨⟨hQ, hsz⟩, Ns⟩, e1, e2, e3⟩, st'⟩ := X.virtualBackS C.1 (y := x') (z := y') C.2.2.2.1 (mvT hZ w1) (mvT hZ w5) (nf s hZ) (mvT hZ w6) (mvT hZ w2) hy (backOfS (W := W) (Q := fun v h' L => ((R0 P) v h' ∧ h.size ≤ h'.size) ∧ Fr n0 L) (hM []) hZ w4 w3 hf hlo) qa qc (g := mkF m pc ls.toArray (argsL.reverse ++ .ref a :: st)) rfl
    (by rw [C.2.2.1]; simpa using hls) (Steps.refl _) (argsL := argsL) (rest := st) hlen rfl (by show 2 * 0 + _ ≤ W; rw [← hW]; omega) (hb C.2.1 hd) (fun _ _ => ⟨rfl, hh, hk, hn⟩)
  dsimp only [Pt.U, Pt.locs, Pt.cells, Pt.slots] at X' hSi hQ hsz e1 e2 e3 st'
  subst e1 e2 e3
  obtain ⟨rfl, hP⟩ := hQ
  exact (G B.heap hP p e s0 _ m args below meth c B _ (Bs.since hSi hsz) (C.since hSi) X' rfl (N.app Ns)).pre (fun t q => st'.trans q)
theorem go_wcallP0 {y' : MethodName} {b' : ByteArray} {m' : Nat} {r' : Option FieldType} {rm : Room} {idx W : Nat} {argsL : List Value} {P : Heap → Prop} {K : String} {a : Addr} (D : Dc bytes pc (.invokevirtual idx) 3 pc') (hM : Con true l Z y' b' m' r' rm (.ref a :: argsL).toArray h n0 (R0 P)) (E : Exa Z h a K)
    (w1 : (Cond.methodLink y.cls idx y').before a0 Z = true) (w2 : (Cond.instanceMethod y').before a0 Z = true) {kk : Nat} (wi : (Cond.instantiable y'.cls kk).before a0 Z = true) (w5 : (Cond.privateMethod y').before a0 Z = true) (w3 : (Cond.initialized y'.cls).before a0 Z = true) (w4 : (Cond.code y' b' m' r').before a0 Z = true) (hy : y'.cls ≠ "java/lang/invoke/MethodHandle" ∧ y'.cls ≠ "java/lang/invoke/VarHandle")
    (hlen : ∀ sig, parseMethodDescriptor y'.desc = some sig → argsL.length = sig.parameters.length) {st₀ : List Value} (hst : st₀ = argsL.reverse ++ .ref a :: st) (hW : (st.map fun v => v.category).sum = W) (hf : rm.frames + 1 ≤ R.frames) (hlo : W + (m' + 11) + rm.locals ≤ R.locals) (hk : k + rm.cells ≤ R.cells) (hn : n + rm.slots ≤ R.slots) (hls : ls.length = ml)
    (G : ∀ h', P h' → Go true KT l Z R y bytes ml ret n0 kc ks Q h' (k + rm.cells) (n + rm.slots) pc' ls st) : Go true K₀ l Z R y bytes ml ret n0 kc ks Q h k n pc ls st₀ := by
  subst hst
  intro p e s0 s m args below meth c T L Bs C X hh N
  obtain ⟨hd, rfl⟩ := D
  have hZ := C.2.2.2.2.1
  obtain ⟨cq, q1, q2⟩ := E.cell
  have wi' : (Cond.instantiable y'.cls kk).before args s = true := mvT hZ wi
  obtain ⟨c2, k2, i1, i2, -, i4, -⟩ := Cond.instantiable_spec wi'
  have hpa : s.PrivateAt y' := Cond.privateMethod_at (mvP hZ w5 (args := #[]))
  have w6 : (Cond.selects y'.cls y' y').before args s = true := selects_self_of_private i1 i2 (Bool.or_eq_false_iff.mp i4).1 hpa (mvT hZ w2) hy
  obtain ⟨v, vm₁, ⟨B, Lb, kb, nb⟩, -, X', hSi, -, ⟨Lq, ⟨⟨hQ, hsz⟩, Ns⟩, e1, e2, e3⟩, st'⟩ := X.privateBackS C.1 (y := y') C.2.2.2.1 (mvT hZ w1) (mvT hZ w2) w6 hpa (mvT hZ w4) hy (backOfS (W := W) (Q := fun v h' L => ((R0 P) v h' ∧ h.size ≤ h'.size) ∧ Fr n0 L) (hM []) hZ w4 w3 hf hlo) (g := mkF m pc ls.toArray (argsL.reverse ++ .ref a :: st)) rfl
    (by rw [C.2.2.1]; simpa using hls) (Steps.refl _) (a := a) (by rw [hh]; exact q1) q2 (argsL := argsL) (rest := st) hlen rfl (by show 2 * 0 + _ ≤ W; rw [← hW]; omega) (hb C.2.1 hd) (fun _ _ => ⟨rfl, hh, hk, hn⟩)
  dsimp only [Pt.U, Pt.locs, Pt.cells, Pt.slots] at X' hSi hQ hsz e1 e2 e3 st'
  subst e1 e2 e3
  obtain ⟨rfl, hP⟩ := hQ
  exact (G B.heap hP p e s0 _ m args below meth c B _ (Bs.since hSi hsz) (C.since hSi) X' rfl (N.app Ns)).pre (fun t q => st'.trans q)
theorem go_initO {idx W : Nat} {a : Addr} (D : Dc bytes pc (.invokespecial idx) 3 pc') (w1 : (Cond.methodLink y.cls idx Lib.objectInit).before a0 Z = true) (w2 : (Cond.instanceMethod Lib.objectInit).before a0 Z = true) (w3 : (Cond.code Lib.objectInit ⟨#[0xb1]⟩ 1 none).before a0 Z = true)
    (hls : ls.length = ml) (hf : 1 ≤ R.frames) (hW : (st.map fun v => v.category).sum = W) (hlo : W + 12 ≤ R.locals) (G : Go wd K₀ l Z R y bytes ml ret n0 kc ks Q h k n pc' ls st) : Go wd K₀ l Z R y bytes ml ret n0 kc ks Q h k n pc ls (.ref a :: st) := by
  intro p e s0 s m args below meth c T L Bs C X hh N
  obtain ⟨hd, rfl⟩ := D
  obtain ⟨T', X', e', st'⟩ := initO X C.1 C.2.2.2.2.1 C.2.2.2.1 w1 w2 w3 hh (g := mkF m pc ls.toArray (.ref a :: st)) rfl (by rw [C.2.2.1]; simpa using hls) rfl (hb C.2.1 hd) hf (W := W) (by show 2 * 0 + _ ≤ W; rw [← hW]; omega) hlo
  exact (G p e s0 s m args below meth c T' L Bs C X' e' N).pre st'
/-! ## 2. fields, objects, arrays, by the library's own facts -/
theorem go_getF {idx : Nat} {R0 O nm d host : String} {a : Addr} {v : Value} (D : Dc bytes pc (.getfield idx) 3 pc') (w : (Cond.fieldLink y.cls idx R0 nm d).before a0 Z = true ∨ (Cond.fieldLinkNest y.cls idx R0 nm d host).before a0 Z = true) (via : Via Z R0 O nm d) (F : Fld Z h a O nm d v) (G : Go wd K₀ l Z R y bytes ml ret n0 kc ks Q h k n pc' ls (v :: st)) : Go wd K₀ l Z R y bytes ml ret n0 kc ks Q h k n pc ls (.ref a :: st) := by
  intro p e s0 s m args below meth c T L Bs C X hh N
  obtain ⟨hd, rfl⟩ := D
  obtain ⟨T', X', e', st'⟩ := getF X C.1 C.2.2.2.2.1 C.2.2.2.1 w via hh F (g := mkF m pc ls.toArray (.ref a :: st)) rfl rfl (hb C.2.1 hd)
  exact (G p e s0 s m args below meth c T' L Bs C X' e' N).pre st'
theorem go_getS {idx : Nat} {R0 O nm d host : String} {v : Value} (D : Dc bytes pc (.getstatic idx) 3 pc') (w : (Cond.fieldLink y.cls idx R0 nm d).before a0 Z = true ∨ (Cond.fieldLinkNest y.cls idx R0 nm d host).before a0 Z = true) (via : Via Z R0 O nm d) (F : Sta Z h O nm d v) (G : Go wd K₀ l Z R y bytes ml ret n0 kc ks Q h k n pc' ls (v :: st)) : Go wd K₀ l Z R y bytes ml ret n0 kc ks Q h k n pc ls st := by
  intro p e s0 s m args below meth c T L Bs C X hh N
  obtain ⟨hd, rfl⟩ := D
  obtain ⟨T', X', e', st'⟩ := getS2 X C.1 C.2.2.2.2.1 C.2.2.2.1 w via hh F (g := mkF m pc ls.toArray st) rfl (hb C.2.1 hd)
  exact (G p e s0 s m args below meth c T' L Bs C X' e' N).pre st'
theorem go_putF {idx kk : Nat} {R0 O nm d host K : String} {ty : FieldType} {a : Addr} {v old : Value} (D : Dc bytes pc (.putfield idx) 3 pc') (w : (Cond.fieldLink y.cls idx R0 nm d).before a0 Z = true ∨ (Cond.fieldLinkNest y.cls idx R0 nm d host).before a0 Z = true) (via : Via Z R0 O nm d) (F : Fld Z h a O nm d old) (E : Exa Z h a K)
    (Lw : (Cond.lays K O nm d).before a0 Z = true ∨ ((Cond.laysFinal K O nm d).before a0 Z = true ∧ y.cls = O ∧ y.name = "<init>")) (wi : (Cond.instantiable K kk).before a0 Z = true) (hty : parseFieldDescriptor d = some ty) (hnr : narrow ty v = v) (hfi : fits ty v = true) (ha : n0 ≤ a)
    (G : ∀ h', Wr h h' a (Jvm.RoadKit.slotOf Z O nm d) v → Go wd K₀ l Z R y bytes ml ret n0 kc ks Q h' k n pc' ls st) : Go wd K₀ l Z R y bytes ml ret n0 kc ks Q h k n pc ls (v :: .ref a :: st) := by
  intro p e s0 s m args below meth c T L Bs C X hh N
  obtain ⟨hd, rfl⟩ := D
  obtain ⟨T', h', X', e', W', st'⟩ := putF X C.1 C.2.2.2.2.1 C.2.2.2.1 w via hh F E (Lw.imp id fun q => ⟨q.1, q.2.1, C.2.2.2.2.2.2.2.1.trans q.2.2⟩) wi hty hnr hfi (g := mkF m pc ls.toArray (v :: .ref a :: st)) rfl rfl (hb C.2.1 hd)
  exact (G h' W' p e s0 s m args below meth c T' _ (Bs.mono (Nat.le_of_eq W'.size.symm)) C X' e' (Fr.snoc X' N ha)).pre st'
theorem go_newO {idx sl : Nat} {K : String} (D : Dc bytes pc (.new idx) 3 pc') (w : (Cond.classLink y.cls idx K).before a0 Z = true) (wi : (Cond.instantiable K sl).before a0 Z = true) (wz : (Cond.initialized K).before a0 Z = true) (hk : k + 1 ≤ R.cells) (hn : n + sl ≤ R.slots)
    (G : ∀ h', Ext h h' → Exa Z h' h.size K → (∀ {O nm d : String} {ty : FieldType}, Laid Z a0 K O nm d → parseFieldDescriptor d = some ty → Fld Z h' h.size O nm d (defaultValue ty)) → Go wd K₀ l Z R y bytes ml ret n0 kc ks Q h' (k + 1) (n + sl) pc' ls (.ref h.size :: st)) : Go wd K₀ l Z R y bytes ml ret n0 kc ks Q h k n pc ls st := by
  intro p e s0 s m args below meth c T L Bs C X hh N
  obtain ⟨hd, rfl⟩ := D
  obtain ⟨T', h', X', e', E', A', F', -, st'⟩ := newO X C.1 C.2.2.2.2.1 C.2.2.2.1 w wi wz hh (g := mkF m pc ls.toArray st) rfl (hb C.2.1 hd) hk hn
  exact (G h' E' A' F' p e s0 s m args below meth c T' _ (Bs.mono E'.1) C X' e' N).pre st'
theorem go_newP {aty : ArrayType} {z : Int32} {ad : String} (D : Dc bytes pc (.newarray aty) 2 pc') (w : (Cond.arrayClass (newarray.typeOf aty)).before a0 Z = true) (hz : ¬ z < 0) (cap : Nat) (hcap : z.toNatClampNeg ≤ cap) (hb8 : cap * 8 ≤ 536870912) (hk : k + 1 ≤ R.cells) (hn : n + cap ≤ R.slots) (had : "[" ++ (newarray.typeOf aty).toString = ad)
    (G : ∀ h' cA, Ext h h' → Arr Z h' h.size (newA cA (newarray.typeOf aty) z) (newarray.typeOf aty) → Exa Z h' h.size ad → Go wd K₀ l Z R y bytes ml ret n0 kc ks Q h' (k + 1) (n + cap) pc' ls (.ref h.size :: st)) : Go wd K₀ l Z R y bytes ml ret n0 kc ks Q h k n pc ls (.int z :: st) := by
  intro p e s0 s m args below meth c T L Bs C X hh N
  obtain ⟨hd, rfl⟩ := D
  obtain ⟨T', h', cA, X', e', E', A', F', st'⟩ := newPE X C.1 C.2.2.2.2.1 w hh (g := mkF m pc ls.toArray (.int z :: st)) rfl (hb C.2.1 hd) rfl hz hcap hb8 hk hn had
  exact (G h' cA E' A' F' p e s0 s m args below meth c T' _ (Bs.mono E'.1) C X' e' N).pre st'
theorem go_newR {idx : Nat} {K : String} {z : Int32} {ad : String} (D : Dc bytes pc (.anewarray idx) 3 pc') (w1 : (Cond.classLink y.cls idx K).before a0 Z = true) (w2 : (Cond.arrayOver (.object K)).before a0 Z = true) (hz : ¬ z < 0) (cap : Nat) (hcap : z.toNatClampNeg ≤ cap) (hb8 : cap * 8 ≤ 536870912) (hk : k + 1 ≤ R.cells) (hn : n + cap ≤ R.slots) (had : "[" ++ (FieldType.object K).toString = ad)
    (G : ∀ h' cA, Ext h h' → Arr Z h' h.size (newA cA (.object K) z) (.object K) → Exa Z h' h.size ad → Ovr Z cA K → Go wd K₀ l Z R y bytes ml ret n0 kc ks Q h' (k + 1) (n + cap) pc' ls (.ref h.size :: st)) : Go wd K₀ l Z R y bytes ml ret n0 kc ks Q h k n pc ls (.int z :: st) := by
  intro p e s0 s m args below meth c T L Bs C X hh N
  obtain ⟨hd, rfl⟩ := D
  obtain ⟨T', h', cA, X', e', E', A', F', O', st'⟩ := newRE X C.1 C.2.2.2.2.1 C.2.2.2.1 w1 w2 hh (g := mkF m pc ls.toArray (.int z :: st)) rfl (hb C.2.1 hd) rfl hz hcap hb8 hk hn had
  exact (G h' cA E' A' F' O' p e s0 s m args below meth c T' _ (Bs.mono E'.1) C X' e' N).pre st'
theorem go_len {a : Addr} {cl : Cell} {ty : FieldType} {z : Int32} (D : Dc bytes pc .arraylength 1 pc') (A : Arr Z h a cl ty) (hz : cl.slots.size.toInt32 = z) (G : Go wd K₀ l Z R y bytes ml ret n0 kc ks Q h k n pc' ls (.int z :: st)) : Go wd K₀ l Z R y bytes ml ret n0 kc ks Q h k n pc ls (.ref a :: st) := by
  intro p e s0 s m args below meth c T L Bs C X hh N
  obtain ⟨hd, rfl⟩ := D
  subst hz
  exact (G p e s0 s m args below meth c T L Bs C X hh N).pre fun t q => X.arraylength C.1 (by rw [hh]; exact A.1) (State.isArrayOf_alike C.2.2.2.2.1.alike A.2.1) (g := mkF m pc ls.toArray (.ref a :: st)) rfl rfl (hb C.2.1 hd) _ q
theorem go_iaload {a : Addr} {cl : Cell} {j : Int32} {v : Value} (D : Dc bytes pc .iaload 1 pc') (A : Arr Z h a cl .int) (hj : ¬ (j < 0 ∨ cl.slots.size ≤ j.toNatClampNeg)) (hv : cl.slots[j.toNatClampNeg]? = some v) (G : Go wd K₀ l Z R y bytes ml ret n0 kc ks Q h k n pc' ls (v :: st)) : Go wd K₀ l Z R y bytes ml ret n0 kc ks Q h k n pc ls (.int j :: .ref a :: st) := by
  intro p e s0 s m args below meth c T L Bs C X hh N
  obtain ⟨hd, rfl⟩ := D
  exact (G p e s0 s m args below meth c T L Bs C X hh N).pre fun t q => X.iaload C.1 (j := j) (v := v) (by rw [hh]; exact A.1) (State.isArrayOf_alike C.2.2.2.2.1.alike A.2.1) A.2.2 hj hv (g := mkF m pc ls.toArray (.int j :: .ref a :: st)) rfl rfl (hb C.2.1 hd) _ q
theorem go_caload {a : Addr} {cl : Cell} {j : Int32} {v : Value} (D : Dc bytes pc .caload 1 pc') (A : Arr Z h a cl .char) (hj : ¬ (j < 0 ∨ cl.slots.size ≤ j.toNatClampNeg)) (hv : cl.slots[j.toNatClampNeg]? = some v) (G : Go wd K₀ l Z R y bytes ml ret n0 kc ks Q h k n pc' ls (v :: st)) : Go wd K₀ l Z R y bytes ml ret n0 kc ks Q h k n pc ls (.int j :: .ref a :: st) := by
  intro p e s0 s m args below meth c T L Bs C X hh N
  obtain ⟨hd, rfl⟩ := D
  exact (G p e s0 s m args below meth c T L Bs C X hh N).pre fun t q => X.caload C.1 (j := j) (v := v) (by rw [hh]; exact A.1) (State.isArrayOf_alike C.2.2.2.2.1.alike A.2.1) A.2.2 hj hv (g := mkF m pc ls.toArray (.int j :: .ref a :: st)) rfl rfl (hb C.2.1 hd) _ q
theorem go_baload {a : Addr} {cl : Cell} {j : Int32} {v : Value} (D : Dc bytes pc .baload 1 pc') (A : Arr Z h a cl .byte) (hj : ¬ (j < 0 ∨ cl.slots.size ≤ j.toNatClampNeg)) (hv : cl.slots[j.toNatClampNeg]? = some v) (G : Go wd K₀ l Z R y bytes ml ret n0 kc ks Q h k n pc' ls (v :: st)) : Go wd K₀ l Z R y bytes ml ret n0 kc ks Q h k n pc ls (.int j :: .ref a :: st) := by
  intro p e s0 s m args below meth c T L Bs C X hh N
  obtain ⟨hd, rfl⟩ := D
  exact (G p e s0 s m args below meth c T L Bs C X hh N).pre fun t q => X.baloadBytes C.1 (j := j) (v := v) (by rw [hh]; exact A.1) (State.isArrayOf_alike C.2.2.2.2.1.alike A.2.1) A.2.2 hj hv (g := mkF m pc ls.toArray (.int j :: .ref a :: st)) rfl rfl (hb C.2.1 hd) _ q
theorem go_laload {a : Addr} {cl : Cell} {j : Int32} {v : Value} (D : Dc bytes pc .laload 1 pc') (A : Arr Z h a cl .long) (hj : ¬ (j < 0 ∨ cl.slots.size ≤ j.toNatClampNeg)) (hv : cl.slots[j.toNatClampNeg]? = some v) (G : Go wd K₀ l Z R y bytes ml ret n0 kc ks Q h k n pc' ls (v :: st)) : Go wd K₀ l Z R y bytes ml ret n0 kc ks Q h k n pc ls (.int j :: .ref a :: st) := by
  intro p e s0 s m args below meth c T L Bs C X hh N
  obtain ⟨hd, rfl⟩ := D
  exact (G p e s0 s m args below meth c T L Bs C X hh N).pre fun t q => X.laload C.1 (j := j) (v := v) (by rw [hh]; exact A.1) (State.isArrayOf_alike C.2.2.2.2.1.alike A.2.1) A.2.2 hj hv (g := mkF m pc ls.toArray (.int j :: .ref a :: st)) rfl rfl (hb C.2.1 hd) _ q
theorem go_aaload {a : Addr} {cl : Cell} {ty : FieldType} {j : Int32} {v : Value} (D : Dc bytes pc .aaload 1 pc') (A : Arr Z h a cl ty) (hty : ty.isReference = true) (hj : ¬ (j < 0 ∨ cl.slots.size ≤ j.toNatClampNeg)) (hv : cl.slots[j.toNatClampNeg]? = some v) (G : Go wd K₀ l Z R y bytes ml ret n0 kc ks Q h k n pc' ls (v :: st)) : Go wd K₀ l Z R y bytes ml ret n0 kc ks Q h k n pc ls (.int j :: .ref a :: st) := by
  intro p e s0 s m args below meth c T L Bs C X hh N
  obtain ⟨hd, rfl⟩ := D
  exact (G p e s0 s m args below meth c T L Bs C X hh N).pre fun t q => X.aaload C.1 (j := j) (v := v) (by rw [hh]; exact A.1) (State.isArrayOf_alike C.2.2.2.2.1.alike A.2.1) hty A.2.2 hj hv (g := mkF m pc ls.toArray (.int j :: .ref a :: st)) rfl rfl (hb C.2.1 hd) _ q
theorem go_iastore {a : Addr} {cl : Cell} {j : Int32} {x : Int32} (D : Dc bytes pc .iastore 1 pc') (A : Arr Z h a cl .int) (hj : ¬ (j < 0 ∨ cl.slots.size ≤ j.toNatClampNeg)) (ha : n0 ≤ a) (G : ∀ h', Wr h h' a j.toNatClampNeg (.int x) → Go wd K₀ l Z R y bytes ml ret n0 kc ks Q h' k n pc' ls st) : Go wd K₀ l Z R y bytes ml ret n0 kc ks Q h k n pc ls (.int x :: .int j :: .ref a :: st) := by
  intro p e s0 s m args below meth c T L Bs C X hh N
  obtain ⟨hd, rfl⟩ := D
  obtain ⟨T', h', X', e', W', st'⟩ := stI X C.1 C.2.2.2.2.1 hh A hj (g := mkF m pc ls.toArray (.int x :: .int j :: .ref a :: st)) rfl rfl (hb C.2.1 hd)
  exact (G h' W' p e s0 s m args below meth c T' _ (Bs.mono (Nat.le_of_eq W'.size.symm)) C X' e' (Fr.snoc X' N ha)).pre st'
theorem go_lastore {a : Addr} {cl : Cell} {j : Int32} {x : Int64} (D : Dc bytes pc .lastore 1 pc') (A : Arr Z h a cl .long) (hj : ¬ (j < 0 ∨ cl.slots.size ≤ j.toNatClampNeg)) (ha : n0 ≤ a) (G : ∀ h', Wr h h' a j.toNatClampNeg (.long x) → Go wd K₀ l Z R y bytes ml ret n0 kc ks Q h' k n pc' ls st) : Go wd K₀ l Z R y bytes ml ret n0 kc ks Q h k n pc ls (.long x :: .int j :: .ref a :: st) := by
  intro p e s0 s m args below meth c T L Bs C X hh N
  obtain ⟨hd, rfl⟩ := D
  obtain ⟨T', h', X', e', W', st'⟩ := stJ X C.1 C.2.2.2.2.1 hh A hj (g := mkF m pc ls.toArray (.long x :: .int j :: .ref a :: st)) rfl rfl (hb C.2.1 hd)
  exact (G h' W' p e s0 s m args below meth c T' _ (Bs.mono (Nat.le_of_eq W'.size.symm)) C X' e' (Fr.snoc X' N ha)).pre st'
theorem go_castore {a : Addr} {cl : Cell} {j : Int32} {x : Int32} (D : Dc bytes pc .castore 1 pc') (A : Arr Z h a cl .char) (hj : ¬ (j < 0 ∨ cl.slots.size ≤ j.toNatClampNeg)) (ha : n0 ≤ a) (G : ∀ h', Wr h h' a j.toNatClampNeg (.int (nar .char x)) → Go wd K₀ l Z R y bytes ml ret n0 kc ks Q h' k n pc' ls st) : Go wd K₀ l Z R y bytes ml ret n0 kc ks Q h k n pc ls (.int x :: .int j :: .ref a :: st) := by
  intro p e s0 s m args below meth c T L Bs C X hh N
  obtain ⟨hd, rfl⟩ := D
  obtain ⟨T', h', X', e', W', st'⟩ := stC X C.1 C.2.2.2.2.1 hh A hj (g := mkF m pc ls.toArray (.int x :: .int j :: .ref a :: st)) rfl rfl (hb C.2.1 hd)
  exact (G h' W' p e s0 s m args below meth c T' _ (Bs.mono (Nat.le_of_eq W'.size.symm)) C X' e' (Fr.snoc X' N ha)).pre st'
theorem go_bastore {a : Addr} {cl : Cell} {j : Int32} {x : Int32} (D : Dc bytes pc .bastore 1 pc') (A : Arr Z h a cl .byte) (hj : ¬ (j < 0 ∨ cl.slots.size ≤ j.toNatClampNeg)) (ha : n0 ≤ a) (G : ∀ h', Wr h h' a j.toNatClampNeg (.int (nar .byte x)) → Go wd K₀ l Z R y bytes ml ret n0 kc ks Q h' k n pc' ls st) : Go wd K₀ l Z R y bytes ml ret n0 kc ks Q h k n pc ls (.int x :: .int j :: .ref a :: st) := by
  intro p e s0 s m args below meth c T L Bs C X hh N
  obtain ⟨hd, rfl⟩ := D
  obtain ⟨T', h', X', e', W', st'⟩ := stB X C.1 C.2.2.2.2.1 hh A hj (g := mkF m pc ls.toArray (.int x :: .int j :: .ref a :: st)) rfl rfl (hb C.2.1 hd)
  exact (G h' W' p e s0 s m args below meth c T' _ (Bs.mono (Nat.le_of_eq W'.size.symm)) C X' e' (Fr.snoc X' N ha)).pre st'
theorem go_zastore {a : Addr} {cl : Cell} {j : Int32} {x : Int32} (D : Dc bytes pc .bastore 1 pc') (A : Arr Z h a cl .boolean) (hj : ¬ (j < 0 ∨ cl.slots.size ≤ j.toNatClampNeg)) (ha : n0 ≤ a) (G : ∀ h', Wr h h' a j.toNatClampNeg (.int (nar .boolean x)) → Go wd K₀ l Z R y bytes ml ret n0 kc ks Q h' k n pc' ls st) : Go wd K₀ l Z R y bytes ml ret n0 kc ks Q h k n pc ls (.int x :: .int j :: .ref a :: st) := by
  intro p e s0 s m args below meth c T L Bs C X hh N
  obtain ⟨hd, rfl⟩ := D
  obtain ⟨T', h', X', e', W', st'⟩ := stZ X C.1 C.2.2.2.2.1 hh A hj (g := mkF m pc ls.toArray (.int x :: .int j :: .ref a :: st)) rfl rfl (hb C.2.1 hd)
  exact (G h' W' p e s0 s m args below meth c T' _ (Bs.mono (Nat.le_of_eq W'.size.symm)) C X' e' (Fr.snoc X' N ha)).pre st'
theorem go_aastore {a : Addr} {cl : Cell} {ty : FieldType} {j : Int32} {v : Value} (D : Dc bytes pc .aastore 1 pc') (A : Arr Z h a cl ty) (hj : ¬ (j < 0 ∨ cl.slots.size ≤ j.toNatClampNeg)) (hty : ty.isReference = true) (F : Sto Z h a v) (ha : n0 ≤ a) (G : ∀ h', Wr h h' a j.toNatClampNeg v → Go wd K₀ l Z R y bytes ml ret n0 kc ks Q h' k n pc' ls st) : Go wd K₀ l Z R y bytes ml ret n0 kc ks Q h k n pc ls (v :: .int j :: .ref a :: st) := by
  intro p e s0 s m args below meth c T L Bs C X hh N
  obtain ⟨hd, rfl⟩ := D
  obtain ⟨T', h', X', e', W', st'⟩ := stR X C.1 C.2.2.2.2.1 hh A hj hty F (g := mkF m pc ls.toArray (v :: .int j :: .ref a :: st)) rfl rfl (hb C.2.1 hd)
  exact (G h' W' p e s0 s m args below meth c T' _ (Bs.mono (Nat.le_of_eq W'.size.symm)) C X' e' (Fr.snoc X' N ha)).pre st'
end Walk
end Jvm.OwnGo
namespace Jvm.OwnGo
open Jvm Sem ClassFile Op Lib Jvm.Stand Jvm.Free Jvm.LawKit Jvm.RoadKit
/-! ## 3. the heap since the start, as a list of what lies where -/
abbrev FD := (String × String × String) × Value
abbrev Desc := (String × List FD) ⊕ (FieldType × String × List Value)
def slotF (Z : State) (f : FD) : Nat := Jvm.RoadKit.slotOf Z f.1.1 f.1.2.1 f.1.2.2
def Is (Z : State) (h : Heap) (a : Addr) : Desc → Prop
  | .inl (K, fs) => Exa Z h a K ∧ (fs.map (slotF Z)).Nodup ∧ ∀ f ∈ fs, Fld Z h a f.1.1 f.1.2.1 f.1.2.2 f.2
  | .inr (ty, ad, vs) => Exa Z h a ad ∧ ∃ c : Cell, Arr Z h a c ty ∧ c.slots = vs.toArray ∧ vs.length < 2 ^ 31 ∧ (∀ v ∈ vs, fits ty v = true) ∧ ∀ K, ty = .object K → Ovr Z c.cls K
def Hp (Z : State) (n0 : Nat) (h : Heap) (L : List (Addr × Desc)) : Prop := Old Z n0 h ∧ (L.map Prod.fst).Nodup ∧ ∀ x ∈ L, n0 ≤ x.1 ∧ Is Z h x.1 x.2
def LaysD (Z : State) (a0 : Array Value) (K : String) : List FD → Prop
  | [] => True
  | f :: r => (Laid Z a0 K f.1.1 f.1.2.1 f.1.2.2 ∧ ∃ t, parseFieldDescriptor f.1.2.2 = some t ∧ defaultValue t = f.2) ∧ LaysD Z a0 K r
def front {α : Type} (L : List α) (i : Nat) : List α := match L[i]? with | some x => x :: L.eraseIdx i | none => L
section Hp
variable {Z : State} {n0 : Nat} {h h' : Heap} {L : List (Addr × Desc)} {a b : Addr} {K ad O nm d : String} {fs : List FD} {vs : List Value} {ty : FieldType} {v old : Value} {i j sl : Nat} {a0 : Array Value}
theorem Is.ext {D : Desc} (E : Ext h h') (F : Is Z h a D) : Is Z h' a D := by
  rcases D with ⟨K, fs⟩ | ⟨ty, ad, vs⟩
  · obtain ⟨h1, h2, h3⟩ := F; exact ⟨h1.ext E, h2, fun f hf => (h3 f hf).ext E⟩
  · obtain ⟨h1, c, h2, r⟩ := F; exact ⟨h1.ext E, c, h2.ext E, r⟩
theorem Is.other {D : Desc} (W : Wr h h' b sl v) (ne : a ≠ b) (F : Is Z h a D) : Is Z h' a D := by
  rcases D with ⟨K, fs⟩ | ⟨ty, ad, vs⟩
  · obtain ⟨h1, h2, h3⟩ := F; exact ⟨h1.wr W, h2, fun f hf => (h3 f hf).other W (Or.inl ne)⟩
  · obtain ⟨h1, c, h2, r⟩ := F; exact ⟨h1.wr W, c, h2.other W ne, r⟩
theorem Is.exa {D : Desc} (F : Is Z h a D) : ∃ K, Exa Z h a K := by
  rcases D with ⟨K, fs⟩ | ⟨ty, ad, vs⟩
  · exact ⟨K, F.1⟩
  · exact ⟨ad, F.1⟩
theorem mem_upd {α : Type} {L : List α} {i : Nat} {x y : α} (hx : x ∈ lupd L i y) : x = y ∨ ∃ q, q ≠ i ∧ L[q]? = some x := by
  rw [upd_set] at hx
  obtain ⟨q, hq⟩ := List.mem_iff_getElem?.mp hx
  rw [List.getElem?_set] at hq
  split at hq
  · rename_i e
    split at hq
    · left; exact (Option.some.inj hq).symm
    · cases hq
  · rename_i e
    exact Or.inr ⟨q, fun u => e u.symm, hq⟩
theorem Hp.mem (hi : L[i]? = some (a, D)) : (a, D) ∈ L := List.mem_of_getElem? hi
theorem Hp.is {D : Desc} (P : Hp Z n0 h L) (hi : L[i]? = some (a, D)) : Is Z h a D := (P.2.2 _ (List.mem_of_getElem? hi)).2
theorem Hp.ge {D : Desc} (P : Hp Z n0 h L) (hi : L[i]? = some (a, D)) : n0 ≤ a := (P.2.2 _ (List.mem_of_getElem? hi)).1
theorem Hp.exa (P : Hp Z n0 h L) (hi : L[i]? = some (a, .inl (K, fs))) : Exa Z h a K := (P.is hi).1
theorem Hp.exaA (P : Hp Z n0 h L) (hi : L[i]? = some (a, .inr (ty, ad, vs))) : Exa Z h a ad := (P.is hi).1
theorem Hp.fld (P : Hp Z n0 h L) (hi : L[i]? = some (a, .inl (K, fs))) (hj : fs[j]? = some ((O, nm, d), v)) : Fld Z h a O nm d v := (P.is hi).2.2 _ (List.mem_of_getElem? hj)
theorem Hp.lt {D : Desc} (P : Hp Z n0 h L) (hx : (a, D) ∈ L) : a < h.size := by
  obtain ⟨K, E⟩ := (P.2.2 _ hx).2.exa; exact E.lt
theorem Hp.ne {D D' : Desc} (P : Hp Z n0 h L) (hi : L[i]? = some (a, D)) (hj : L[j]? = some (b, D')) (q : i ≠ j) : a ≠ b := fun e => q (by
  have hl : i < (L.map Prod.fst).length := by rw [List.length_map]; exact (List.getElem?_eq_some_iff.mp hi).1
  refine (List.getElem?_inj hl P.2.1).mp ?_
  rw [List.getElem?_map, List.getElem?_map, hi, hj]; simp [e])
theorem map_upd {α β : Type} {f : α → β} {L : List α} {i : Nat} {x y : α} (hi : L[i]? = some x) (e : f y = f x) : (lupd L i y).map f = L.map f := by
  rw [upd_set]
  apply List.ext_getElem?
  intro q
  rw [List.getElem?_map, List.getElem?_map, List.getElem?_set]
  split
  · rename_i u
    subst u
    obtain ⟨hl, -⟩ := List.getElem?_eq_some_iff.mp hi
    rw [if_pos hl, hi]; simp [e]
  · rfl
theorem Hp.wr {D D' : Desc} (P : Hp Z n0 h L) (hi : L[i]? = some (a, D)) (W : Wr h h' a sl v) (I : Is Z h' a D') : Hp Z n0 h' (lupd L i (a, D')) := by
  have ha := P.ge hi
  refine ⟨P.1.wr W ha, by rw [map_upd (f := Prod.fst) (y := (a, D')) hi rfl]; exact P.2.1, fun x hx => ?_⟩
  rcases mem_upd hx with rfl | ⟨q, hq, hx'⟩
  · exact ⟨ha, I⟩
  · obtain ⟨b, D2⟩ := x
    exact ⟨P.ge hx', (P.is hx').other W (P.ne hx' hi hq)⟩
theorem Hp.put (P : Hp Z n0 h L) (hi : L[i]? = some (a, .inl (K, fs))) (hj : fs[j]? = some ((O, nm, d), old)) (W : Wr h h' a (Jvm.RoadKit.slotOf Z O nm d) v) : Hp Z n0 h' (lupd L i (a, .inl (K, lupd fs j ((O, nm, d), v)))) := by
  obtain ⟨h1, h2, h3⟩ := P.is hi
  refine P.wr hi W ⟨h1.wr W, by rw [map_upd (f := slotF Z) (y := ((O, nm, d), v)) hj rfl]; exact h2, fun f hf => ?_⟩
  rcases mem_upd hf with rfl | ⟨q, hq, hf'⟩
  · exact (h3 _ (List.mem_of_getElem? hj)).same W
  · refine (h3 _ (List.mem_of_getElem? hf')).other W (Or.inr fun e => hq ?_)
    have hl : q < (fs.map (slotF Z)).length := by rw [List.length_map]; exact (List.getElem?_eq_some_iff.mp hf').1
    refine (List.getElem?_inj hl h2).mp ?_
    rw [List.getElem?_map, List.getElem?_map, hf', hj]; simp [slotF, e]
theorem Hp.aput (P : Hp Z n0 h L) (hi : L[i]? = some (a, .inr (ty, ad, vs))) (hv : fits ty v = true) (W : Wr h h' a j v) : Hp Z n0 h' (lupd L i (a, .inr (ty, ad, lupd vs j v))) := by
  obtain ⟨h1, c, h2, h3, h4, h5, h6⟩ := P.is hi
  refine P.wr hi W ⟨h1.wr W, c.setSlot j v, h2.same W, ?_, ?_, fun w hw => ?_, h6⟩
  · rw [upd_set]; show c.slots.setIfInBounds j v = _; rw [h3]; simp
  · rw [upd_set]; simpa using h4
  · rcases mem_upd hw with rfl | ⟨q, -, hq⟩
    · exact hv
    · exact h5 _ (List.mem_of_getElem? hq)
theorem Hp.grow {D : Desc} (P : Hp Z n0 h L) (E : Ext h h') (I : Is Z h' h.size D) : Hp Z n0 h' ((h.size, D) :: L) := by
  have hs : n0 ≤ h.size := by have := P.1.1; have := P.1.2.1; omega
  refine ⟨P.1.ext E, ?_, fun x hx => ?_⟩
  · rw [List.map_cons, List.nodup_cons]
    refine ⟨fun hm => ?_, P.2.1⟩
    obtain ⟨⟨b, D2⟩, hb, e⟩ := List.mem_map.mp hm
    have q := P.lt hb
    have e' : b = h.size := e
    rw [e'] at q
    exact Nat.lt_irrefl _ q
  · rcases List.mem_cons.mp hx with rfl | hx'
    · exact ⟨hs, I⟩
    · exact ⟨(P.2.2 _ hx').1, (P.2.2 _ hx').2.ext E⟩
theorem lays_mem : ∀ {fs : List FD}, LaysD Z a0 K fs → ∀ f ∈ fs, Laid Z a0 K f.1.1 f.1.2.1 f.1.2.2 ∧ ∃ t, parseFieldDescriptor f.1.2.2 = some t ∧ defaultValue t = f.2
  | [], _, _, hf => nomatch hf
  | _ :: _, H, f, hf => (List.mem_cons.mp hf).elim (fun e => e ▸ H.1) (lays_mem H.2 f)
theorem lays_nodup : ∀ {fs : List FD}, LaysD Z a0 K fs → (fs.map fun f => f.1.2.1).Nodup → (fs.map (slotF Z)).Nodup
  | [], _, _ => List.nodup_nil
  | f :: r, H, N => by
    rw [List.map_cons, List.nodup_cons] at N ⊢
    refine ⟨fun hm => ?_, lays_nodup H.2 N.2⟩
    obtain ⟨g, hg, e⟩ := List.mem_map.mp hm
    obtain ⟨Lg, t', ht', -⟩ := lays_mem H.2 g hg
    obtain ⟨Lf, t, ht, -⟩ := H.1
    exact slot_ne Lf Lg (fun q => N.1 (List.mem_map.mpr ⟨g, hg, q.symm⟩)) ht ht' e.symm
theorem Hp.new (P : Hp Z n0 h L) (E : Ext h h') (A : Exa Z h' h.size K) (F : ∀ {O nm d : String} {ty : FieldType}, Laid Z a0 K O nm d → parseFieldDescriptor d = some ty → Fld Z h' h.size O nm d (defaultValue ty)) (Ld : LaysD Z a0 K fs) (nd : (fs.map fun f => f.1.2.1).Nodup) : Hp Z n0 h' ((h.size, .inl (K, fs)) :: L) :=
  P.grow E ⟨A, lays_nodup Ld nd, fun f hf => by
    obtain ⟨Lf, t, ht, e⟩ := lays_mem Ld f hf
    rw [← e]; exact F Lf ht⟩
theorem Hp.newA {cA : ClassId} {z : Int32} (P : Hp Z n0 h L) (E : Ext h h') (A : Arr Z h' h.size (newA cA ty z) ty) (X : Exa Z h' h.size ad) (O : ∀ K, ty = .object K → Ovr Z cA K) (hvs : List.replicate z.toNatClampNeg (defaultValue ty) = vs) (hz : ¬ z < 0) : Hp Z n0 h' ((h.size, .inr (ty, ad, vs)) :: L) :=
  P.grow E ⟨X, _, A, by rw [← hvs]; simp [Jvm.RoadKit.newA], by rw [← hvs, List.length_replicate]; exact (back32 hz).2, fun w hw => by
    rw [← hvs] at hw; rw [List.eq_of_mem_replicate hw]; cases ty <;> rfl, O⟩
theorem Hp.perm {L' : List (Addr × Desc)} (P : Hp Z n0 h L) (q : L'.Perm L) : Hp Z n0 h L' := ⟨P.1, ((q.map Prod.fst).nodup_iff).mpr P.2.1, fun x hx => P.2.2 x (q.mem_iff.mp hx)⟩
theorem erase_perm {α : Type} : ∀ (L : List α) (i : Nat) (h : i < L.length), (L[i] :: L.eraseIdx i).Perm L
  | [], _, h => absurd h (Nat.not_lt_zero _)
  | _ :: _, 0, _ => List.Perm.refl _
  | a :: l, i + 1, h => by
    have hl : i < l.length := Nat.lt_of_succ_lt_succ h
    show (l[i] :: a :: l.eraseIdx i).Perm (a :: l)
    exact (List.Perm.swap _ _ _).trans ((erase_perm l i hl).cons a)
theorem front_perm {α : Type} (L : List α) (i : Nat) : (front L i).Perm L := by
  unfold front
  cases hx : L[i]? with
  | none => exact List.Perm.refl _
  | some x =>
    obtain ⟨hl, rfl⟩ := List.getElem?_eq_some_iff.mp hx
    exact erase_perm L i hl
theorem Hp.front (P : Hp Z n0 h L) (i : Nat) : Hp Z n0 h (front L i) := P.perm (front_perm L i)
theorem Hp.tail {x : Addr × Desc} (P : Hp Z n0 h (x :: L)) : Hp Z n0 h L := ⟨P.1, (List.nodup_cons.mp P.2.1).2, fun z hz => P.2.2 z (List.mem_cons_of_mem _ hz)⟩
theorem Hp.ext (P : Hp Z n0 h L) (E : Ext h h') : Hp Z n0 h' L := ⟨P.1.ext E, P.2.1, fun x hx => ⟨(P.2.2 _ hx).1, (P.2.2 _ hx).2.ext E⟩⟩
theorem Hp.nil (P : Hp Z n0 h L) : Hp Z n0 h [] := ⟨P.1, List.nodup_nil, fun z hz => nomatch hz⟩
theorem Hp.start (s : State) : Hp s s.heap.size s.heap [] := ⟨Old.start s, List.nodup_nil, fun z hz => nomatch hz⟩
theorem Hp.sto {y : Addr} {fs : List FD} (P : Hp Z n0 h L) (hi : L[i]? = some (a, .inr (.object K, ad, vs))) (hj : L[j]? = some (y, .inl (K, fs))) : Sto Z h a (.ref y) := by
  obtain ⟨-, c, h2, -, -, -, h6⟩ := P.is hi
  exact Sto.of h2 (h6 K rfl) (Ins.self (P.exa hj))
theorem Hp.stoI {y : Addr} (P : Hp Z n0 h L) (hi : L[i]? = some (a, .inr (.object K, ad, vs))) (I : Ins Z h y K true) : Sto Z h a (.ref y) := by
  obtain ⟨-, c, h2, -, -, -, h6⟩ := P.is hi
  exact Sto.of h2 (h6 K rfl) I
theorem inb {c : Cell} {j : Int32} (hc : c.slots = vs.toArray) (hj : ¬ j < 0) (hv : vs[j.toNatClampNeg]? = some v) : ¬ (j < 0 ∨ c.slots.size ≤ j.toNatClampNeg) := by
  have := (List.getElem?_eq_some_iff.mp hv).1
  rw [hc]; simp; exact ⟨by simpa using Int32.not_lt.mp hj, this⟩
theorem inb' {c : Cell} {j : Int32} (hc : c.slots = vs.toArray) (hj : ¬ j < 0) (hv : j.toNatClampNeg < vs.length) : ¬ (j < 0 ∨ c.slots.size ≤ j.toNatClampNeg) := by
  rw [hc]; simp; exact ⟨by simpa using Int32.not_lt.mp hj, hv⟩
end Hp
section WalkHp
variable {wd : Bool} {K₀ : State → Prop} {l : Launch} {Z : State} {R : Room} {y : MethodName} {bytes : ByteArray} {ml : Nat} {ret : Option FieldType} {n0 kc ks : Nat} {Q : Option Value → Heap → Prop} {h : Heap} {k n pc pc' tg : Nat} {ls : List Slot} {st : List Value} {a0 : Array Value} {L : List (Addr × Desc)} {i j : Nat} {K ad O nm d R0 host : String} {fs : List FD} {vs : List Value} {a : Addr} {ty : FieldType} {v old : Value}
theorem go_get {idx : Nat} (P : Hp Z n0 h L) (i j : Nat) (D : Dc bytes pc (.getfield idx) 3 pc') (hi : L[i]? = some (a, .inl (K, fs))) (hj : fs[j]? = some ((O, nm, d), v)) (w : (Cond.fieldLink y.cls idx O nm d).before a0 Z = true) (G : Go wd K₀ l Z R y bytes ml ret n0 kc ks Q h k n pc' ls (v :: st)) : Go wd K₀ l Z R y bytes ml ret n0 kc ks Q h k n pc ls (.ref a :: st) :=
  go_getF (host := "") D (Or.inl w) Via.refl (P.fld hi hj) G
theorem go_getN {idx : Nat} (P : Hp Z n0 h L) (i j : Nat) (D : Dc bytes pc (.getfield idx) 3 pc') (hi : L[i]? = some (a, .inl (K, fs))) (hj : fs[j]? = some ((O, nm, d), v)) (w : (Cond.fieldLinkNest y.cls idx O nm d host).before a0 Z = true) (G : Go wd K₀ l Z R y bytes ml ret n0 kc ks Q h k n pc' ls (v :: st)) : Go wd K₀ l Z R y bytes ml ret n0 kc ks Q h k n pc ls (.ref a :: st) :=
  go_getF (host := host) D (Or.inr w) Via.refl (P.fld hi hj) G
theorem go_put {idx kk : Nat} (P : Hp Z n0 h L) (i j : Nat) (ty : FieldType) (D : Dc bytes pc (.putfield idx) 3 pc') (hi : L[i]? = some (a, .inl (K, fs))) (hj : fs[j]? = some ((O, nm, d), old)) (w : (Cond.fieldLink y.cls idx O nm d).before a0 Z = true)
    (Lw : (Cond.lays K O nm d).before a0 Z = true ∨ ((Cond.laysFinal K O nm d).before a0 Z = true ∧ y.cls = O ∧ y.name = "<init>")) (wi : (Cond.instantiable K kk).before a0 Z = true) (hty : parseFieldDescriptor d = some ty) (hnr : narrow ty v = v) (hfi : fits ty v = true)
    (G : ∀ h', Hp Z n0 h' (lupd L i (a, .inl (K, lupd fs j ((O, nm, d), v)))) → Go wd K₀ l Z R y bytes ml ret n0 kc ks Q h' k n pc' ls st) : Go wd K₀ l Z R y bytes ml ret n0 kc ks Q h k n pc ls (v :: .ref a :: st) :=
  go_putF (host := "") D (Or.inl w) Via.refl (P.fld hi hj) (P.exa hi) Lw wi hty hnr hfi (P.ge hi) fun h' W => G h' (P.put hi hj W)
theorem go_new {idx sl : Nat} (P : Hp Z n0 h L) (fs : List FD) (D : Dc bytes pc (.new idx) 3 pc') (w : (Cond.classLink y.cls idx K).before a0 Z = true) (wi : (Cond.instantiable K sl).before a0 Z = true) (wz : (Cond.initialized K).before a0 Z = true) (Ld : LaysD Z a0 K fs) (nd : (fs.map fun f => f.1.2.1).Nodup) (hk : k + 1 ≤ R.cells) (hn : n + sl ≤ R.slots)
    (G : ∀ h' a, Hp Z n0 h' ((a, .inl (K, fs)) :: L) → Go wd K₀ l Z R y bytes ml ret n0 kc ks Q h' (k + 1) (n + sl) pc' ls (.ref a :: st)) : Go wd K₀ l Z R y bytes ml ret n0 kc ks Q h k n pc ls st :=
  go_newO D w wi wz hk hn fun h' E A F => G h' h.size (P.new E A F Ld nd)
theorem go_newarr {aty : ArrayType} {z : Int32} (P : Hp Z n0 h L) (ad : String) (vs : List Value) (cap : Nat) (D : Dc bytes pc (.newarray aty) 2 pc') (w : (Cond.arrayClass (newarray.typeOf aty)).before a0 Z = true) (hz : ¬ z < 0) (hcap : z.toNatClampNeg ≤ cap) (hb8 : cap * 8 ≤ 536870912) (had : "[" ++ (newarray.typeOf aty).toString = ad) (hty : newarray.typeOf aty = ty) (hvs : List.replicate z.toNatClampNeg (defaultValue ty) = vs) (hk : k + 1 ≤ R.cells) (hn : n + cap ≤ R.slots)
    (G : ∀ h' a, Hp Z n0 h' ((a, .inr (ty, ad, vs)) :: L) → Go wd K₀ l Z R y bytes ml ret n0 kc ks Q h' (k + 1) (n + cap) pc' ls (.ref a :: st)) : Go wd K₀ l Z R y bytes ml ret n0 kc ks Q h k n pc ls (.int z :: st) :=
  go_newP D w hz cap hcap hb8 hk hn had fun h' cA E A X => G h' h.size (P.newA E (hty ▸ A) X (fun K q => by subst hty; cases aty <;> cases q) hvs hz)
theorem go_newobjarr {idx : Nat} {z : Int32} (P : Hp Z n0 h L) (ad : String) (vs : List Value) (cap : Nat) (D : Dc bytes pc (.anewarray idx) 3 pc') (w1 : (Cond.classLink y.cls idx K).before a0 Z = true) (w2 : (Cond.arrayOver (.object K)).before a0 Z = true) (hz : ¬ z < 0) (hcap : z.toNatClampNeg ≤ cap) (hb8 : cap * 8 ≤ 536870912) (had : "[" ++ (FieldType.object K).toString = ad) (hvs : List.replicate z.toNatClampNeg Value.null = vs) (hk : k + 1 ≤ R.cells) (hn : n + cap ≤ R.slots)
    (G : ∀ h' a, Hp Z n0 h' ((a, .inr (.object K, ad, vs)) :: L) → Go wd K₀ l Z R y bytes ml ret n0 kc ks Q h' (k + 1) (n + cap) pc' ls (.ref a :: st)) : Go wd K₀ l Z R y bytes ml ret n0 kc ks Q h k n pc ls (.int z :: st) :=
  go_newR D w1 w2 hz cap hcap hb8 hk hn had fun h' cA E A X O => G h' h.size (P.newA E A X (fun K' q => by cases q; exact O) hvs hz)
theorem go_alen {z : Int32} (P : Hp Z n0 h L) (i : Nat) (D : Dc bytes pc .arraylength 1 pc') (hi : L[i]? = some (a, .inr (ty, ad, vs))) (hz : vs.length.toInt32 = z) (G : Go wd K₀ l Z R y bytes ml ret n0 kc ks Q h k n pc' ls (.int z :: st)) : Go wd K₀ l Z R y bytes ml ret n0 kc ks Q h k n pc ls (.ref a :: st) := by
  obtain ⟨-, c, h2, h3, -⟩ := P.is hi
  exact go_len D h2 (by rw [h3]; simpa using hz) G
theorem go_ialoadH {q : Int32} (P : Hp Z n0 h L) (i : Nat) (D : Dc bytes pc .iaload 1 pc') (hi : L[i]? = some (a, .inr (.int, ad, vs))) (hq : ¬ q < 0) (hv : vs[q.toNatClampNeg]? = some v) (G : Go wd K₀ l Z R y bytes ml ret n0 kc ks Q h k n pc' ls (v :: st)) : Go wd K₀ l Z R y bytes ml ret n0 kc ks Q h k n pc ls (.int q :: .ref a :: st) := by
  obtain ⟨-, c, h2, h3, -⟩ := P.is hi
  exact go_iaload D h2 (inb h3 hq hv) (by rw [h3]; simpa using hv) G
theorem go_caloadH {q : Int32} (P : Hp Z n0 h L) (i : Nat) (D : Dc bytes pc .caload 1 pc') (hi : L[i]? = some (a, .inr (.char, ad, vs))) (hq : ¬ q < 0) (hv : vs[q.toNatClampNeg]? = some v) (G : Go wd K₀ l Z R y bytes ml ret n0 kc ks Q h k n pc' ls (v :: st)) : Go wd K₀ l Z R y bytes ml ret n0 kc ks Q h k n pc ls (.int q :: .ref a :: st) := by
  obtain ⟨-, c, h2, h3, -⟩ := P.is hi
  exact go_caload D h2 (inb h3 hq hv) (by rw [h3]; simpa using hv) G
theorem go_baloadH {q : Int32} (P : Hp Z n0 h L) (i : Nat) (D : Dc bytes pc .baload 1 pc') (hi : L[i]? = some (a, .inr (.byte, ad, vs))) (hq : ¬ q < 0) (hv : vs[q.toNatClampNeg]? = some v) (G : Go wd K₀ l Z R y bytes ml ret n0 kc ks Q h k n pc' ls (v :: st)) : Go wd K₀ l Z R y bytes ml ret n0 kc ks Q h k n pc ls (.int q :: .ref a :: st) := by
  obtain ⟨-, c, h2, h3, -⟩ := P.is hi
  exact go_baload D h2 (inb h3 hq hv) (by rw [h3]; simpa using hv) G
theorem go_laloadH {q : Int32} (P : Hp Z n0 h L) (i : Nat) (D : Dc bytes pc .laload 1 pc') (hi : L[i]? = some (a, .inr (.long, ad, vs))) (hq : ¬ q < 0) (hv : vs[q.toNatClampNeg]? = some v) (G : Go wd K₀ l Z R y bytes ml ret n0 kc ks Q h k n pc' ls (v :: st)) : Go wd K₀ l Z R y bytes ml ret n0 kc ks Q h k n pc ls (.int q :: .ref a :: st) := by
  obtain ⟨-, c, h2, h3, -⟩ := P.is hi
  exact go_laload D h2 (inb h3 hq hv) (by rw [h3]; simpa using hv) G
theorem go_aaloadH {q : Int32} (P : Hp Z n0 h L) (i : Nat) (D : Dc bytes pc .aaload 1 pc') (hi : L[i]? = some (a, .inr (ty, ad, vs))) (hty : ty.isReference = true) (hq : ¬ q < 0) (hv : vs[q.toNatClampNeg]? = some v) (G : Go wd K₀ l Z R y bytes ml ret n0 kc ks Q h k n pc' ls (v :: st)) : Go wd K₀ l Z R y bytes ml ret n0 kc ks Q h k n pc ls (.int q :: .ref a :: st) := by
  obtain ⟨-, c, h2, h3, -⟩ := P.is hi
  exact go_aaload D h2 hty (inb h3 hq hv) (by rw [h3]; simpa using hv) G
theorem go_iastoreH {q : Int32} {x : Int32} (P : Hp Z n0 h L) (i : Nat) (D : Dc bytes pc .iastore 1 pc') (hi : L[i]? = some (a, .inr (.int, ad, vs))) (hq : ¬ q < 0) (hv : q.toNatClampNeg < vs.length) (G : ∀ h', Hp Z n0 h' (lupd L i (a, .inr (.int, ad, lupd vs q.toNatClampNeg (.int x)))) → Go wd K₀ l Z R y bytes ml ret n0 kc ks Q h' k n pc' ls st) : Go wd K₀ l Z R y bytes ml ret n0 kc ks Q h k n pc ls (.int x :: .int q :: .ref a :: st) := by
  obtain ⟨-, c, h2, h3, -⟩ := P.is hi
  exact go_iastore D h2 (inb' h3 hq hv) (P.ge hi) fun h' W => G h' (P.aput hi rfl W)
theorem go_lastoreH {q : Int32} {x : Int64} (P : Hp Z n0 h L) (i : Nat) (D : Dc bytes pc .lastore 1 pc') (hi : L[i]? = some (a, .inr (.long, ad, vs))) (hq : ¬ q < 0) (hv : q.toNatClampNeg < vs.length) (G : ∀ h', Hp Z n0 h' (lupd L i (a, .inr (.long, ad, lupd vs q.toNatClampNeg (.long x)))) → Go wd K₀ l Z R y bytes ml ret n0 kc ks Q h' k n pc' ls st) : Go wd K₀ l Z R y bytes ml ret n0 kc ks Q h k n pc ls (.long x :: .int q :: .ref a :: st) := by
  obtain ⟨-, c, h2, h3, -⟩ := P.is hi
  exact go_lastore D h2 (inb' h3 hq hv) (P.ge hi) fun h' W => G h' (P.aput hi rfl W)
theorem go_castoreH {q : Int32} {x : Int32} (P : Hp Z n0 h L) (i : Nat) (D : Dc bytes pc .castore 1 pc') (hi : L[i]? = some (a, .inr (.char, ad, vs))) (hq : ¬ q < 0) (hv : q.toNatClampNeg < vs.length) (G : ∀ h', Hp Z n0 h' (lupd L i (a, .inr (.char, ad, lupd vs q.toNatClampNeg (.int (nar .char x))))) → Go wd K₀ l Z R y bytes ml ret n0 kc ks Q h' k n pc' ls st) : Go wd K₀ l Z R y bytes ml ret n0 kc ks Q h k n pc ls (.int x :: .int q :: .ref a :: st) := by
  obtain ⟨-, c, h2, h3, -⟩ := P.is hi
  exact go_castore D h2 (inb' h3 hq hv) (P.ge hi) fun h' W => G h' (P.aput hi (fits_nar_char x) W)
theorem go_bastoreH {q : Int32} {x : Int32} (P : Hp Z n0 h L) (i : Nat) (D : Dc bytes pc .bastore 1 pc') (hi : L[i]? = some (a, .inr (.byte, ad, vs))) (hq : ¬ q < 0) (hv : q.toNatClampNeg < vs.length) (G : ∀ h', Hp Z n0 h' (lupd L i (a, .inr (.byte, ad, lupd vs q.toNatClampNeg (.int (nar .byte x))))) → Go wd K₀ l Z R y bytes ml ret n0 kc ks Q h' k n pc' ls st) : Go wd K₀ l Z R y bytes ml ret n0 kc ks Q h k n pc ls (.int x :: .int q :: .ref a :: st) := by
  obtain ⟨-, c, h2, h3, -⟩ := P.is hi
  exact go_bastore D h2 (inb' h3 hq hv) (P.ge hi) fun h' W => G h' (P.aput hi (fits_nar_byte x) W)
theorem go_zastoreH {q : Int32} {x : Int32} (P : Hp Z n0 h L) (i : Nat) (D : Dc bytes pc .bastore 1 pc') (hi : L[i]? = some (a, .inr (.boolean, ad, vs))) (hq : ¬ q < 0) (hv : q.toNatClampNeg < vs.length) (G : ∀ h', Hp Z n0 h' (lupd L i (a, .inr (.boolean, ad, lupd vs q.toNatClampNeg (.int (nar .boolean x))))) → Go wd K₀ l Z R y bytes ml ret n0 kc ks Q h' k n pc' ls st) : Go wd K₀ l Z R y bytes ml ret n0 kc ks Q h k n pc ls (.int x :: .int q :: .ref a :: st) := by
  obtain ⟨-, c, h2, h3, -⟩ := P.is hi
  exact go_zastore D h2 (inb' h3 hq hv) (P.ge hi) fun h' W => G h' (P.aput hi (fits_nar_bool x) W)
theorem go_clone {idx W : Nat} (P : Hp Z n0 h L) (i : Nat) (cap : Nat) (D : Dc bytes pc (.invokevirtual idx) 3 pc') (hi : L[i]? = some (a, .inr (ty, ad, vs)))
    (w1 : (Cond.methodLink y.cls idx ⟨ad, "clone", "()Ljava/lang/Object;"⟩).before a0 Z = true) (w2 : (Cond.sameMethod ad "java/lang/Object" "clone" "()Ljava/lang/Object;").before a0 Z = true) (w3 : (Cond.native ⟨"java/lang/Object", "clone", "()Ljava/lang/Object;"⟩).before a0 Z = true)
    (w4 : (Cond.instanceMethod ⟨"java/lang/Object", "clone", "()Ljava/lang/Object;"⟩).before a0 Z = true) (w5 : (Cond.selects ad ⟨ad, "clone", "()Ljava/lang/Object;"⟩ ⟨"java/lang/Object", "clone", "()Ljava/lang/Object;"⟩).before a0 Z = true) (w6 : (Cond.castable ad "java/lang/Cloneable").before a0 Z = true)
    (hlen : vs.length ≤ cap) (hls : ls.length = ml) (hf : 1 ≤ R.frames) (hW : (st.map fun v => v.category).sum = W) (hlo : W + 14 ≤ R.locals) (hk : k + 1 ≤ R.cells) (hn : n + cap ≤ R.slots)
    (G : ∀ h' b, Hp Z n0 h' ((b, .inr (ty, ad, vs)) :: L) → Go wd K₀ l Z R y bytes ml ret n0 kc ks Q h' (k + 1) (n + cap) pc' ls (.ref b :: st)) : Go wd K₀ l Z R y bytes ml ret n0 kc ks Q h k n pc ls (.ref a :: st) := by
  obtain ⟨E, cl, A, hs, hl31, hfit, hov⟩ := P.is hi
  intro p e s0 s m args below meth c T L' Bs C X hh N
  obtain ⟨hd, rfl⟩ := D
  have FC : FitC Z cl := fitC_of A fun q hq v hv => hfit v (by rw [hs] at hv; exact List.mem_of_getElem? (by simpa using hv))
  obtain ⟨T', h', X', e', ex, A', E', st'⟩ := cloneA X C.1 C.2.2.2.2.1 C.2.2.2.1 w1 w2 w3 w4 w5 w6 hh A E FC (g := mkF m pc ls.toArray (.ref a :: st)) rfl (by rw [C.2.2.1]; simpa using hls) rfl (hb C.2.1 hd) hf (W := W) (cap := cap) (by show 2 * 0 + _ ≤ W; rw [← hW]; omega) hlo (by rw [hs]; simpa using hlen) hk hn
  exact (G h' h.size (P.grow ex ⟨E', cloneOf cl, A', hs, hl31, hfit, hov⟩) p e s0 s m args below meth c T' L' (Bs.mono ex.1) C X' e' N).pre st'
def Dts (bytes : ByteArray) (pc : Nat) (x : Int32) (tg : Nat) : Prop := ∃ (d lo hi : Int) (offs : Array Int) (len : Nat) (o : Int), decode bytes pc = .ok (.tableswitch d lo hi offs, len) ∧ ¬ (x.toInt < lo ∨ x.toInt > hi) ∧ offs[(x.toInt - lo).toNat]? = some o ∧ 0 ≤ (pc : Int) + o ∧ ((pc : Int) + o).toNat = tg
def Dlk (bytes : ByteArray) (pc : Nat) (x : Int32) (tg : Nat) : Prop := ∃ (d : Int) (prs : Array (Int × Int)) (len : Nat), decode bytes pc = .ok (.lookupswitch d prs, len) ∧ (prs.toList.zip (prs.toList.drop 1)).all (fun (a, next) => a.1 < next.1) = true ∧ 0 ≤ (pc : Int) + lookupswitch.offset prs.toList d x.toInt ∧ ((pc : Int) + lookupswitch.offset prs.toList d x.toInt).toNat = tg
theorem lswX {tb : Tables} [Ours tb] {e : Env} {below : List Frame} {T target : State} {m : MethodId} {c : Code} {g : JFrame} (h : At T m c below) (hx : tb.exec = Jvm.exec) (hg : g.method = m) {d : Int} {prs : Array (Int × Int)} {len : Nat} {pc0 pc' : Nat} (hpc : g.pc = pc0) (hd : decode c.code g.pc = .ok (.lookupswitch d prs, len)) {i : Int32} {rest : List Value} (hs : g.stack = .int i :: rest)
    (hor : (prs.toList.zip (prs.toList.drop 1)).all (fun (a, next) => a.1 < next.1) = true) (ho : 0 ≤ (pc0 : Int) + lookupswitch.offset prs.toList d i.toInt) (hp : ((pc0 : Int) + lookupswitch.offset prs.toList d i.toInt).toNat = pc')
    (hr : Steps tb e below (T.setTop { g with pc := pc', stack := rest }) target) : Steps tb e below (T.setTop g) target := by
  subst hg hpc hp
  jvm_step h [h.top, hx, hd, hs, hor, ho, lookupswitch.wp_chain]
  exact ⟨by simpa using hor, hr⟩
theorem go_tsw {x : Int32} (D : Dts bytes pc x tg) (G : Go wd K₀ l Z R y bytes ml ret n0 kc ks Q h k n tg ls st) : Go wd K₀ l Z R y bytes ml ret n0 kc ks Q h k n pc ls (.int x :: st) := by
  obtain ⟨d, lo, hi, offs, len, o, hd, h1, h2, h3, h4⟩ := D
  exact go_pure G (fun C X t => XS.tswIn X.here C.1 (g := mkF _ pc ls.toArray (.int x :: st)) rfl (pc0 := pc) rfl (hb C.2.1 hd) rfl h1 h2 h3 h4)
theorem go_lsw {x : Int32} (D : Dlk bytes pc x tg) (G : Go wd K₀ l Z R y bytes ml ret n0 kc ks Q h k n tg ls st) : Go wd K₀ l Z R y bytes ml ret n0 kc ks Q h k n pc ls (.int x :: st) := by
  obtain ⟨d, prs, len, hd, h1, h3, h4⟩ := D
  exact go_pure G (fun C X t => lswX X.here C.1 (g := mkF _ pc ls.toArray (.int x :: st)) rfl (pc0 := pc) rfl (hb C.2.1 hd) rfl h1 h3 h4)
theorem Hp.insA {i : Nat} (P : Hp Z n0 h L) (hi : L[i]? = some (a, .inr (ty, ad, vs))) : Ins Z h a ad true := Ins.self (P.exaA hi)
theorem go_aastoreH {q : Int32} (P : Hp Z n0 h L) (i : Nat) (D : Dc bytes pc .aastore 1 pc') (hi : L[i]? = some (a, .inr (ty, ad, vs))) (hty : ty.isReference = true) (hf : fits ty v = true) (hq : ¬ q < 0) (hv : q.toNatClampNeg < vs.length) (F : Sto Z h a v) (G : ∀ h', Hp Z n0 h' (lupd L i (a, .inr (ty, ad, lupd vs q.toNatClampNeg v))) → Go wd K₀ l Z R y bytes ml ret n0 kc ks Q h' k n pc' ls st) : Go wd K₀ l Z R y bytes ml ret n0 kc ks Q h k n pc ls (v :: .int q :: .ref a :: st) := by
  obtain ⟨-, c, h2, h3, -⟩ := P.is hi
  exact go_aastore D h2 (inb' h3 hq hv) hty F (P.ge hi) fun h' W => G h' (P.aput hi hf W)
end WalkHp
end Jvm.OwnGo
namespace Jvm.Pilot.@@N@@
open Jvm Jvm.ClassFile Sem Op Lib Jvm.Free Jvm.Stand Jvm.LawKit Jvm.RoadKit Bundle Jvm.OwnGo Jvm.Pilot.@@N@@.Jvm.D
theorem t0 {Z : State} {a0 : Array Value} (hw : ∀ d ∈ tables_1, d.before a0 Z = true) : (Jvm.Cond.arrayClass Jvm.ClassFile.FieldType.byte).before a0 Z = true := hw _ (List.mem_of_getElem? (i := 0) rfl)
theorem t1 {Z : State} {a0 : Array Value} (hw : ∀ d ∈ tables_1, d.before a0 Z = true) : (Jvm.Cond.constant "com/example/bouncr/bouncr/PathPatternIsCanonicalPinLaw" (7 : Nat) (2147483647 : Int32)).before a0 Z = true := hw _ (List.mem_of_getElem? (i := 1) rfl)
theorem t2 {Z : State} {a0 : Array Value} (hw : ∀ d ∈ tables_1, d.before a0 Z = true) : (Jvm.Cond.methodLink "com/example/bouncr/bouncr/PathPatternIsCanonicalPinLaw" (8 : Nat) ({ cls := "java/lang/Math", name := "min", desc := "(II)I" } : Jvm.MethodName)).before a0 Z = true := hw _ (List.mem_of_getElem? (i := 2) rfl)
theorem t3 {Z : State} {a0 : Array Value} (hw : ∀ d ∈ tables_1, d.before a0 Z = true) : (Jvm.Cond.static ({ cls := "java/lang/Math", name := "min", desc := "(II)I" } : Jvm.MethodName)).before a0 Z = true := hw _ (List.mem_of_getElem? (i := 3) rfl)
theorem t4 {Z : State} {a0 : Array Value} (hw : ∀ d ∈ tables_1, d.before a0 Z = true) : (Jvm.Cond.initialized "java/lang/Math").before a0 Z = true := hw _ (List.mem_of_getElem? (i := 4) rfl)
theorem t5 {Z : State} {a0 : Array Value} (hw : ∀ d ∈ tables_1, d.before a0 Z = true) : (Jvm.Cond.code ({ cls := "java/lang/Math", name := "min", desc := "(II)I" } : Jvm.MethodName) jdk_29_method_69_code (2 : Nat) (Option.some Jvm.ClassFile.FieldType.int)).before a0 Z = true := hw _ (List.mem_of_getElem? (i := 5) rfl)
theorem t6 {Z : State} {a0 : Array Value} (hw : ∀ d ∈ tables_1, d.before a0 Z = true) : (Jvm.Cond.methodLink "com/example/bouncr/bouncr/PathPatternIsCanonicalPinLaw" (14 : Nat) ({ cls := "java/lang/Math", name := "max", desc := "(II)I" } : Jvm.MethodName)).before a0 Z = true := hw _ (List.mem_of_getElem? (i := 6) rfl)
theorem t7 {Z : State} {a0 : Array Value} (hw : ∀ d ∈ tables_1, d.before a0 Z = true) : (Jvm.Cond.static ({ cls := "java/lang/Math", name := "max", desc := "(II)I" } : Jvm.MethodName)).before a0 Z = true := hw _ (List.mem_of_getElem? (i := 7) rfl)
theorem t8 {Z : State} {a0 : Array Value} (hw : ∀ d ∈ tables_1, d.before a0 Z = true) : (Jvm.Cond.code ({ cls := "java/lang/Math", name := "max", desc := "(II)I" } : Jvm.MethodName) jdk_29_method_65_code (2 : Nat) (Option.some Jvm.ClassFile.FieldType.int)).before a0 Z = true := hw _ (List.mem_of_getElem? (i := 8) rfl)
theorem t9 {Z : State} {a0 : Array Value} (hw : ∀ d ∈ tables_1, d.before a0 Z = true) : (Jvm.Cond.methodLink "com/example/bouncr/bouncr/PathPatternIsCanonicalPinLaw" (17 : Nat) ({ cls := "com/example/bouncr/bouncr/PathPatternIsCanonicalPinLaw", name := "okAt", desc := "(IIII)Z" } : Jvm.MethodName)).before a0 Z = true := hw _ (List.mem_of_getElem? (i := 9) rfl)
theorem t10 {Z : State} {a0 : Array Value} (hw : ∀ d ∈ tables_1, d.before a0 Z = true) : (Jvm.Cond.static ({ cls := "com/example/bouncr/bouncr/PathPatternIsCanonicalPinLaw", name := "okAt", desc := "(IIII)Z" } : Jvm.MethodName)).before a0 Z = true := hw _ (List.mem_of_getElem? (i := 10) rfl)
theorem t11 {Z : State} {a0 : Array Value} (hw : ∀ d ∈ tables_1, d.before a0 Z = true) : (Jvm.Cond.initialized "com/example/bouncr/bouncr/PathPatternIsCanonicalPinLaw").before a0 Z = true := hw _ (List.mem_of_getElem? (i := 11) rfl)
theorem t12 {Z : State} {a0 : Array Value} (hw : ∀ d ∈ tables_1, d.before a0 Z = true) : (Jvm.Cond.code ({ cls := "com/example/bouncr/bouncr/PathPatternIsCanonicalPinLaw", name := "okAt", desc := "(IIII)Z" } : Jvm.MethodName) method_3_code (4 : Nat) (Option.some Jvm.ClassFile.FieldType.boolean)).before a0 Z = true := hw _ (List.mem_of_getElem? (i := 12) rfl)
theorem t13 {Z : State} {a0 : Array Value} (hw : ∀ d ∈ tables_1, d.before a0 Z = true) : (Jvm.Cond.methodLink "com/example/bouncr/bouncr/PathPatternIsCanonicalPinLaw" (29 : Nat) ({ cls := "com/example/bouncr/bouncr/PathPatternIsCanonicalPinLaw", name := "standsAsWritten", desc := "(I)Z" } : Jvm.MethodName)).before a0 Z = true := hw _ (List.mem_of_getElem? (i := 13) rfl)
theorem t14 {Z : State} {a0 : Array Value} (hw : ∀ d ∈ tables_1, d.before a0 Z = true) : (Jvm.Cond.static ({ cls := "com/example/bouncr/bouncr/PathPatternIsCanonicalPinLaw", name := "standsAsWritten", desc := "(I)Z" } : Jvm.MethodName)).before a0 Z = true := hw _ (List.mem_of_getElem? (i := 14) rfl)
theorem t15 {Z : State} {a0 : Array Value} (hw : ∀ d ∈ tables_1, d.before a0 Z = true) : (Jvm.Cond.code ({ cls := "com/example/bouncr/bouncr/PathPatternIsCanonicalPinLaw", name := "standsAsWritten", desc := "(I)Z" } : Jvm.MethodName) method_4_code (1 : Nat) (Option.some Jvm.ClassFile.FieldType.boolean)).before a0 Z = true := hw _ (List.mem_of_getElem? (i := 15) rfl)
theorem t16 {Z : State} {a0 : Array Value} (hw : ∀ d ∈ tables_1, d.before a0 Z = true) : (Jvm.Cond.methodLink "com/example/bouncr/bouncr/PathPatternIsCanonicalPinLaw" (23 : Nat) ({ cls := "com/example/bouncr/bouncr/PathPattern", name := "isCanonical", desc := "([BII)Z" } : Jvm.MethodName)).before a0 Z = true := hw _ (List.mem_of_getElem? (i := 16) rfl)
theorem t17 {Z : State} {a0 : Array Value} (hw : ∀ d ∈ tables_1, d.before a0 Z = true) : (Jvm.Cond.static ({ cls := "com/example/bouncr/bouncr/PathPattern", name := "isCanonical", desc := "([BII)Z" } : Jvm.MethodName)).before a0 Z = true := hw _ (List.mem_of_getElem? (i := 17) rfl)
theorem t18 {Z : State} {a0 : Array Value} (hw : ∀ d ∈ tables_1, d.before a0 Z = true) : (Jvm.Cond.initialized "com/example/bouncr/bouncr/PathPattern").before a0 Z = true := hw _ (List.mem_of_getElem? (i := 18) rfl)
theorem t19 {Z : State} {a0 : Array Value} (hw : ∀ d ∈ tables_1, d.before a0 Z = true) : (Jvm.Cond.code ({ cls := "com/example/bouncr/bouncr/PathPattern", name := "isCanonical", desc := "([BII)Z" } : Jvm.MethodName) prog_12_method_2_code (4 : Nat) (Option.some Jvm.ClassFile.FieldType.boolean)).before a0 Z = true := hw _ (List.mem_of_getElem? (i := 19) rfl)
theorem t20 {Z : State} {a0 : Array Value} (hw : ∀ d ∈ tables_1, d.before a0 Z = true) : (Jvm.Cond.methodLink "com/example/bouncr/bouncr/PathPattern" (9 : Nat) ({ cls := "com/example/bouncr/bouncr/PathPattern", name := "standsAsWritten", desc := "(I)Z" } : Jvm.MethodName)).before a0 Z = true := hw _ (List.mem_of_getElem? (i := 20) rfl)
theorem t21 {Z : State} {a0 : Array Value} (hw : ∀ d ∈ tables_1, d.before a0 Z = true) : (Jvm.Cond.static ({ cls := "com/example/bouncr/bouncr/PathPattern", name := "standsAsWritten", desc := "(I)Z" } : Jvm.MethodName)).before a0 Z = true := hw _ (List.mem_of_getElem? (i := 21) rfl)
theorem t22 {Z : State} {a0 : Array Value} (hw : ∀ d ∈ tables_1, d.before a0 Z = true) : (Jvm.Cond.code ({ cls := "com/example/bouncr/bouncr/PathPattern", name := "standsAsWritten", desc := "(I)Z" } : Jvm.MethodName) prog_12_method_14_code (1 : Nat) (Option.some Jvm.ClassFile.FieldType.boolean)).before a0 Z = true := hw _ (List.mem_of_getElem? (i := 22) rfl)
theorem t23 {Z : State} {a0 : Array Value} (hw : ∀ d ∈ tables_1, d.before a0 Z = true) : (Jvm.Cond.fieldLink "com/example/bouncr/bouncr/PathPattern" (96 : Nat) "com/example/bouncr/bouncr/PathPattern" "KINDS" "[B").before a0 Z = true := hw _ (List.mem_of_getElem? (i := 23) rfl)
theorem t24 {Z : State} {a0 : Array Value} (hw : ∀ d ∈ tables_1, d.before a0 Z = true) : (Jvm.Cond.laysStatic "com/example/bouncr/bouncr/PathPattern" "KINDS" "[B").before a0 Z = true := hw _ (List.mem_of_getElem? (i := 24) rfl)
theorem pd0 : parseMethodDescriptor "(I)Z" = some ⟨[.int], some .boolean⟩ := by decide +kernel
theorem pd1 : parseMethodDescriptor "([BII)Z" = some ⟨[(.array .byte), .int, .int], some .boolean⟩ := by decide +kernel
theorem pd2 : parseMethodDescriptor "(IIII)Z" = some ⟨[.int, .int, .int, .int], some .boolean⟩ := by decide +kernel
theorem pd3 : parseMethodDescriptor "(II)I" = some ⟨[.int, .int], some .int⟩ := by decide +kernel
theorem pn0 : plainName "com/example/bouncr/bouncr/PathPatternIsCanonicalPinLaw" = true := by first | (simp [plainName, overriddenIn]; done) | decide +kernel
theorem pn1 : plainName "com/example/bouncr/bouncr/PathPattern" = true := by first | (simp [plainName, overriddenIn]; done) | decide +kernel
theorem c4_0 : Dil method_4_code 0 0 1 := Or.inr ⟨0, (by decide +kernel), rfl, rfl⟩
theorem c4_1 : Dp method_4_code 1 65 3 := Or.inr (Or.inl ⟨65, (by decide +kernel), by decide, rfl⟩)
theorem c4_3 : Db method_4_code 3 (.if_icmp .lt) 6 14 := ⟨11, (by decide +kernel), rfl, by decide, by decide⟩
theorem c4_6 : Dil method_4_code 6 0 7 := Or.inr ⟨0, (by decide +kernel), rfl, rfl⟩
theorem c4_7 : Dp method_4_code 7 90 9 := Or.inr (Or.inl ⟨90, (by decide +kernel), by decide, rfl⟩)
theorem c4_9 : Db method_4_code 9 (.if_icmp .gt) 12 14 := ⟨5, (by decide +kernel), rfl, by decide, by decide⟩
theorem c4_12 : Dp method_4_code 12 1 13 := Or.inl ⟨1, (by decide +kernel), by decide, rfl⟩
theorem c4_13 : Dc method_4_code 13 .ireturn 1 14 := ⟨(by decide +kernel), rfl⟩
theorem c4_14 : Dil method_4_code 14 0 15 := Or.inr ⟨0, (by decide +kernel), rfl, rfl⟩
theorem c4_15 : Dp method_4_code 15 97 17 := Or.inr (Or.inl ⟨97, (by decide +kernel), by decide, rfl⟩)
theorem c4_17 : Db method_4_code 17 (.if_icmp .lt) 20 28 := ⟨11, (by decide +kernel), rfl, by decide, by decide⟩
theorem c4_20 : Dil method_4_code 20 0 21 := Or.inr ⟨0, (by decide +kernel), rfl, rfl⟩
theorem c4_21 : Dp method_4_code 21 122 23 := Or.inr (Or.inl ⟨122, (by decide +kernel), by decide, rfl⟩)
theorem c4_23 : Db method_4_code 23 (.if_icmp .gt) 26 28 := ⟨5, (by decide +kernel), rfl, by decide, by decide⟩
theorem c4_26 : Dp method_4_code 26 1 27 := Or.inl ⟨1, (by decide +kernel), by decide, rfl⟩
theorem c4_27 : Dc method_4_code 27 .ireturn 1 28 := ⟨(by decide +kernel), rfl⟩
theorem c4_28 : Dil method_4_code 28 0 29 := Or.inr ⟨0, (by decide +kernel), rfl, rfl⟩
theorem c4_29 : Dp method_4_code 29 48 31 := Or.inr (Or.inl ⟨48, (by decide +kernel), by decide, rfl⟩)
theorem c4_31 : Db method_4_code 31 (.if_icmp .lt) 34 42 := ⟨11, (by decide +kernel), rfl, by decide, by decide⟩
theorem c4_34 : Dil method_4_code 34 0 35 := Or.inr ⟨0, (by decide +kernel), rfl, rfl⟩
theorem c4_35 : Dp method_4_code 35 57 37 := Or.inr (Or.inl ⟨57, (by decide +kernel), by decide, rfl⟩)
theorem c4_37 : Db method_4_code 37 (.if_icmp .gt) 40 42 := ⟨5, (by decide +kernel), rfl, by decide, by decide⟩
theorem c4_40 : Dp method_4_code 40 1 41 := Or.inl ⟨1, (by decide +kernel), by decide, rfl⟩
theorem c4_41 : Dc method_4_code 41 .ireturn 1 42 := ⟨(by decide +kernel), rfl⟩
theorem c4_42 : Dil method_4_code 42 0 43 := Or.inr ⟨0, (by decide +kernel), rfl, rfl⟩
theorem c4_43 : Dp method_4_code 43 45 45 := Or.inr (Or.inl ⟨45, (by decide +kernel), by decide, rfl⟩)
theorem c4_45 : Db method_4_code 45 (.if_icmp .eq) 48 66 := ⟨21, (by decide +kernel), rfl, by decide, by decide⟩
theorem c4_48 : Dil method_4_code 48 0 49 := Or.inr ⟨0, (by decide +kernel), rfl, rfl⟩
theorem c4_49 : Dp method_4_code 49 46 51 := Or.inr (Or.inl ⟨46, (by decide +kernel), by decide, rfl⟩)
theorem c4_51 : Db method_4_code 51 (.if_icmp .eq) 54 66 := ⟨15, (by decide +kernel), rfl, by decide, by decide⟩
theorem c4_54 : Dil method_4_code 54 0 55 := Or.inr ⟨0, (by decide +kernel), rfl, rfl⟩
theorem c4_55 : Dp method_4_code 55 95 57 := Or.inr (Or.inl ⟨95, (by decide +kernel), by decide, rfl⟩)
theorem c4_57 : Db method_4_code 57 (.if_icmp .eq) 60 66 := ⟨9, (by decide +kernel), rfl, by decide, by decide⟩
theorem c4_60 : Dil method_4_code 60 0 61 := Or.inr ⟨0, (by decide +kernel), rfl, rfl⟩
theorem c4_61 : Dp method_4_code 61 126 63 := Or.inr (Or.inl ⟨126, (by decide +kernel), by decide, rfl⟩)
theorem c4_63 : Db method_4_code 63 (.if_icmp .ne) 66 68 := ⟨5, (by decide +kernel), rfl, by decide, by decide⟩
theorem c4_66 : Dp method_4_code 66 1 67 := Or.inl ⟨1, (by decide +kernel), by decide, rfl⟩
theorem c4_67 : Dc method_4_code 67 .ireturn 1 68 := ⟨(by decide +kernel), rfl⟩
theorem c4_68 : Dil method_4_code 68 0 69 := Or.inr ⟨0, (by decide +kernel), rfl, rfl⟩
theorem c4_69 : Dp method_4_code 69 58 71 := Or.inr (Or.inl ⟨58, (by decide +kernel), by decide, rfl⟩)
theorem c4_71 : Db method_4_code 71 (.if_icmp .eq) 74 176 := ⟨105, (by decide +kernel), rfl, by decide, by decide⟩
theorem c4_74 : Dil method_4_code 74 0 75 := Or.inr ⟨0, (by decide +kernel), rfl, rfl⟩
theorem c4_75 : Dp method_4_code 75 47 77 := Or.inr (Or.inl ⟨47, (by decide +kernel), by decide, rfl⟩)
theorem c4_77 : Db method_4_code 77 (.if_icmp .eq) 80 176 := ⟨99, (by decide +kernel), rfl, by decide, by decide⟩
theorem c4_80 : Dil method_4_code 80 0 81 := Or.inr ⟨0, (by decide +kernel), rfl, rfl⟩
theorem c4_81 : Dp method_4_code 81 63 83 := Or.inr (Or.inl ⟨63, (by decide +kernel), by decide, rfl⟩)
theorem c4_83 : Db method_4_code 83 (.if_icmp .eq) 86 176 := ⟨93, (by decide +kernel), rfl, by decide, by decide⟩
theorem c4_86 : Dil method_4_code 86 0 87 := Or.inr ⟨0, (by decide +kernel), rfl, rfl⟩
theorem c4_87 : Dp method_4_code 87 35 89 := Or.inr (Or.inl ⟨35, (by decide +kernel), by decide, rfl⟩)
theorem c4_89 : Db method_4_code 89 (.if_icmp .eq) 92 176 := ⟨87, (by decide +kernel), rfl, by decide, by decide⟩
theorem c4_92 : Dil method_4_code 92 0 93 := Or.inr ⟨0, (by decide +kernel), rfl, rfl⟩
theorem c4_93 : Dp method_4_code 93 91 95 := Or.inr (Or.inl ⟨91, (by decide +kernel), by decide, rfl⟩)
theorem c4_95 : Db method_4_code 95 (.if_icmp .eq) 98 176 := ⟨81, (by decide +kernel), rfl, by decide, by decide⟩
theorem c4_98 : Dil method_4_code 98 0 99 := Or.inr ⟨0, (by decide +kernel), rfl, rfl⟩
theorem c4_99 : Dp method_4_code 99 93 101 := Or.inr (Or.inl ⟨93, (by decide +kernel), by decide, rfl⟩)
theorem c4_101 : Db method_4_code 101 (.if_icmp .eq) 104 176 := ⟨75, (by decide +kernel), rfl, by decide, by decide⟩
theorem c4_104 : Dil method_4_code 104 0 105 := Or.inr ⟨0, (by decide +kernel), rfl, rfl⟩
theorem c4_105 : Dp method_4_code 105 64 107 := Or.inr (Or.inl ⟨64, (by decide +kernel), by decide, rfl⟩)
theorem c4_107 : Db method_4_code 107 (.if_icmp .eq) 110 176 := ⟨69, (by decide +kernel), rfl, by decide, by decide⟩
theorem c4_110 : Dil method_4_code 110 0 111 := Or.inr ⟨0, (by decide +kernel), rfl, rfl⟩
theorem c4_111 : Dp method_4_code 111 33 113 := Or.inr (Or.inl ⟨33, (by decide +kernel), by decide, rfl⟩)
theorem c4_113 : Db method_4_code 113 (.if_icmp .eq) 116 176 := ⟨63, (by decide +kernel), rfl, by decide, by decide⟩
theorem c4_116 : Dil method_4_code 116 0 117 := Or.inr ⟨0, (by decide +kernel), rfl, rfl⟩
theorem c4_117 : Dp method_4_code 117 36 119 := Or.inr (Or.inl ⟨36, (by decide +kernel), by decide, rfl⟩)
theorem c4_119 : Db method_4_code 119 (.if_icmp .eq) 122 176 := ⟨57, (by decide +kernel), rfl, by decide, by decide⟩
theorem c4_122 : Dil method_4_code 122 0 123 := Or.inr ⟨0, (by decide +kernel), rfl, rfl⟩
theorem c4_123 : Dp method_4_code 123 38 125 := Or.inr (Or.inl ⟨38, (by decide +kernel), by decide, rfl⟩)
theorem c4_125 : Db method_4_code 125 (.if_icmp .eq) 128 176 := ⟨51, (by decide +kernel), rfl, by decide, by decide⟩
theorem c4_128 : Dil method_4_code 128 0 129 := Or.inr ⟨0, (by decide +kernel), rfl, rfl⟩
theorem c4_129 : Dp method_4_code 129 39 131 := Or.inr (Or.inl ⟨39, (by decide +kernel), by decide, rfl⟩)
theorem c4_131 : Db method_4_code 131 (.if_icmp .eq) 134 176 := ⟨45, (by decide +kernel), rfl, by decide, by decide⟩
theorem c4_134 : Dil method_4_code 134 0 135 := Or.inr ⟨0, (by decide +kernel), rfl, rfl⟩
theorem c4_135 : Dp method_4_code 135 40 137 := Or.inr (Or.inl ⟨40, (by decide +kernel), by decide, rfl⟩)
theorem c4_137 : Db method_4_code 137 (.if_icmp .eq) 140 176 := ⟨39, (by decide +kernel), rfl, by decide, by decide⟩
theorem c4_140 : Dil method_4_code 140 0 141 := Or.inr ⟨0, (by decide +kernel), rfl, rfl⟩
theorem c4_141 : Dp method_4_code 141 41 143 := Or.inr (Or.inl ⟨41, (by decide +kernel), by decide, rfl⟩)
theorem c4_143 : Db method_4_code 143 (.if_icmp .eq) 146 176 := ⟨33, (by decide +kernel), rfl, by decide, by decide⟩
theorem c4_146 : Dil method_4_code 146 0 147 := Or.inr ⟨0, (by decide +kernel), rfl, rfl⟩
theorem c4_147 : Dp method_4_code 147 42 149 := Or.inr (Or.inl ⟨42, (by decide +kernel), by decide, rfl⟩)
theorem c4_149 : Db method_4_code 149 (.if_icmp .eq) 152 176 := ⟨27, (by decide +kernel), rfl, by decide, by decide⟩
theorem c4_152 : Dil method_4_code 152 0 153 := Or.inr ⟨0, (by decide +kernel), rfl, rfl⟩
theorem c4_153 : Dp method_4_code 153 43 155 := Or.inr (Or.inl ⟨43, (by decide +kernel), by decide, rfl⟩)
theorem c4_155 : Db method_4_code 155 (.if_icmp .eq) 158 176 := ⟨21, (by decide +kernel), rfl, by decide, by decide⟩
theorem c4_158 : Dil method_4_code 158 0 159 := Or.inr ⟨0, (by decide +kernel), rfl, rfl⟩
theorem c4_159 : Dp method_4_code 159 44 161 := Or.inr (Or.inl ⟨44, (by decide +kernel), by decide, rfl⟩)
theorem c4_161 : Db method_4_code 161 (.if_icmp .eq) 164 176 := ⟨15, (by decide +kernel), rfl, by decide, by decide⟩
theorem c4_164 : Dil method_4_code 164 0 165 := Or.inr ⟨0, (by decide +kernel), rfl, rfl⟩
theorem c4_165 : Dp method_4_code 165 59 167 := Or.inr (Or.inl ⟨59, (by decide +kernel), by decide, rfl⟩)
theorem c4_167 : Db method_4_code 167 (.if_icmp .eq) 170 176 := ⟨9, (by decide +kernel), rfl, by decide, by decide⟩
theorem c4_170 : Dil method_4_code 170 0 171 := Or.inr ⟨0, (by decide +kernel), rfl, rfl⟩
theorem c4_171 : Dp method_4_code 171 61 173 := Or.inr (Or.inl ⟨61, (by decide +kernel), by decide, rfl⟩)
theorem c4_173 : Db method_4_code 173 (.if_icmp .ne) 176 180 := ⟨7, (by decide +kernel), rfl, by decide, by decide⟩
theorem c4_176 : Dp method_4_code 176 1 177 := Or.inl ⟨1, (by decide +kernel), by decide, rfl⟩
theorem c4_177 : Db method_4_code 177 .goto 180 181 := ⟨4, (by decide +kernel), rfl, by decide, by decide⟩
theorem c4_180 : Dp method_4_code 180 0 181 := Or.inl ⟨0, (by decide +kernel), by decide, rfl⟩
theorem c4_181 : Dc method_4_code 181 .ireturn 1 182 := ⟨(by decide +kernel), rfl⟩
theorem c6_0 : Dc prog_12_method_14_code 0 (.getstatic 96) 3 3 := ⟨(by decide +kernel), rfl⟩
theorem c6_3 : Dil prog_12_method_14_code 3 0 4 := Or.inr ⟨0, (by decide +kernel), rfl, rfl⟩
theorem c6_4 : Dc prog_12_method_14_code 4 .baload 1 5 := ⟨(by decide +kernel), rfl⟩
theorem c6_5 : Db prog_12_method_14_code 5 (.ifCond .eq) 8 12 := ⟨7, (by decide +kernel), rfl, by decide, by decide⟩
theorem c6_8 : Dp prog_12_method_14_code 8 1 9 := Or.inl ⟨1, (by decide +kernel), by decide, rfl⟩
theorem c6_9 : Db prog_12_method_14_code 9 .goto 12 13 := ⟨4, (by decide +kernel), rfl, by decide, by decide⟩
theorem c6_12 : Dp prog_12_method_14_code 12 0 13 := Or.inl ⟨0, (by decide +kernel), by decide, rfl⟩
theorem c6_13 : Dc prog_12_method_14_code 13 .ireturn 1 14 := ⟨(by decide +kernel), rfl⟩
theorem c5_0 : Dil prog_12_method_2_code 0 1 1 := Or.inr ⟨1, (by decide +kernel), rfl, rfl⟩
theorem c5_1 : Dis prog_12_method_2_code 1 3 2 := Or.inr ⟨3, (by decide +kernel), rfl, rfl⟩
theorem c5_2 : Dil prog_12_method_2_code 2 3 3 := Or.inr ⟨3, (by decide +kernel), rfl, rfl⟩
theorem c5_3 : Dil prog_12_method_2_code 3 2 4 := Or.inr ⟨2, (by decide +kernel), rfl, rfl⟩
theorem c5_4 : Db prog_12_method_2_code 4 (.if_icmp .ge) 7 26 := ⟨22, (by decide +kernel), rfl, by decide, by decide⟩
theorem c5_7 : Dal prog_12_method_2_code 7 0 8 := Or.inr ⟨0, (by decide +kernel), rfl, rfl⟩
theorem c5_8 : Dil prog_12_method_2_code 8 3 9 := Or.inr ⟨3, (by decide +kernel), rfl, rfl⟩
theorem c5_9 : Dc prog_12_method_2_code 9 .baload 1 10 := ⟨(by decide +kernel), rfl⟩
theorem c5_10 : Dp prog_12_method_2_code 10 255 13 := Or.inr (Or.inr ⟨255, (by decide +kernel), by decide, rfl⟩)
theorem c5_13 : Dc prog_12_method_2_code 13 .iand 1 14 := ⟨(by decide +kernel), rfl⟩
theorem c5_14 : Dc prog_12_method_2_code 14 (.invokestatic 9) 3 17 := ⟨(by decide +kernel), rfl⟩
theorem c5_17 : Db prog_12_method_2_code 17 (.ifCond .eq) 20 26 := ⟨9, (by decide +kernel), rfl, by decide, by decide⟩
theorem c5_20 : Dinc prog_12_method_2_code 20 3 1 23 := ⟨1, (by decide +kernel), by decide, rfl⟩
theorem c5_23 : Db prog_12_method_2_code 23 .goto 26 2 := ⟨(-21), (by decide +kernel), rfl, by decide, by decide⟩
theorem c5_26 : Dil prog_12_method_2_code 26 3 27 := Or.inr ⟨3, (by decide +kernel), rfl, rfl⟩
theorem c5_27 : Dil prog_12_method_2_code 27 2 28 := Or.inr ⟨2, (by decide +kernel), rfl, rfl⟩
theorem c5_28 : Db prog_12_method_2_code 28 (.if_icmp .ne) 31 35 := ⟨7, (by decide +kernel), rfl, by decide, by decide⟩
theorem c5_31 : Dp prog_12_method_2_code 31 1 32 := Or.inl ⟨1, (by decide +kernel), by decide, rfl⟩
theorem c5_32 : Db prog_12_method_2_code 32 .goto 35 36 := ⟨4, (by decide +kernel), rfl, by decide, by decide⟩
theorem c5_35 : Dp prog_12_method_2_code 35 0 36 := Or.inl ⟨0, (by decide +kernel), by decide, rfl⟩
theorem c5_36 : Dc prog_12_method_2_code 36 .ireturn 1 37 := ⟨(by decide +kernel), rfl⟩
theorem c3_0 : Dil method_3_code 0 0 1 := Or.inr ⟨0, (by decide +kernel), rfl, rfl⟩
theorem c3_1 : Dil method_3_code 1 1 2 := Or.inr ⟨1, (by decide +kernel), rfl, rfl⟩
theorem c3_2 : Db method_3_code 2 (.if_icmp .lt) 5 21 := ⟨19, (by decide +kernel), rfl, by decide, by decide⟩
theorem c3_5 : Dil method_3_code 5 0 6 := Or.inr ⟨0, (by decide +kernel), rfl, rfl⟩
theorem c3_6 : Dil method_3_code 6 2 7 := Or.inr ⟨2, (by decide +kernel), rfl, rfl⟩
theorem c3_7 : Db method_3_code 7 (.if_icmp .ge) 10 21 := ⟨14, (by decide +kernel), rfl, by decide, by decide⟩
theorem c3_10 : Dil method_3_code 10 3 11 := Or.inr ⟨3, (by decide +kernel), rfl, rfl⟩
theorem c3_11 : Dp method_3_code 11 255 14 := Or.inr (Or.inr ⟨255, (by decide +kernel), by decide, rfl⟩)
theorem c3_14 : Dc method_3_code 14 .iand 1 15 := ⟨(by decide +kernel), rfl⟩
theorem c3_15 : Dc method_3_code 15 (.invokestatic 29) 3 18 := ⟨(by decide +kernel), rfl⟩
theorem c3_18 : Db method_3_code 18 (.ifCond .eq) 21 25 := ⟨7, (by decide +kernel), rfl, by decide, by decide⟩
theorem c3_21 : Dp method_3_code 21 1 22 := Or.inl ⟨1, (by decide +kernel), by decide, rfl⟩
theorem c3_22 : Db method_3_code 22 .goto 25 26 := ⟨4, (by decide +kernel), rfl, by decide, by decide⟩
theorem c3_25 : Dp method_3_code 25 0 26 := Or.inl ⟨0, (by decide +kernel), by decide, rfl⟩
theorem c3_26 : Dc method_3_code 26 .ireturn 1 27 := ⟨(by decide +kernel), rfl⟩
theorem c1_0 : Dil jdk_29_method_69_code 0 0 1 := Or.inr ⟨0, (by decide +kernel), rfl, rfl⟩
theorem c1_1 : Dil jdk_29_method_69_code 1 1 2 := Or.inr ⟨1, (by decide +kernel), rfl, rfl⟩
theorem c1_2 : Db jdk_29_method_69_code 2 (.if_icmp .gt) 5 9 := ⟨7, (by decide +kernel), rfl, by decide, by decide⟩
theorem c1_5 : Dil jdk_29_method_69_code 5 0 6 := Or.inr ⟨0, (by decide +kernel), rfl, rfl⟩
theorem c1_6 : Db jdk_29_method_69_code 6 .goto 9 10 := ⟨4, (by decide +kernel), rfl, by decide, by decide⟩
theorem c1_9 : Dil jdk_29_method_69_code 9 1 10 := Or.inr ⟨1, (by decide +kernel), rfl, rfl⟩
theorem c1_10 : Dc jdk_29_method_69_code 10 .ireturn 1 11 := ⟨(by decide +kernel), rfl⟩
theorem c2_0 : Dil jdk_29_method_65_code 0 0 1 := Or.inr ⟨0, (by decide +kernel), rfl, rfl⟩
theorem c2_1 : Dil jdk_29_method_65_code 1 1 2 := Or.inr ⟨1, (by decide +kernel), rfl, rfl⟩
theorem c2_2 : Db jdk_29_method_65_code 2 (.if_icmp .lt) 5 9 := ⟨7, (by decide +kernel), rfl, by decide, by decide⟩
theorem c2_5 : Dil jdk_29_method_65_code 5 0 6 := Or.inr ⟨0, (by decide +kernel), rfl, rfl⟩
theorem c2_6 : Db jdk_29_method_65_code 6 .goto 9 10 := ⟨4, (by decide +kernel), rfl, by decide, by decide⟩
theorem c2_9 : Dil jdk_29_method_65_code 9 1 10 := Or.inr ⟨1, (by decide +kernel), rfl, rfl⟩
theorem c2_10 : Dc jdk_29_method_65_code 10 .ireturn 1 11 := ⟨(by decide +kernel), rfl⟩
theorem c0_0 : Dp code 0 5 1 := Or.inl ⟨5, at_0, by decide, rfl⟩
theorem c0_1 : Dc code 1 (.newarray .byte) 2 3 := ⟨at_1, rfl⟩
theorem c0_3 : Dc code 3 .dup 1 4 := ⟨at_3, rfl⟩
theorem c0_4 : Dp code 4 0 5 := Or.inl ⟨0, at_4, by decide, rfl⟩
theorem c0_5 : Dil code 5 0 6 := Or.inr ⟨0, at_5, rfl, rfl⟩
theorem c0_6 : Dc code 6 .i2b 1 7 := ⟨at_6, rfl⟩
theorem c0_7 : Dc code 7 .bastore 1 8 := ⟨at_7, rfl⟩
theorem c0_8 : Dc code 8 .dup 1 9 := ⟨at_8, rfl⟩
theorem c0_9 : Dp code 9 1 10 := Or.inl ⟨1, at_9, by decide, rfl⟩
theorem c0_10 : Dil code 10 1 11 := Or.inr ⟨1, at_10, rfl, rfl⟩
theorem c0_11 : Dc code 11 .i2b 1 12 := ⟨at_11, rfl⟩
theorem c0_12 : Dc code 12 .bastore 1 13 := ⟨at_12, rfl⟩
theorem c0_13 : Dc code 13 .dup 1 14 := ⟨at_13, rfl⟩
theorem c0_14 : Dp code 14 2 15 := Or.inl ⟨2, at_14, by decide, rfl⟩
theorem c0_15 : Dil code 15 2 16 := Or.inr ⟨2, at_15, rfl, rfl⟩
theorem c0_16 : Dc code 16 .i2b 1 17 := ⟨at_16, rfl⟩
theorem c0_17 : Dc code 17 .bastore 1 18 := ⟨at_17, rfl⟩
theorem c0_18 : Dc code 18 .dup 1 19 := ⟨at_18, rfl⟩
theorem c0_19 : Dp code 19 3 20 := Or.inl ⟨3, at_19, by decide, rfl⟩
theorem c0_20 : Dil code 20 3 21 := Or.inr ⟨3, at_20, rfl, rfl⟩
theorem c0_21 : Dc code 21 .i2b 1 22 := ⟨at_21, rfl⟩
theorem c0_22 : Dc code 22 .bastore 1 23 := ⟨at_22, rfl⟩
theorem c0_23 : Dc code 23 .dup 1 24 := ⟨at_23, rfl⟩
theorem c0_24 : Dp code 24 4 25 := Or.inl ⟨4, at_24, by decide, rfl⟩
theorem c0_25 : Dil code 25 4 27 := Or.inl ⟨at_25, rfl⟩
theorem c0_27 : Dc code 27 .i2b 1 28 := ⟨at_27, rfl⟩
theorem c0_28 : Dc code 28 .bastore 1 29 := ⟨at_28, rfl⟩
theorem c0_29 : Das code 29 6 31 := Or.inl ⟨at_29, rfl⟩
theorem c0_31 : Dil code 31 5 33 := Or.inl ⟨at_31, rfl⟩
theorem c0_33 : Dc code 33 (.ldc 7) 2 35 := ⟨at_33, rfl⟩
theorem c0_35 : Dc code 35 .iand 1 36 := ⟨at_35, rfl⟩
theorem c0_36 : Dp code 36 6 38 := Or.inr (Or.inl ⟨6, at_36, by decide, rfl⟩)
theorem c0_38 : Dc code 38 .irem 1 39 := ⟨at_38, rfl⟩
theorem c0_39 : Dis code 39 7 41 := Or.inl ⟨at_39, rfl⟩
theorem c0_41 : Dil code 41 5 43 := Or.inl ⟨at_41, rfl⟩
theorem c0_43 : Dp code 43 8 45 := Or.inr (Or.inl ⟨8, at_43, by decide, rfl⟩)
theorem c0_45 : Dc code 45 .iushr 1 46 := ⟨at_45, rfl⟩
theorem c0_46 : Dc code 46 (.ldc 7) 2 48 := ⟨at_46, rfl⟩
theorem c0_48 : Dc code 48 .iand 1 49 := ⟨at_48, rfl⟩
theorem c0_49 : Dp code 49 6 51 := Or.inr (Or.inl ⟨6, at_49, by decide, rfl⟩)
theorem c0_51 : Dc code 51 .irem 1 52 := ⟨at_51, rfl⟩
theorem c0_52 : Dis code 52 8 54 := Or.inl ⟨at_52, rfl⟩
theorem c0_54 : Dil code 54 7 56 := Or.inl ⟨at_54, rfl⟩
theorem c0_56 : Dil code 56 8 58 := Or.inl ⟨at_56, rfl⟩
theorem c0_58 : Dc code 58 (.invokestatic 8) 3 61 := ⟨at_58, rfl⟩
theorem c0_61 : Dis code 61 9 63 := Or.inl ⟨at_61, rfl⟩
theorem c0_63 : Dil code 63 7 65 := Or.inl ⟨at_63, rfl⟩
theorem c0_65 : Dil code 65 8 67 := Or.inl ⟨at_65, rfl⟩
theorem c0_67 : Dc code 67 (.invokestatic 14) 3 70 := ⟨at_67, rfl⟩
theorem c0_70 : Dis code 70 10 72 := Or.inl ⟨at_70, rfl⟩
theorem c0_72 : Dp code 72 0 73 := Or.inl ⟨0, at_72, by decide, rfl⟩
theorem c0_73 : Dil code 73 9 75 := Or.inl ⟨at_73, rfl⟩
theorem c0_75 : Dil code 75 10 77 := Or.inl ⟨at_75, rfl⟩
theorem c0_77 : Dil code 77 0 78 := Or.inr ⟨0, at_77, rfl, rfl⟩
theorem c0_78 : Dc code 78 (.invokestatic 17) 3 81 := ⟨at_78, rfl⟩
theorem c0_81 : Db code 81 (.ifCond .eq) 84 137 := ⟨56, at_81, rfl, by decide, by decide⟩
theorem c0_84 : Dp code 84 1 85 := Or.inl ⟨1, at_84, by decide, rfl⟩
theorem c0_85 : Dil code 85 9 87 := Or.inl ⟨at_85, rfl⟩
theorem c0_87 : Dil code 87 10 89 := Or.inl ⟨at_87, rfl⟩
theorem c0_89 : Dil code 89 1 90 := Or.inr ⟨1, at_89, rfl, rfl⟩
theorem c0_90 : Dc code 90 (.invokestatic 17) 3 93 := ⟨at_90, rfl⟩
theorem c0_93 : Db code 93 (.ifCond .eq) 96 137 := ⟨44, at_93, rfl, by decide, by decide⟩
theorem c0_96 : Dp code 96 2 97 := Or.inl ⟨2, at_96, by decide, rfl⟩
theorem c0_97 : Dil code 97 9 99 := Or.inl ⟨at_97, rfl⟩
theorem c0_99 : Dil code 99 10 101 := Or.inl ⟨at_99, rfl⟩
theorem c0_101 : Dil code 101 2 102 := Or.inr ⟨2, at_101, rfl, rfl⟩
theorem c0_102 : Dc code 102 (.invokestatic 17) 3 105 := ⟨at_102, rfl⟩
theorem c0_105 : Db code 105 (.ifCond .eq) 108 137 := ⟨32, at_105, rfl, by decide, by decide⟩
theorem c0_108 : Dp code 108 3 109 := Or.inl ⟨3, at_108, by decide, rfl⟩
theorem c0_109 : Dil code 109 9 111 := Or.inl ⟨at_109, rfl⟩
theorem c0_111 : Dil code 111 10 113 := Or.inl ⟨at_111, rfl⟩
theorem c0_113 : Dil code 113 3 114 := Or.inr ⟨3, at_113, rfl, rfl⟩
theorem c0_114 : Dc code 114 (.invokestatic 17) 3 117 := ⟨at_114, rfl⟩
theorem c0_117 : Db code 117 (.ifCond .eq) 120 137 := ⟨20, at_117, rfl, by decide, by decide⟩
theorem c0_120 : Dp code 120 4 121 := Or.inl ⟨4, at_120, by decide, rfl⟩
theorem c0_121 : Dil code 121 9 123 := Or.inl ⟨at_121, rfl⟩
theorem c0_123 : Dil code 123 10 125 := Or.inl ⟨at_123, rfl⟩
theorem c0_125 : Dil code 125 4 127 := Or.inl ⟨at_125, rfl⟩
theorem c0_127 : Dc code 127 (.invokestatic 17) 3 130 := ⟨at_127, rfl⟩
theorem c0_130 : Db code 130 (.ifCond .eq) 133 137 := ⟨7, at_130, rfl, by decide, by decide⟩
theorem c0_133 : Dp code 133 1 134 := Or.inl ⟨1, at_133, by decide, rfl⟩
theorem c0_134 : Db code 134 .goto 137 138 := ⟨4, at_134, rfl, by decide, by decide⟩
theorem c0_137 : Dp code 137 0 138 := Or.inl ⟨0, at_137, by decide, rfl⟩
theorem c0_138 : Dis code 138 11 140 := Or.inl ⟨at_138, rfl⟩
theorem c0_140 : Dal code 140 6 142 := Or.inl ⟨at_140, rfl⟩
theorem c0_142 : Dil code 142 9 144 := Or.inl ⟨at_142, rfl⟩
theorem c0_144 : Dil code 144 10 146 := Or.inl ⟨at_144, rfl⟩
theorem c0_146 : Dc code 146 (.invokestatic 23) 3 149 := ⟨at_146, rfl⟩
theorem c0_149 : Dil code 149 11 151 := Or.inl ⟨at_149, rfl⟩
theorem c0_151 : Db code 151 (.if_icmp .ne) 154 158 := ⟨7, at_151, rfl, by decide, by decide⟩
theorem c0_154 : Dp code 154 1 155 := Or.inl ⟨1, at_154, by decide, rfl⟩
theorem c0_155 : Db code 155 .goto 158 159 := ⟨4, at_155, rfl, by decide, by decide⟩
theorem c0_158 : Dp code 158 0 159 := Or.inl ⟨0, at_158, by decide, rfl⟩
theorem c0_159 : Dc code 159 .ireturn 1 160 := ⟨at_159, rfl⟩

def own_saw (o : Int32) : Int32 := if (¬ o < 65 ∧ ¬ 90 < o) ∨ (¬ o < 97 ∧ ¬ 122 < o) ∨ (¬ o < 48 ∧ ¬ 57 < o) ∨ o = 45 ∨ o = 46 ∨ o = 95 ∨ o = 126 ∨ o = 58 ∨ o = 47 ∨ o = 63 ∨ o = 35 ∨ o = 91 ∨ o = 93 ∨ o = 64 ∨ o = 33 ∨ o = 36 ∨ o = 38 ∨ o = 39 ∨ o = 40 ∨ o = 41 ∨ o = 42 ∨ o = 43 ∨ o = 44 ∨ o = 59 ∨ o = 61 then 1 else 0
def own_oct (b : Int32) : Nat := (b &&& 255).toBitVec.toNat
theorem own_oct_lt (b : Int32) : own_oct b < 256 := by
  have h : (b &&& 255).toBitVec.toNat ≤ 255 := by rw [Int32.toBitVec_and, BitVec.toNat_and]; exact Nat.and_le_right
  unfold own_oct; omega
theorem own_oct_eq (b : Int32) : b &&& 255 = Int32.ofNat (own_oct b) := by
  apply Int32.toBitVec_inj.mp
  apply BitVec.eq_of_toNat_eq
  have h := own_oct_lt b
  have e : (Int32.ofNat (own_oct b)).toBitVec = BitVec.ofNat 32 (own_oct b) := rfl
  rw [e, BitVec.toNat_ofNat, Nat.mod_eq_of_lt (by omega)]; rfl
theorem own_saw01 (o : Int32) : own_saw o = 0 ∨ own_saw o = 1 := by unfold own_saw; split <;> simp
theorem own_i_nat (j : Nat) (h : j < 256) : ¬ Int32.ofNat j < 0 ∧ (Int32.ofNat j).toNatClampNeg = j := by
  have e : (Int32.ofNat j).toInt = (j : Int) := by
    have e1 : (Int32.ofNat j).toBitVec = BitVec.ofNat 32 j := rfl
    show (Int32.ofNat j).toBitVec.toInt = _
    rw [e1, BitVec.toInt_eq_toNat_of_lt (by rw [BitVec.toNat_ofNat, Nat.mod_eq_of_lt (by omega)]; omega), BitVec.toNat_ofNat, Nat.mod_eq_of_lt (by omega)]
  constructor
  · rw [Int32.lt_iff_toInt_lt, e, show (0 : Int32).toInt = 0 from by decide]; omega
  · show (Int32.ofNat j).toInt.toNat = j
    rw [e]; rfl
def own_kd (j : Nat) : Int32 := if j < 33 then 0 else if j < 34 then 2 else if j < 35 then 0 else if j < 36 then 2 else if j < 37 then 2 else if j < 38 then 0 else if j < 45 then 2 else if j < 46 then 1 else if j < 47 then 1 else if j < 48 then 2 else if j < 58 then 1 else if j < 59 then 2 else if j < 60 then 2 else if j < 61 then 0 else if j < 62 then 2 else if j < 63 then 0 else if j < 64 then 2 else if j < 65 then 2 else if j < 91 then 1 else if j < 92 then 2 else if j < 93 then 0 else if j < 94 then 2 else if j < 95 then 0 else if j < 96 then 1 else if j < 97 then 0 else if j < 123 then 1 else if j < 124 then 0 else if j < 125 then 0 else if j < 126 then 0 else if j < 127 then 1 else 0
theorem own_kd_saw : ∀ j, j < 256 → (own_kd j = 0 ↔ own_saw (Int32.ofNat j) = 0) := by decide +kernel
def own_c1 (f t i : Nat) (s r : Int32) : Int32 := if f ≤ i ∧ i < t ∧ s = 0 then 0 else r
def own_can (f t : Nat) (s0 s1 s2 s3 s4 : Int32) : Int32 := own_c1 f t 0 s0 (own_c1 f t 1 s1 (own_c1 f t 2 s2 (own_c1 f t 3 s3 (own_c1 f t 4 s4 1))))
theorem own_nneg (x : Int32) : ¬ (x &&& 2147483647) < 0 := by
  have h : (x &&& 2147483647).toBitVec.toNat ≤ 2147483647 := by rw [Int32.toBitVec_and, BitVec.toNat_and]; exact Nat.and_le_right
  rw [Int32.lt_iff_toInt_lt]
  have e : (x &&& 2147483647).toInt = ((x &&& 2147483647).toBitVec.toNat : Int) := BitVec.toInt_eq_toNat_of_lt (by omega)
  have e0 : (0 : Int32).toInt = 0 := by decide
  omega
theorem own_m6 (n : Int32) : (n &&& 2147483647) % 6 = 0 ∨ (n &&& 2147483647) % 6 = 1 ∨ (n &&& 2147483647) % 6 = 2 ∨ (n &&& 2147483647) % 6 = 3 ∨ (n &&& 2147483647) % 6 = 4 ∨ (n &&& 2147483647) % 6 = 5 := by
  have h := own_nneg n
  rw [Int32.lt_iff_toInt_lt, show (0 : Int32).toInt = 0 from by decide] at h
  have e : ((n &&& 2147483647) % 6).toInt = (n &&& 2147483647).toInt.tmod 6 := Int32.toInt_mod _ _
  have a1 : 0 ≤ (n &&& 2147483647).toInt.tmod 6 := Int.tmod_nonneg 6 (by omega)
  have a2 : (n &&& 2147483647).toInt.tmod 6 < 6 := Int.tmod_lt_of_pos _ (by omega)
  generalize (n &&& 2147483647) % 6 = x at *
  have : x.toInt = 0 ∨ x.toInt = 1 ∨ x.toInt = 2 ∨ x.toInt = 3 ∨ x.toInt = 4 ∨ x.toInt = 5 := by omega
  rcases this with h | h | h | h | h | h
  · exact Or.inl (Int32.toInt_inj.mp (h.trans (by decide)))
  · exact Or.inr (Or.inl (Int32.toInt_inj.mp (h.trans (by decide))))
  · exact Or.inr (Or.inr (Or.inl (Int32.toInt_inj.mp (h.trans (by decide)))))
  · exact Or.inr (Or.inr (Or.inr (Or.inl (Int32.toInt_inj.mp (h.trans (by decide))))))
  · exact Or.inr (Or.inr (Or.inr (Or.inr (Or.inl (Int32.toInt_inj.mp (h.trans (by decide)))))))
  · exact Or.inr (Or.inr (Or.inr (Or.inr (Or.inr (Int32.toInt_inj.mp (h.trans (by decide)))))))
def own_min (a b : Int32) : Int32 := if b < a then b else a
def own_max (a b : Int32) : Int32 := if a < b then b else a
theorem own_nb (b : Int32) : (b.toInt8.toInt32.toInt8.toInt32) &&& 255 = b &&& 255 := by
  apply Int32.toBitVec_inj.mp
  rw [Int32.toBitVec_and, Int32.toBitVec_and]
  simp only [Int8.toBitVec_toInt32, Int32.toBitVec_toInt8]
  ext i hi
  simp only [BitVec.getElem_and, BitVec.getElem_signExtend, BitVec.getElem_setWidth]
  by_cases h8 : i < 8
  · simp [h8, hi]
  · have : (255#32)[i] = false := by
      have : ∀ i (hi : i < 32), ¬ i < 8 → (255#32)[i] = false := by decide
      exact this i hi h8
    simp [this]
theorem own_i_lt (j k : Nat) (hj : j < 256) (hk : k ≤ 256) : (Int32.ofNat j < Int32.ofNat k ↔ j < k) ∧ (Int32.ofNat k ≤ Int32.ofNat j ↔ k ≤ j) := by
  have e : ∀ j, j ≤ 256 → (Int32.ofNat j).toInt = (j : Int) := fun j h => by
    have e1 : (Int32.ofNat j).toBitVec = BitVec.ofNat 32 j := rfl
    show (Int32.ofNat j).toBitVec.toInt = _
    rw [e1, BitVec.toInt_eq_toNat_of_lt (by rw [BitVec.toNat_ofNat, Nat.mod_eq_of_lt (by omega)]; omega), BitVec.toNat_ofNat, Nat.mod_eq_of_lt (by omega)]
  rw [Int32.lt_iff_toInt_lt, Int32.le_iff_toInt_le, e j (by omega), e k hk]; omega
section Tab
variable {args : Array Value} {s : State} {idx : List Nat} {t a b : Term} {x : Addr} {j : Nat} {cc : Cell} {v p q : Int32} {c d : Cond}
theorem own_el {i : Int32} (h : (Cond.eq (Term.elem t a) (Term.int v)).value args s none s idx = some true) (ht : t.eval args s none idx s = some (.ref x)) (hj : a.eval args s none idx s = some (.int i)) (hc : s.heap[x]? = some cc) : cc.slots[i.toNatClampNeg]? = some (.int v) := by
  obtain ⟨p, q, e1, e2, k1, k2⟩ := cmp_v (Or.inl h)
  have : q = .int v := by simpa [Term.eval] using e2.symm
  subst this
  obtain ⟨z, rfl⟩ : ∃ z, p = .int z := k2
  have hz : z = v := by simpa [Cond.value, e1, e2] using h
  subst hz
  exact (elem_in e1 ht hj hc).2
theorem own_or (h : (Cond.or c d).value args s none s idx = some true) (hc : c.value args s none s idx = some false) : d.value args s none s idx = some true := by
  simpa [Cond.value, hc] using h
theorem own_ix (hj : j < 256) : (Term.index 0).eval args s none [j] s = some (.int (Int32.ofNat j)) := by
  have := idx_at (args := args) (first := s) (s := s) (o := none) (j := Int32.ofNat j) (own_i_nat j hj).1
  rw [(own_i_nat j hj).2] at this
  exact this
theorem own_lt_v (ha : a.eval args s none idx s = some (.int p)) (hb : b.eval args s none idx s = some (.int q)) (h : ¬ p < q) : (Cond.lt a b).value args s none s idx = some false := by simp [Cond.value, ha, hb]; exact Int32.not_lt.mp h
theorem own_le_v (ha : a.eval args s none idx s = some (.int p)) (hb : b.eval args s none idx s = some (.int q)) (h : ¬ p ≤ q) : (Cond.le a b).value args s none s idx = some false := by simp [Cond.value, ha, hb]; exact Int32.not_le.mp h
theorem own_t0 (i : Nat) (hi : i < 256) (et : ∀ idx, t.eval args s none idx s = some (.ref x)) (A : Arr s s.heap x cc .byte) (f : (Cond.eq (Term.elem t (Term.int (Int32.ofNat i))) (Term.int v)).value args s none s [] = some true) : cc.slots[i]? = some (.int v) := by
  have := own_el f (et []) (show (Term.int (Int32.ofNat i)).eval args s none [] s = some (.int (Int32.ofNat i)) from by simp [Term.eval]) A.1
  rw [(own_i_nat i hi).2] at this; exact this
theorem own_t1 (k : Nat) (hk : k ≤ 256) (et : ∀ idx, t.eval args s none idx s = some (.ref x)) (A : Arr s s.heap x cc .byte) (hs : cc.slots.size = 256) (f : (Cond.all t (.or (.le (Term.int (Int32.ofNat k)) (.index 0)) (.eq (.elem t (.index 0)) (.int v)))).value args s none s [] = some true) (h : j < k) : cc.slots[j]? = some (.int v) := by
  have u := Cond.all_elim (et []) (A.fin (Vm.Alike.refl _)) f j (by omega)
  have u' := own_or u (own_le_v (by simp [Term.eval]) (own_ix (by omega)) (fun z => absurd ((own_i_lt j k (by omega) hk).2.mp z) (by omega)))
  have := own_el u' (et _) (own_ix (by omega)) A.1
  rw [(own_i_nat j (by omega)).2] at this; exact this
theorem own_t2 (i k : Nat) (hi : i ≤ 256) (hk : k ≤ 256) (et : ∀ idx, t.eval args s none idx s = some (.ref x)) (A : Arr s s.heap x cc .byte) (hs : cc.slots.size = 256) (f : (Cond.all t (.or (.lt (.index 0) (Term.int (Int32.ofNat i))) (.or (.le (Term.int (Int32.ofNat k)) (.index 0)) (.eq (.elem t (.index 0)) (.int v))))).value args s none s [] = some true) (h0 : i ≤ j) (h : j < k) : cc.slots[j]? = some (.int v) := by
  have u := Cond.all_elim (et []) (A.fin (Vm.Alike.refl _)) f j (by omega)
  have u' := own_or u (own_lt_v (own_ix (by omega)) (by simp [Term.eval]) (fun z => absurd ((own_i_lt j i (by omega) hi).1.mp z) (by omega)))
  have u2 := own_or u' (own_le_v (by simp [Term.eval]) (own_ix (by omega)) (fun z => absurd ((own_i_lt j k (by omega) hk).2.mp z) (by omega)))
  have := own_el u2 (et _) (own_ix (by omega)) A.1
  rw [(own_i_nat j (by omega)).2] at this; exact this
theorem own_t3 (i : Nat) (hi : i ≤ 256) (et : ∀ idx, t.eval args s none idx s = some (.ref x)) (A : Arr s s.heap x cc .byte) (hs : cc.slots.size = 256) (f : (Cond.all t (.or (.lt (.index 0) (Term.int (Int32.ofNat i))) (.eq (.elem t (.index 0)) (.int v)))).value args s none s [] = some true) (h0 : i ≤ j) (h : j < 256) : cc.slots[j]? = some (.int v) := by
  have u := Cond.all_elim (et []) (A.fin (Vm.Alike.refl _)) f j (by omega)
  have u' := own_or u (own_lt_v (own_ix (by omega)) (by simp [Term.eval]) (fun z => absurd ((own_i_lt j i (by omega) hi).1.mp z) (by omega)))
  have := own_el u' (et _) (own_ix (by omega)) A.1
  rw [(own_i_nat j (by omega)).2] at this; exact this
theorem own_len (et : t.eval args s none [] s = some (.ref x)) (A : Arr s s.heap x cc .byte) (f : (Cond.eq (Term.length t) (Term.int 256)).value args s none s [] = some true) : cc.slots.size = 256 := by
  obtain ⟨p, q, e1, e2, k1, k2⟩ := cmp_v (Or.inl f)
  have : q = .int 256 := by simpa [Term.eval] using e2.symm
  subst this
  obtain ⟨z, rfl⟩ : ∃ z, p = .int z := k2
  have hz : z = 256 := by simpa [Cond.value, e1, e2] using f
  subst hz
  have ha : s.arrayAt? x = some cc := A.fin (Vm.Alike.refl _)
  have q : cc.slots.size < 2 ^ 31 ∧ cc.slots.size.toInt32 = 256 := by simpa [Term.eval, et, ha] using e1
  have u := len_toInt q.1
  rw [q.2, show (256 : Int32).toInt = 256 from by decide] at u
  omega
end Tab
set_option maxRecDepth 65536 in
set_option maxHeartbeats 4000000 in
theorem rm_st1 (l : Launch) (Z : State) (a0 : Array Value) (hw : ∀ d ∈ tables_1, d.before a0 Z = true) (h0 : Heap) (n0 : Nat) (M : List (Addr × Desc)) (P0 : Hp Z n0 h0 M) (o : Int32) :
    Con false l Z (⟨"com/example/bouncr/bouncr/PathPatternIsCanonicalPinLaw", "standsAsWritten", "(I)Z"⟩ : MethodName) method_4_code 1 (some .boolean) ({ frames := 0, cells := 0, slots := 0, locals := 0 } : Room) #[(.int o)] h0 n0 (Ret (.int (own_saw o)) h0) := by
  refine con_of (ls := [.val (.int o)]) (plainFor_of_name pn0) rfl ?_
  have J176 : own_saw o = 1 → Go false KT l Z ({ frames := 0, cells := 0, slots := 0, locals := 0 } : Room) (⟨"com/example/bouncr/bouncr/PathPatternIsCanonicalPinLaw", "standsAsWritten", "(I)Z"⟩ : MethodName) method_4_code 1 (some .boolean) n0 ({ frames := 0, cells := 0, slots := 0, locals := 0 } : Room).cells ({ frames := 0, cells := 0, slots := 0, locals := 0 } : Room).slots (Ret (.int (own_saw o)) h0) h0 0 0 176 [.val (.int o)] [] := by
    intro qq
    refine go_push c4_176 ?_
    refine go_goto c4_177 ?_
    exact go_bret rfl c4_181 (by decide) (by decide) (by decide) ⟨_, rfl, congrArg Value.int qq.symm, rfl⟩
  have J180 : own_saw o = 0 → Go false KT l Z ({ frames := 0, cells := 0, slots := 0, locals := 0 } : Room) (⟨"com/example/bouncr/bouncr/PathPatternIsCanonicalPinLaw", "standsAsWritten", "(I)Z"⟩ : MethodName) method_4_code 1 (some .boolean) n0 ({ frames := 0, cells := 0, slots := 0, locals := 0 } : Room).cells ({ frames := 0, cells := 0, slots := 0, locals := 0 } : Room).slots (Ret (.int (own_saw o)) h0) h0 0 0 180 [.val (.int o)] [] := by
    intro qq
    refine go_push c4_180 ?_
    exact go_bret rfl c4_181 (by decide) (by decide) (by decide) ⟨_, rfl, congrArg Value.int qq.symm, rfl⟩
  have J66 : own_saw o = 1 → Go false KT l Z ({ frames := 0, cells := 0, slots := 0, locals := 0 } : Room) (⟨"com/example/bouncr/bouncr/PathPatternIsCanonicalPinLaw", "standsAsWritten", "(I)Z"⟩ : MethodName) method_4_code 1 (some .boolean) n0 ({ frames := 0, cells := 0, slots := 0, locals := 0 } : Room).cells ({ frames := 0, cells := 0, slots := 0, locals := 0 } : Room).slots (Ret (.int (own_saw o)) h0) h0 0 0 66 [.val (.int o)] [] := by
    intro qq
    refine go_push c4_66 ?_
    exact go_bret rfl c4_67 (by decide) (by decide) (by decide) ⟨_, rfl, congrArg Value.int qq.symm, rfl⟩
  have J42 : ¬ (¬ o < 65 ∧ ¬ 90 < o) → ¬ (¬ o < 97 ∧ ¬ 122 < o) → ¬ (¬ o < 48 ∧ ¬ 57 < o) → Go false KT l Z ({ frames := 0, cells := 0, slots := 0, locals := 0 } : Room) (⟨"com/example/bouncr/bouncr/PathPatternIsCanonicalPinLaw", "standsAsWritten", "(I)Z"⟩ : MethodName) method_4_code 1 (some .boolean) n0 ({ frames := 0, cells := 0, slots := 0, locals := 0 } : Room).cells ({ frames := 0, cells := 0, slots := 0, locals := 0 } : Room).slots (Ret (.int (own_saw o)) h0) h0 0 0 42 [.val (.int o)] [] := by
    intro nA nB nC
    refine go_iload c4_42 rfl ?_
    refine go_push c4_43 ?_
    refine go_icmp_eq c4_45 (fun b45 => J66 (if_pos (Or.inr (Or.inr (Or.inr (Or.inl b45)))))) (fun b45 => ?_)
    refine go_iload c4_48 rfl ?_
    refine go_push c4_49 ?_
    refine go_icmp_eq c4_51 (fun b51 => J66 (if_pos (Or.inr (Or.inr (Or.inr (Or.inr (Or.inl b51))))))) (fun b51 => ?_)
    refine go_iload c4_54 rfl ?_
    refine go_push c4_55 ?_
    refine go_icmp_eq c4_57 (fun b57 => J66 (if_pos (Or.inr (Or.inr (Or.inr (Or.inr (Or.inr (Or.inl b57)))))))) (fun b57 => ?_)
    refine go_iload c4_60 rfl ?_
    refine go_push c4_61 ?_
    refine go_icmp_ne c4_63 (fun b63 => ?_) (fun b63 => J66 (if_pos (Or.inr (Or.inr (Or.inr (Or.inr (Or.inr (Or.inr (Or.inl b63)))))))))
    refine go_iload c4_68 rfl ?_
    refine go_push c4_69 ?_
    refine go_icmp_eq c4_71 (fun b71 => J176 (if_pos (Or.inr (Or.inr (Or.inr (Or.inr (Or.inr (Or.inr (Or.inr (Or.inl b71)))))))))) (fun b71 => ?_)
    refine go_iload c4_74 rfl ?_
    refine go_push c4_75 ?_
    refine go_icmp_eq c4_77 (fun b77 => J176 (if_pos (Or.inr (Or.inr (Or.inr (Or.inr (Or.inr (Or.inr (Or.inr (Or.inr (Or.inl b77))))))))))) (fun b77 => ?_)
    refine go_iload c4_80 rfl ?_
    refine go_push c4_81 ?_
    refine go_icmp_eq c4_83 (fun b83 => J176 (if_pos (Or.inr (Or.inr (Or.inr (Or.inr (Or.inr (Or.inr (Or.inr (Or.inr (Or.inr (Or.inl b83)))))))))))) (fun b83 => ?_)
    refine go_iload c4_86 rfl ?_
    refine go_push c4_87 ?_
    refine go_icmp_eq c4_89 (fun b89 => J176 (if_pos (Or.inr (Or.inr (Or.inr (Or.inr (Or.inr (Or.inr (Or.inr (Or.inr (Or.inr (Or.inr (Or.inl b89))))))))))))) (fun b89 => ?_)
    refine go_iload c4_92 rfl ?_
    refine go_push c4_93 ?_
    refine go_icmp_eq c4_95 (fun b95 => J176 (if_pos (Or.inr (Or.inr (Or.inr (Or.inr (Or.inr (Or.inr (Or.inr (Or.inr (Or.inr (Or.inr (Or.inr (Or.inl b95)))))))))))))) (fun b95 => ?_)
    refine go_iload c4_98 rfl ?_
    refine go_push c4_99 ?_
    refine go_icmp_eq c4_101 (fun b101 => J176 (if_pos (Or.inr (Or.inr (Or.inr (Or.inr (Or.inr (Or.inr (Or.inr (Or.inr (Or.inr (Or.inr (Or.inr (Or.inr (Or.inl b101))))))))))))))) (fun b101 => ?_)
    refine go_iload c4_104 rfl ?_
    refine go_push c4_105 ?_
    refine go_icmp_eq c4_107 (fun b107 => J176 (if_pos (Or.inr (Or.inr (Or.inr (Or.inr (Or.inr (Or.inr (Or.inr (Or.inr (Or.inr (Or.inr (Or.inr (Or.inr (Or.inr (Or.inl b107)))))))))))))))) (fun b107 => ?_)
    refine go_iload c4_110 rfl ?_
    refine go_push c4_111 ?_
    refine go_icmp_eq c4_113 (fun b113 => J176 (if_pos (Or.inr (Or.inr (Or.inr (Or.inr (Or.inr (Or.inr (Or.inr (Or.inr (Or.inr (Or.inr (Or.inr (Or.inr (Or.inr (Or.inr (Or.inl b113))))))))))))))))) (fun b113 => ?_)
    refine go_iload c4_116 rfl ?_
    refine go_push c4_117 ?_
    refine go_icmp_eq c4_119 (fun b119 => J176 (if_pos (Or.inr (Or.inr (Or.inr (Or.inr (Or.inr (Or.inr (Or.inr (Or.inr (Or.inr (Or.inr (Or.inr (Or.inr (Or.inr (Or.inr (Or.inr (Or.inl b119)))))))))))))))))) (fun b119 => ?_)
    refine go_iload c4_122 rfl ?_
    refine go_push c4_123 ?_
    refine go_icmp_eq c4_125 (fun b125 => J176 (if_pos (Or.inr (Or.inr (Or.inr (Or.inr (Or.inr (Or.inr (Or.inr (Or.inr (Or.inr (Or.inr (Or.inr (Or.inr (Or.inr (Or.inr (Or.inr (Or.inr (Or.inl b125))))))))))))))))))) (fun b125 => ?_)
    refine go_iload c4_128 rfl ?_
    refine go_push c4_129 ?_
    refine go_icmp_eq c4_131 (fun b131 => J176 (if_pos (Or.inr (Or.inr (Or.inr (Or.inr (Or.inr (Or.inr (Or.inr (Or.inr (Or.inr (Or.inr (Or.inr (Or.inr (Or.inr (Or.inr (Or.inr (Or.inr (Or.inr (Or.inl b131)))))))))))))))))))) (fun b131 => ?_)
    refine go_iload c4_134 rfl ?_
    refine go_push c4_135 ?_
    refine go_icmp_eq c4_137 (fun b137 => J176 (if_pos (Or.inr (Or.inr (Or.inr (Or.inr (Or.inr (Or.inr (Or.inr (Or.inr (Or.inr (Or.inr (Or.inr (Or.inr (Or.inr (Or.inr (Or.inr (Or.inr (Or.inr (Or.inr (Or.inl b137))))))))))))))))))))) (fun b137 => ?_)
    refine go_iload c4_140 rfl ?_
    refine go_push c4_141 ?_
    refine go_icmp_eq c4_143 (fun b143 => J176 (if_pos (Or.inr (Or.inr (Or.inr (Or.inr (Or.inr (Or.inr (Or.inr (Or.inr (Or.inr (Or.inr (Or.inr (Or.inr (Or.inr (Or.inr (Or.inr (Or.inr (Or.inr (Or.inr (Or.inr (Or.inl b143)))))))))))))))))))))) (fun b143 => ?_)
    refine go_iload c4_146 rfl ?_
    refine go_push c4_147 ?_
    refine go_icmp_eq c4_149 (fun b149 => J176 (if_pos (Or.inr (Or.inr (Or.inr (Or.inr (Or.inr (Or.inr (Or.inr (Or.inr (Or.inr (Or.inr (Or.inr (Or.inr (Or.inr (Or.inr (Or.inr (Or.inr (Or.inr (Or.inr (Or.inr (Or.inr (Or.inl b149))))))))))))))))))))))) (fun b149 => ?_)
    refine go_iload c4_152 rfl ?_
    refine go_push c4_153 ?_
    refine go_icmp_eq c4_155 (fun b155 => J176 (if_pos (Or.inr (Or.inr (Or.inr (Or.inr (Or.inr (Or.inr (Or.inr (Or.inr (Or.inr (Or.inr (Or.inr (Or.inr (Or.inr (Or.inr (Or.inr (Or.inr (Or.inr (Or.inr (Or.inr (Or.inr (Or.inr (Or.inl b155)))))))))))))))))))))))) (fun b155 => ?_)
    refine go_iload c4_158 rfl ?_
    refine go_push c4_159 ?_
    refine go_icmp_eq c4_161 (fun b161 => J176 (if_pos (Or.inr (Or.inr (Or.inr (Or.inr (Or.inr (Or.inr (Or.inr (Or.inr (Or.inr (Or.inr (Or.inr (Or.inr (Or.inr (Or.inr (Or.inr (Or.inr (Or.inr (Or.inr (Or.inr (Or.inr (Or.inr (Or.inr (Or.inl b161))))))))))))))))))))))))) (fun b161 => ?_)
    refine go_iload c4_164 rfl ?_
    refine go_push c4_165 ?_
    refine go_icmp_eq c4_167 (fun b167 => J176 (if_pos (Or.inr (Or.inr (Or.inr (Or.inr (Or.inr (Or.inr (Or.inr (Or.inr (Or.inr (Or.inr (Or.inr (Or.inr (Or.inr (Or.inr (Or.inr (Or.inr (Or.inr (Or.inr (Or.inr (Or.inr (Or.inr (Or.inr (Or.inr (Or.inl b167)))))))))))))))))))))))))) (fun b167 => ?_)
    refine go_iload c4_170 rfl ?_
    refine go_push c4_171 ?_
    refine go_icmp_ne c4_173 (fun b173 => ?_) (fun b173 => J176 (if_pos (Or.inr (Or.inr (Or.inr (Or.inr (Or.inr (Or.inr (Or.inr (Or.inr (Or.inr (Or.inr (Or.inr (Or.inr (Or.inr (Or.inr (Or.inr (Or.inr (Or.inr (Or.inr (Or.inr (Or.inr (Or.inr (Or.inr (Or.inr (Or.inr (b173)))))))))))))))))))))))))))
    exact J180 (if_neg (by simp only [not_or]; exact ⟨nA, nB, nC, b45, b51, b57, b63, b71, b77, b83, b89, b95, b101, b107, b113, b119, b125, b131, b137, b143, b149, b155, b161, b167, b173⟩))
  have J28 : ¬ (¬ o < 65 ∧ ¬ 90 < o) → ¬ (¬ o < 97 ∧ ¬ 122 < o) → Go false KT l Z ({ frames := 0, cells := 0, slots := 0, locals := 0 } : Room) (⟨"com/example/bouncr/bouncr/PathPatternIsCanonicalPinLaw", "standsAsWritten", "(I)Z"⟩ : MethodName) method_4_code 1 (some .boolean) n0 ({ frames := 0, cells := 0, slots := 0, locals := 0 } : Room).cells ({ frames := 0, cells := 0, slots := 0, locals := 0 } : Room).slots (Ret (.int (own_saw o)) h0) h0 0 0 28 [.val (.int o)] [] := by
    intro nA nB
    refine go_iload c4_28 rfl ?_
    refine go_push c4_29 ?_
    refine go_icmp_lt c4_31 (fun b31 => ?_) (fun b31 => ?_)
    · exact J42 nA nB (fun q => q.1 b31)
    · refine go_iload c4_34 rfl ?_
      refine go_push c4_35 ?_
      refine go_icmp_gt c4_37 (fun b37 => ?_) (fun b37 => ?_)
      · exact J42 nA nB (fun q => q.2 b37)
      · have qq : own_saw o = 1 := if_pos (Or.inr (Or.inr (Or.inl ⟨b31, b37⟩)))
        refine go_push c4_40 ?_
        exact go_bret rfl c4_41 (by decide) (by decide) (by decide) ⟨_, rfl, congrArg Value.int qq.symm, rfl⟩
  have J14 : ¬ (¬ o < 65 ∧ ¬ 90 < o) → Go false KT l Z ({ frames := 0, cells := 0, slots := 0, locals := 0 } : Room) (⟨"com/example/bouncr/bouncr/PathPatternIsCanonicalPinLaw", "standsAsWritten", "(I)Z"⟩ : MethodName) method_4_code 1 (some .boolean) n0 ({ frames := 0, cells := 0, slots := 0, locals := 0 } : Room).cells ({ frames := 0, cells := 0, slots := 0, locals := 0 } : Room).slots (Ret (.int (own_saw o)) h0) h0 0 0 14 [.val (.int o)] [] := by
    intro nA
    refine go_iload c4_14 rfl ?_
    refine go_push c4_15 ?_
    refine go_icmp_lt c4_17 (fun b17 => ?_) (fun b17 => ?_)
    · exact J28 nA (fun q => q.1 b17)
    · refine go_iload c4_20 rfl ?_
      refine go_push c4_21 ?_
      refine go_icmp_gt c4_23 (fun b23 => ?_) (fun b23 => ?_)
      · exact J28 nA (fun q => q.2 b23)
      · have qq : own_saw o = 1 := if_pos (Or.inr (Or.inl ⟨b17, b23⟩))
        refine go_push c4_26 ?_
        exact go_bret rfl c4_27 (by decide) (by decide) (by decide) ⟨_, rfl, congrArg Value.int qq.symm, rfl⟩
  have J0 : Go false KT l Z ({ frames := 0, cells := 0, slots := 0, locals := 0 } : Room) (⟨"com/example/bouncr/bouncr/PathPatternIsCanonicalPinLaw", "standsAsWritten", "(I)Z"⟩ : MethodName) method_4_code 1 (some .boolean) n0 ({ frames := 0, cells := 0, slots := 0, locals := 0 } : Room).cells ({ frames := 0, cells := 0, slots := 0, locals := 0 } : Room).slots (Ret (.int (own_saw o)) h0) h0 0 0 0 [.val (.int o)] [] := by
    refine go_iload c4_0 rfl ?_
    refine go_push c4_1 ?_
    refine go_icmp_lt c4_3 (fun b3 => ?_) (fun b3 => ?_)
    · exact J14 (fun q => q.1 b3)
    · refine go_iload c4_6 rfl ?_
      refine go_push c4_7 ?_
      refine go_icmp_gt c4_9 (fun b9 => ?_) (fun b9 => ?_)
      · exact J14 (fun q => q.2 b9)
      · have qq : own_saw o = 1 := if_pos (Or.inl ⟨b3, b9⟩)
        refine go_push c4_12 ?_
        exact go_bret rfl c4_13 (by decide) (by decide) (by decide) ⟨_, rfl, congrArg Value.int qq.symm, rfl⟩
  exact J0
set_option maxRecDepth 65536 in
set_option maxHeartbeats 4000000 in
theorem rm_st2 (l : Launch) (Z : State) (a0 : Array Value) (hw : ∀ d ∈ tables_1, d.before a0 Z = true) (h0 : Heap) (n0 : Nat) (M : List (Addr × Desc)) (P0 : Hp Z n0 h0 M) (kd : Addr) (kc : Cell) (Sk : Sta Z Z.heap "com/example/bouncr/bouncr/PathPattern" "KINDS" "[B" (.ref kd)) (Ak : Arr Z Z.heap kd kc .byte) (hsz : kc.slots.size = 256) (Tk : ∀ j, j < 256 → kc.slots[j]? = some (.int (own_kd j))) (j : Nat) (hj : j < 256) :
    Con false l Z (⟨"com/example/bouncr/bouncr/PathPattern", "standsAsWritten", "(I)Z"⟩ : MethodName) prog_12_method_14_code 1 (some .boolean) ({ frames := 0, cells := 0, slots := 0, locals := 0 } : Room) #[(.int (Int32.ofNat j))] h0 n0 (Ret (.int (own_saw (Int32.ofNat j))) h0) := by
  refine con_of (ls := [.val (.int (Int32.ofNat j))]) (plainFor_of_name pn1) rfl ?_
  refine go_getS (y := (⟨"com/example/bouncr/bouncr/PathPattern", "standsAsWritten", "(I)Z"⟩ : MethodName)) (host := "") c6_0 (Or.inl (t23 hw)) Via.refl (Sk.ext P0.1.2) ?_
  refine go_iload c6_3 rfl ?_
  refine go_baload (j := Int32.ofNat j) c6_4 (Ak.ext P0.1.2) (by intro q; rw [(own_i_nat j hj).2, hsz] at q; rcases q with q | q; exact (own_i_nat j hj).1 q; omega) (by rw [(own_i_nat j hj).2]; exact Tk j hj) ?_
  refine go_if_eq c6_5 (fun b5 => ?_) (fun b5 => ?_)
  · refine go_push c6_12 ?_
    exact go_bret rfl c6_13 (by decide) (by decide) (by decide) ⟨_, rfl, congrArg Value.int ((own_kd_saw j hj).mp b5).symm, rfl⟩
  · refine go_push c6_8 ?_
    refine go_goto c6_9 ?_
    exact go_bret rfl c6_13 (by decide) (by decide) (by decide) ⟨_, rfl, congrArg Value.int ((own_saw01 _).resolve_left (fun q => b5 ((own_kd_saw j hj).mpr q))).symm, rfl⟩
set_option maxRecDepth 65536 in
set_option maxHeartbeats 4000000 in
theorem rm_can0_0 (l : Launch) (Z : State) (a0 : Array Value) (hw : ∀ d ∈ tables_1, d.before a0 Z = true) (h0 : Heap) (n0 : Nat) (ar : Addr) (b0 b1 b2 b3 b4 : Int32) (P0 : Hp Z n0 h0 [(ar, (.inr (.byte, "[B", [(.int (nar .byte b0.toInt8.toInt32)), (.int (nar .byte b1.toInt8.toInt32)), (.int (nar .byte b2.toInt8.toInt32)), (.int (nar .byte b3.toInt8.toInt32)), (.int (nar .byte b4.toInt8.toInt32))])))]) (kd : Addr) (kc : Cell) (Sk : Sta Z Z.heap "com/example/bouncr/bouncr/PathPattern" "KINDS" "[B" (.ref kd)) (Ak : Arr Z Z.heap kd kc .byte) (hsz : kc.slots.size = 256) (Tk : ∀ j, j < 256 → kc.slots[j]? = some (.int (own_kd j))) :
    Con false l Z (⟨"com/example/bouncr/bouncr/PathPattern", "isCanonical", "([BII)Z"⟩ : MethodName) prog_12_method_2_code 4 (some .boolean) ({ frames := 1, cells := 0, slots := 0, locals := 12 } : Room) #[(.ref ar), (.int 0), (.int 0)] h0 n0 (Ret (.int (own_can 0 0 (own_saw (Int32.ofNat (own_oct b0))) (own_saw (Int32.ofNat (own_oct b1))) (own_saw (Int32.ofNat (own_oct b2))) (own_saw (Int32.ofNat (own_oct b3))) (own_saw (Int32.ofNat (own_oct b4))))) h0) := by
  refine con_of (ls := [.val (.ref ar), .val (.int 0), .val (.int 0), .unset]) (plainFor_of_name pn1) rfl ?_
  refine go_iload c5_0 rfl ?_
  refine go_istore c5_1 rfl rfl ?_
  dsimp only [setl]
  refine go_iload c5_2 rfl ?_
  refine go_iload c5_3 rfl ?_
  refine go_icmp_ge c5_4 (fun _ => ?_) (fun q => absurd q (by decide))
  refine go_iload c5_26 rfl ?_
  refine go_iload c5_27 rfl ?_
  refine go_icmp_ne c5_28 (fun q => absurd q (by decide)) (fun _ => ?_)
  refine go_push c5_31 ?_
  refine go_goto c5_32 ?_
  exact go_bret rfl c5_36 (by decide) (by decide) (by decide) ⟨_, rfl, (by simp [own_can, own_c1]), rfl⟩
set_option maxRecDepth 65536 in
set_option maxHeartbeats 4000000 in
theorem rm_can0_1 (l : Launch) (Z : State) (a0 : Array Value) (hw : ∀ d ∈ tables_1, d.before a0 Z = true) (h0 : Heap) (n0 : Nat) (ar : Addr) (b0 b1 b2 b3 b4 : Int32) (P0 : Hp Z n0 h0 [(ar, (.inr (.byte, "[B", [(.int (nar .byte b0.toInt8.toInt32)), (.int (nar .byte b1.toInt8.toInt32)), (.int (nar .byte b2.toInt8.toInt32)), (.int (nar .byte b3.toInt8.toInt32)), (.int (nar .byte b4.toInt8.toInt32))])))]) (kd : Addr) (kc : Cell) (Sk : Sta Z Z.heap "com/example/bouncr/bouncr/PathPattern" "KINDS" "[B" (.ref kd)) (Ak : Arr Z Z.heap kd kc .byte) (hsz : kc.slots.size = 256) (Tk : ∀ j, j < 256 → kc.slots[j]? = some (.int (own_kd j))) :
    Con false l Z (⟨"com/example/bouncr/bouncr/PathPattern", "isCanonical", "([BII)Z"⟩ : MethodName) prog_12_method_2_code 4 (some .boolean) ({ frames := 1, cells := 0, slots := 0, locals := 12 } : Room) #[(.ref ar), (.int 0), (.int 1)] h0 n0 (Ret (.int (own_can 0 1 (own_saw (Int32.ofNat (own_oct b0))) (own_saw (Int32.ofNat (own_oct b1))) (own_saw (Int32.ofNat (own_oct b2))) (own_saw (Int32.ofNat (own_oct b3))) (own_saw (Int32.ofNat (own_oct b4))))) h0) := by
  refine con_of (ls := [.val (.ref ar), .val (.int 0), .val (.int 1), .unset]) (plainFor_of_name pn1) rfl ?_
  refine go_iload c5_0 rfl ?_
  refine go_istore c5_1 rfl rfl ?_
  dsimp only [setl]
  refine go_iload c5_2 rfl ?_
  refine go_iload c5_3 rfl ?_
  refine go_icmp_ge c5_4 (fun q => absurd q (by decide)) (fun _ => ?_)
  refine go_aload c5_7 rfl rfl ?_
  refine go_iload c5_8 rfl ?_
  refine go_baloadH P0 (0) c5_9 rfl (by decide) rfl ?_
  refine go_push c5_10 ?_
  refine go_iand c5_13 ?_
  refine go_isI (Int32.ofNat (own_oct b0)) ((own_nb b0).trans (own_oct_eq b0)) ?_
  refine go_callS1 (y := (⟨"com/example/bouncr/bouncr/PathPattern", "isCanonical", "([BII)Z"⟩ : MethodName)) (W := 0) (argsL := [(.int (Int32.ofNat (own_oct b0)))]) (st := []) c5_14 (rm_st2 l Z a0 hw h0 n0 _ P0 kd kc Sk Ak hsz Tk (own_oct b0) (own_oct_lt b0)) (t20 hw) (t21 hw) (t18 hw) (t22 hw) (by decide) (lenOf pd0 rfl) rfl rfl (by decide) (by decide) (by decide) (by decide) rfl ?_
  rintro _ _ ⟨rfl, rfl⟩
  refine go_more (k' := 0) (n' := 0) (by decide) (by decide) ?_
  refine go_if_eq c5_17 (fun s0 => ?_) (fun s0 => ?_)
  · refine go_iload c5_26 rfl ?_
    refine go_iload c5_27 rfl ?_
    refine go_icmp_ne c5_28 (fun _ => ?_) (fun q => absurd q (by decide))
    refine go_push c5_35 ?_
    exact go_bret rfl c5_36 (by decide) (by decide) (by decide) ⟨_, rfl, (by simp [own_can, own_c1, s0]), rfl⟩
  · refine go_iincX (x' := 1) c5_20 rfl (by decide) ?_
    dsimp only [setl]
    refine go_goto c5_23 ?_
    refine go_iload c5_2 rfl ?_
    refine go_iload c5_3 rfl ?_
    refine go_icmp_ge c5_4 (fun _ => ?_) (fun q => absurd q (by decide))
    refine go_iload c5_26 rfl ?_
    refine go_iload c5_27 rfl ?_
    refine go_icmp_ne c5_28 (fun q => absurd q (by decide)) (fun _ => ?_)
    refine go_push c5_31 ?_
    refine go_goto c5_32 ?_
    exact go_bret rfl c5_36 (by decide) (by decide) (by decide) ⟨_, rfl, (by simp [own_can, own_c1, s0]), rfl⟩
set_option maxRecDepth 65536 in
set_option maxHeartbeats 4000000 in
theorem rm_can0_2 (l : Launch) (Z : State) (a0 : Array Value) (hw : ∀ d ∈ tables_1, d.before a0 Z = true) (h0 : Heap) (n0 : Nat) (ar : Addr) (b0 b1 b2 b3 b4 : Int32) (P0 : Hp Z n0 h0 [(ar, (.inr (.byte, "[B", [(.int (nar .byte b0.toInt8.toInt32)), (.int (nar .byte b1.toInt8.toInt32)), (.int (nar .byte b2.toInt8.toInt32)), (.int (nar .byte b3.toInt8.toInt32)), (.int (nar .byte b4.toInt8.toInt32))])))]) (kd : Addr) (kc : Cell) (Sk : Sta Z Z.heap "com/example/bouncr/bouncr/PathPattern" "KINDS" "[B" (.ref kd)) (Ak : Arr Z Z.heap kd kc .byte) (hsz : kc.slots.size = 256) (Tk : ∀ j, j < 256 → kc.slots[j]? = some (.int (own_kd j))) :
    Con false l Z (⟨"com/example/bouncr/bouncr/PathPattern", "isCanonical", "([BII)Z"⟩ : MethodName) prog_12_method_2_code 4 (some .boolean) ({ frames := 1, cells := 0, slots := 0, locals := 12 } : Room) #[(.ref ar), (.int 0), (.int 2)] h0 n0 (Ret (.int (own_can 0 2 (own_saw (Int32.ofNat (own_oct b0))) (own_saw (Int32.ofNat (own_oct b1))) (own_saw (Int32.ofNat (own_oct b2))) (own_saw (Int32.ofNat (own_oct b3))) (own_saw (Int32.ofNat (own_oct b4))))) h0) := by
  refine con_of (ls := [.val (.ref ar), .val (.int 0), .val (.int 2), .unset]) (plainFor_of_name pn1) rfl ?_
  refine go_iload c5_0 rfl ?_
  refine go_istore c5_1 rfl rfl ?_
  dsimp only [setl]
  refine go_iload c5_2 rfl ?_
  refine go_iload c5_3 rfl ?_
  refine go_icmp_ge c5_4 (fun q => absurd q (by decide)) (fun _ => ?_)
  refine go_aload c5_7 rfl rfl ?_
  refine go_iload c5_8 rfl ?_
  refine go_baloadH P0 (0) c5_9 rfl (by decide) rfl ?_
  refine go_push c5_10 ?_
  refine go_iand c5_13 ?_
  refine go_isI (Int32.ofNat (own_oct b0)) ((own_nb b0).trans (own_oct_eq b0)) ?_
  refine go_callS1 (y := (⟨"com/example/bouncr/bouncr/PathPattern", "isCanonical", "([BII)Z"⟩ : MethodName)) (W := 0) (argsL := [(.int (Int32.ofNat (own_oct b0)))]) (st := []) c5_14 (rm_st2 l Z a0 hw h0 n0 _ P0 kd kc Sk Ak hsz Tk (own_oct b0) (own_oct_lt b0)) (t20 hw) (t21 hw) (t18 hw) (t22 hw) (by decide) (lenOf pd0 rfl) rfl rfl (by decide) (by decide) (by decide) (by decide) rfl ?_
  rintro _ _ ⟨rfl, rfl⟩
  refine go_more (k' := 0) (n' := 0) (by decide) (by decide) ?_
  refine go_if_eq c5_17 (fun s0 => ?_) (fun s0 => ?_)
  · refine go_iload c5_26 rfl ?_
    refine go_iload c5_27 rfl ?_
    refine go_icmp_ne c5_28 (fun _ => ?_) (fun q => absurd q (by decide))
    refine go_push c5_35 ?_
    exact go_bret rfl c5_36 (by decide) (by decide) (by decide) ⟨_, rfl, (by simp [own_can, own_c1, s0]), rfl⟩
  · refine go_iincX (x' := 1) c5_20 rfl (by decide) ?_
    dsimp only [setl]
    refine go_goto c5_23 ?_
    refine go_iload c5_2 rfl ?_
    refine go_iload c5_3 rfl ?_
    refine go_icmp_ge c5_4 (fun q => absurd q (by decide)) (fun _ => ?_)
    refine go_aload c5_7 rfl rfl ?_
    refine go_iload c5_8 rfl ?_
    refine go_baloadH P0 (0) c5_9 rfl (by decide) rfl ?_
    refine go_push c5_10 ?_
    refine go_iand c5_13 ?_
    refine go_isI (Int32.ofNat (own_oct b1)) ((own_nb b1).trans (own_oct_eq b1)) ?_
    refine go_callS1 (y := (⟨"com/example/bouncr/bouncr/PathPattern", "isCanonical", "([BII)Z"⟩ : MethodName)) (W := 0) (argsL := [(.int (Int32.ofNat (own_oct b1)))]) (st := []) c5_14 (rm_st2 l Z a0 hw h0 n0 _ P0 kd kc Sk Ak hsz Tk (own_oct b1) (own_oct_lt b1)) (t20 hw) (t21 hw) (t18 hw) (t22 hw) (by decide) (lenOf pd0 rfl) rfl rfl (by decide) (by decide) (by decide) (by decide) rfl ?_
    rintro _ _ ⟨rfl, rfl⟩
    refine go_more (k' := 0) (n' := 0) (by decide) (by decide) ?_
    refine go_if_eq c5_17 (fun s1 => ?_) (fun s1 => ?_)
    · refine go_iload c5_26 rfl ?_
      refine go_iload c5_27 rfl ?_
      refine go_icmp_ne c5_28 (fun _ => ?_) (fun q => absurd q (by decide))
      refine go_push c5_35 ?_
      exact go_bret rfl c5_36 (by decide) (by decide) (by decide) ⟨_, rfl, (by simp [own_can, own_c1, s0, s1]), rfl⟩
    · refine go_iincX (x' := 2) c5_20 rfl (by decide) ?_
      dsimp only [setl]
      refine go_goto c5_23 ?_
      refine go_iload c5_2 rfl ?_
      refine go_iload c5_3 rfl ?_
      refine go_icmp_ge c5_4 (fun _ => ?_) (fun q => absurd q (by decide))
      refine go_iload c5_26 rfl ?_
      refine go_iload c5_27 rfl ?_
      refine go_icmp_ne c5_28 (fun q => absurd q (by decide)) (fun _ => ?_)
      refine go_push c5_31 ?_
      refine go_goto c5_32 ?_
      exact go_bret rfl c5_36 (by decide) (by decide) (by decide) ⟨_, rfl, (by simp [own_can, own_c1, s0, s1]), rfl⟩
set_option maxRecDepth 65536 in
set_option maxHeartbeats 4000000 in
theorem rm_can0_3 (l : Launch) (Z : State) (a0 : Array Value) (hw : ∀ d ∈ tables_1, d.before a0 Z = true) (h0 : Heap) (n0 : Nat) (ar : Addr) (b0 b1 b2 b3 b4 : Int32) (P0 : Hp Z n0 h0 [(ar, (.inr (.byte, "[B", [(.int (nar .byte b0.toInt8.toInt32)), (.int (nar .byte b1.toInt8.toInt32)), (.int (nar .byte b2.toInt8.toInt32)), (.int (nar .byte b3.toInt8.toInt32)), (.int (nar .byte b4.toInt8.toInt32))])))]) (kd : Addr) (kc : Cell) (Sk : Sta Z Z.heap "com/example/bouncr/bouncr/PathPattern" "KINDS" "[B" (.ref kd)) (Ak : Arr Z Z.heap kd kc .byte) (hsz : kc.slots.size = 256) (Tk : ∀ j, j < 256 → kc.slots[j]? = some (.int (own_kd j))) :
    Con false l Z (⟨"com/example/bouncr/bouncr/PathPattern", "isCanonical", "([BII)Z"⟩ : MethodName) prog_12_method_2_code 4 (some .boolean) ({ frames := 1, cells := 0, slots := 0, locals := 12 } : Room) #[(.ref ar), (.int 0), (.int 3)] h0 n0 (Ret (.int (own_can 0 3 (own_saw (Int32.ofNat (own_oct b0))) (own_saw (Int32.ofNat (own_oct b1))) (own_saw (Int32.ofNat (own_oct b2))) (own_saw (Int32.ofNat (own_oct b3))) (own_saw (Int32.ofNat (own_oct b4))))) h0) := by
  refine con_of (ls := [.val (.ref ar), .val (.int 0), .val (.int 3), .unset]) (plainFor_of_name pn1) rfl ?_
  refine go_iload c5_0 rfl ?_
  refine go_istore c5_1 rfl rfl ?_
  dsimp only [setl]
  refine go_iload c5_2 rfl ?_
  refine go_iload c5_3 rfl ?_
  refine go_icmp_ge c5_4 (fun q => absurd q (by decide)) (fun _ => ?_)
  refine go_aload c5_7 rfl rfl ?_
  refine go_iload c5_8 rfl ?_
  refine go_baloadH P0 (0) c5_9 rfl (by decide) rfl ?_
  refine go_push c5_10 ?_
  refine go_iand c5_13 ?_
  refine go_isI (Int32.ofNat (own_oct b0)) ((own_nb b0).trans (own_oct_eq b0)) ?_
  refine go_callS1 (y := (⟨"com/example/bouncr/bouncr/PathPattern", "isCanonical", "([BII)Z"⟩ : MethodName)) (W := 0) (argsL := [(.int (Int32.ofNat (own_oct b0)))]) (st := []) c5_14 (rm_st2 l Z a0 hw h0 n0 _ P0 kd kc Sk Ak hsz Tk (own_oct b0) (own_oct_lt b0)) (t20 hw) (t21 hw) (t18 hw) (t22 hw) (by decide) (lenOf pd0 rfl) rfl rfl (by decide) (by decide) (by decide) (by decide) rfl ?_
  rintro _ _ ⟨rfl, rfl⟩
  refine go_more (k' := 0) (n' := 0) (by decide) (by decide) ?_
  refine go_if_eq c5_17 (fun s0 => ?_) (fun s0 => ?_)
  · refine go_iload c5_26 rfl ?_
    refine go_iload c5_27 rfl ?_
    refine go_icmp_ne c5_28 (fun _ => ?_) (fun q => absurd q (by decide))
    refine go_push c5_35 ?_
    exact go_bret rfl c5_36 (by decide) (by decide) (by decide) ⟨_, rfl, (by simp [own_can, own_c1, s0]), rfl⟩
  · refine go_iincX (x' := 1) c5_20 rfl (by decide) ?_
    dsimp only [setl]
    refine go_goto c5_23 ?_
    refine go_iload c5_2 rfl ?_
    refine go_iload c5_3 rfl ?_
    refine go_icmp_ge c5_4 (fun q => absurd q (by decide)) (fun _ => ?_)
    refine go_aload c5_7 rfl rfl ?_
    refine go_iload c5_8 rfl ?_
    refine go_baloadH P0 (0) c5_9 rfl (by decide) rfl ?_
    refine go_push c5_10 ?_
    refine go_iand c5_13 ?_
    refine go_isI (Int32.ofNat (own_oct b1)) ((own_nb b1).trans (own_oct_eq b1)) ?_
    refine go_callS1 (y := (⟨"com/example/bouncr/bouncr/PathPattern", "isCanonical", "([BII)Z"⟩ : MethodName)) (W := 0) (argsL := [(.int (Int32.ofNat (own_oct b1)))]) (st := []) c5_14 (rm_st2 l Z a0 hw h0 n0 _ P0 kd kc Sk Ak hsz Tk (own_oct b1) (own_oct_lt b1)) (t20 hw) (t21 hw) (t18 hw) (t22 hw) (by decide) (lenOf pd0 rfl) rfl rfl (by decide) (by decide) (by decide) (by decide) rfl ?_
    rintro _ _ ⟨rfl, rfl⟩
    refine go_more (k' := 0) (n' := 0) (by decide) (by decide) ?_
    refine go_if_eq c5_17 (fun s1 => ?_) (fun s1 => ?_)
    · refine go_iload c5_26 rfl ?_
      refine go_iload c5_27 rfl ?_
      refine go_icmp_ne c5_28 (fun _ => ?_) (fun q => absurd q (by decide))
      refine go_push c5_35 ?_
      exact go_bret rfl c5_36 (by decide) (by decide) (by decide) ⟨_, rfl, (by simp [own_can, own_c1, s0, s1]), rfl⟩
    · refine go_iincX (x' := 2) c5_20 rfl (by decide) ?_
      dsimp only [setl]
      refine go_goto c5_23 ?_
      refine go_iload c5_2 rfl ?_
      refine go_iload c5_3 rfl ?_
      refine go_icmp_ge c5_4 (fun q => absurd q (by decide)) (fun _ => ?_)
      refine go_aload c5_7 rfl rfl ?_
      refine go_iload c5_8 rfl ?_
      refine go_baloadH P0 (0) c5_9 rfl (by decide) rfl ?_
      refine go_push c5_10 ?_
      refine go_iand c5_13 ?_
      refine go_isI (Int32.ofNat (own_oct b2)) ((own_nb b2).trans (own_oct_eq b2)) ?_
      refine go_callS1 (y := (⟨"com/example/bouncr/bouncr/PathPattern", "isCanonical", "([BII)Z"⟩ : MethodName)) (W := 0) (argsL := [(.int (Int32.ofNat (own_oct b2)))]) (st := []) c5_14 (rm_st2 l Z a0 hw h0 n0 _ P0 kd kc Sk Ak hsz Tk (own_oct b2) (own_oct_lt b2)) (t20 hw) (t21 hw) (t18 hw) (t22 hw) (by decide) (lenOf pd0 rfl) rfl rfl (by decide) (by decide) (by decide) (by decide) rfl ?_
      rintro _ _ ⟨rfl, rfl⟩
      refine go_more (k' := 0) (n' := 0) (by decide) (by decide) ?_
      refine go_if_eq c5_17 (fun s2 => ?_) (fun s2 => ?_)
      · refine go_iload c5_26 rfl ?_
        refine go_iload c5_27 rfl ?_
        refine go_icmp_ne c5_28 (fun _ => ?_) (fun q => absurd q (by decide))
        refine go_push c5_35 ?_
        exact go_bret rfl c5_36 (by decide) (by decide) (by decide) ⟨_, rfl, (by simp [own_can, own_c1, s0, s1, s2]), rfl⟩
      · refine go_iincX (x' := 3) c5_20 rfl (by decide) ?_
        dsimp only [setl]
        refine go_goto c5_23 ?_
        refine go_iload c5_2 rfl ?_
        refine go_iload c5_3 rfl ?_
        refine go_icmp_ge c5_4 (fun _ => ?_) (fun q => absurd q (by decide))
        refine go_iload c5_26 rfl ?_
        refine go_iload c5_27 rfl ?_
        refine go_icmp_ne c5_28 (fun q => absurd q (by decide)) (fun _ => ?_)
        refine go_push c5_31 ?_
        refine go_goto c5_32 ?_
        exact go_bret rfl c5_36 (by decide) (by decide) (by decide) ⟨_, rfl, (by simp [own_can, own_c1, s0, s1, s2]), rfl⟩
set_option maxRecDepth 65536 in
set_option maxHeartbeats 4000000 in
theorem rm_can0_4 (l : Launch) (Z : State) (a0 : Array Value) (hw : ∀ d ∈ tables_1, d.before a0 Z = true) (h0 : Heap) (n0 : Nat) (ar : Addr) (b0 b1 b2 b3 b4 : Int32) (P0 : Hp Z n0 h0 [(ar, (.inr (.byte, "[B", [(.int (nar .byte b0.toInt8.toInt32)), (.int (nar .byte b1.toInt8.toInt32)), (.int (nar .byte b2.toInt8.toInt32)), (.int (nar .byte b3.toInt8.toInt32)), (.int (nar .byte b4.toInt8.toInt32))])))]) (kd : Addr) (kc : Cell) (Sk : Sta Z Z.heap "com/example/bouncr/bouncr/PathPattern" "KINDS" "[B" (.ref kd)) (Ak : Arr Z Z.heap kd kc .byte) (hsz : kc.slots.size = 256) (Tk : ∀ j, j < 256 → kc.slots[j]? = some (.int (own_kd j))) :
    Con false l Z (⟨"com/example/bouncr/bouncr/PathPattern", "isCanonical", "([BII)Z"⟩ : MethodName) prog_12_method_2_code 4 (some .boolean) ({ frames := 1, cells := 0, slots := 0, locals := 12 } : Room) #[(.ref ar), (.int 0), (.int 4)] h0 n0 (Ret (.int (own_can 0 4 (own_saw (Int32.ofNat (own_oct b0))) (own_saw (Int32.ofNat (own_oct b1))) (own_saw (Int32.ofNat (own_oct b2))) (own_saw (Int32.ofNat (own_oct b3))) (own_saw (Int32.ofNat (own_oct b4))))) h0) := by
  refine con_of (ls := [.val (.ref ar), .val (.int 0), .val (.int 4), .unset]) (plainFor_of_name pn1) rfl ?_
  refine go_iload c5_0 rfl ?_
  refine go_istore c5_1 rfl rfl ?_
  dsimp only [setl]
  refine go_iload c5_2 rfl ?_
  refine go_iload c5_3 rfl ?_
  refine go_icmp_ge c5_4 (fun q => absurd q (by decide)) (fun _ => ?_)
  refine go_aload c5_7 rfl rfl ?_
  refine go_iload c5_8 rfl ?_
  refine go_baloadH P0 (0) c5_9 rfl (by decide) rfl ?_
  refine go_push c5_10 ?_
  refine go_iand c5_13 ?_
  refine go_isI (Int32.ofNat (own_oct b0)) ((own_nb b0).trans (own_oct_eq b0)) ?_
  refine go_callS1 (y := (⟨"com/example/bouncr/bouncr/PathPattern", "isCanonical", "([BII)Z"⟩ : MethodName)) (W := 0) (argsL := [(.int (Int32.ofNat (own_oct b0)))]) (st := []) c5_14 (rm_st2 l Z a0 hw h0 n0 _ P0 kd kc Sk Ak hsz Tk (own_oct b0) (own_oct_lt b0)) (t20 hw) (t21 hw) (t18 hw) (t22 hw) (by decide) (lenOf pd0 rfl) rfl rfl (by decide) (by decide) (by decide) (by decide) rfl ?_
  rintro _ _ ⟨rfl, rfl⟩
  refine go_more (k' := 0) (n' := 0) (by decide) (by decide) ?_
  refine go_if_eq c5_17 (fun s0 => ?_) (fun s0 => ?_)
  · refine go_iload c5_26 rfl ?_
    refine go_iload c5_27 rfl ?_
    refine go_icmp_ne c5_28 (fun _ => ?_) (fun q => absurd q (by decide))
    refine go_push c5_35 ?_
    exact go_bret rfl c5_36 (by decide) (by decide) (by decide) ⟨_, rfl, (by simp [own_can, own_c1, s0]), rfl⟩
  · refine go_iincX (x' := 1) c5_20 rfl (by decide) ?_
    dsimp only [setl]
    refine go_goto c5_23 ?_
    refine go_iload c5_2 rfl ?_
    refine go_iload c5_3 rfl ?_
    refine go_icmp_ge c5_4 (fun q => absurd q (by decide)) (fun _ => ?_)
    refine go_aload c5_7 rfl rfl ?_
    refine go_iload c5_8 rfl ?_
    refine go_baloadH P0 (0) c5_9 rfl (by decide) rfl ?_
    refine go_push c5_10 ?_
    refine go_iand c5_13 ?_
    refine go_isI (Int32.ofNat (own_oct b1)) ((own_nb b1).trans (own_oct_eq b1)) ?_
    refine go_callS1 (y := (⟨"com/example/bouncr/bouncr/PathPattern", "isCanonical", "([BII)Z"⟩ : MethodName)) (W := 0) (argsL := [(.int (Int32.ofNat (own_oct b1)))]) (st := []) c5_14 (rm_st2 l Z a0 hw h0 n0 _ P0 kd kc Sk Ak hsz Tk (own_oct b1) (own_oct_lt b1)) (t20 hw) (t21 hw) (t18 hw) (t22 hw) (by decide) (lenOf pd0 rfl) rfl rfl (by decide) (by decide) (by decide) (by decide) rfl ?_
    rintro _ _ ⟨rfl, rfl⟩
    refine go_more (k' := 0) (n' := 0) (by decide) (by decide) ?_
    refine go_if_eq c5_17 (fun s1 => ?_) (fun s1 => ?_)
    · refine go_iload c5_26 rfl ?_
      refine go_iload c5_27 rfl ?_
      refine go_icmp_ne c5_28 (fun _ => ?_) (fun q => absurd q (by decide))
      refine go_push c5_35 ?_
      exact go_bret rfl c5_36 (by decide) (by decide) (by decide) ⟨_, rfl, (by simp [own_can, own_c1, s0, s1]), rfl⟩
    · refine go_iincX (x' := 2) c5_20 rfl (by decide) ?_
      dsimp only [setl]
      refine go_goto c5_23 ?_
      refine go_iload c5_2 rfl ?_
      refine go_iload c5_3 rfl ?_
      refine go_icmp_ge c5_4 (fun q => absurd q (by decide)) (fun _ => ?_)
      refine go_aload c5_7 rfl rfl ?_
      refine go_iload c5_8 rfl ?_
      refine go_baloadH P0 (0) c5_9 rfl (by decide) rfl ?_
      refine go_push c5_10 ?_
      refine go_iand c5_13 ?_
      refine go_isI (Int32.ofNat (own_oct b2)) ((own_nb b2).trans (own_oct_eq b2)) ?_
      refine go_callS1 (y := (⟨"com/example/bouncr/bouncr/PathPattern", "isCanonical", "([BII)Z"⟩ : MethodName)) (W := 0) (argsL := [(.int (Int32.ofNat (own_oct b2)))]) (st := []) c5_14 (rm_st2 l Z a0 hw h0 n0 _ P0 kd kc Sk Ak hsz Tk (own_oct b2) (own_oct_lt b2)) (t20 hw) (t21 hw) (t18 hw) (t22 hw) (by decide) (lenOf pd0 rfl) rfl rfl (by decide) (by decide) (by decide) (by decide) rfl ?_
      rintro _ _ ⟨rfl, rfl⟩
      refine go_more (k' := 0) (n' := 0) (by decide) (by decide) ?_
      refine go_if_eq c5_17 (fun s2 => ?_) (fun s2 => ?_)
      · refine go_iload c5_26 rfl ?_
        refine go_iload c5_27 rfl ?_
        refine go_icmp_ne c5_28 (fun _ => ?_) (fun q => absurd q (by decide))
        refine go_push c5_35 ?_
        exact go_bret rfl c5_36 (by decide) (by decide) (by decide) ⟨_, rfl, (by simp [own_can, own_c1, s0, s1, s2]), rfl⟩
      · refine go_iincX (x' := 3) c5_20 rfl (by decide) ?_
        dsimp only [setl]
        refine go_goto c5_23 ?_
        refine go_iload c5_2 rfl ?_
        refine go_iload c5_3 rfl ?_
        refine go_icmp_ge c5_4 (fun q => absurd q (by decide)) (fun _ => ?_)
        refine go_aload c5_7 rfl rfl ?_
        refine go_iload c5_8 rfl ?_
        refine go_baloadH P0 (0) c5_9 rfl (by decide) rfl ?_
        refine go_push c5_10 ?_
        refine go_iand c5_13 ?_
        refine go_isI (Int32.ofNat (own_oct b3)) ((own_nb b3).trans (own_oct_eq b3)) ?_
        refine go_callS1 (y := (⟨"com/example/bouncr/bouncr/PathPattern", "isCanonical", "([BII)Z"⟩ : MethodName)) (W := 0) (argsL := [(.int (Int32.ofNat (own_oct b3)))]) (st := []) c5_14 (rm_st2 l Z a0 hw h0 n0 _ P0 kd kc Sk Ak hsz Tk (own_oct b3) (own_oct_lt b3)) (t20 hw) (t21 hw) (t18 hw) (t22 hw) (by decide) (lenOf pd0 rfl) rfl rfl (by decide) (by decide) (by decide) (by decide) rfl ?_
        rintro _ _ ⟨rfl, rfl⟩
        refine go_more (k' := 0) (n' := 0) (by decide) (by decide) ?_
        refine go_if_eq c5_17 (fun s3 => ?_) (fun s3 => ?_)
        · refine go_iload c5_26 rfl ?_
          refine go_iload c5_27 rfl ?_
          refine go_icmp_ne c5_28 (fun _ => ?_) (fun q => absurd q (by decide))
          refine go_push c5_35 ?_
          exact go_bret rfl c5_36 (by decide) (by decide) (by decide) ⟨_, rfl, (by simp [own_can, own_c1, s0, s1, s2, s3]), rfl⟩
        · refine go_iincX (x' := 4) c5_20 rfl (by decide) ?_
          dsimp only [setl]
          refine go_goto c5_23 ?_
          refine go_iload c5_2 rfl ?_
          refine go_iload c5_3 rfl ?_
          refine go_icmp_ge c5_4 (fun _ => ?_) (fun q => absurd q (by decide))
          refine go_iload c5_26 rfl ?_
          refine go_iload c5_27 rfl ?_
          refine go_icmp_ne c5_28 (fun q => absurd q (by decide)) (fun _ => ?_)
          refine go_push c5_31 ?_
          refine go_goto c5_32 ?_
          exact go_bret rfl c5_36 (by decide) (by decide) (by decide) ⟨_, rfl, (by simp [own_can, own_c1, s0, s1, s2, s3]), rfl⟩
set_option maxRecDepth 65536 in
set_option maxHeartbeats 4000000 in
theorem rm_can0_5 (l : Launch) (Z : State) (a0 : Array Value) (hw : ∀ d ∈ tables_1, d.before a0 Z = true) (h0 : Heap) (n0 : Nat) (ar : Addr) (b0 b1 b2 b3 b4 : Int32) (P0 : Hp Z n0 h0 [(ar, (.inr (.byte, "[B", [(.int (nar .byte b0.toInt8.toInt32)), (.int (nar .byte b1.toInt8.toInt32)), (.int (nar .byte b2.toInt8.toInt32)), (.int (nar .byte b3.toInt8.toInt32)), (.int (nar .byte b4.toInt8.toInt32))])))]) (kd : Addr) (kc : Cell) (Sk : Sta Z Z.heap "com/example/bouncr/bouncr/PathPattern" "KINDS" "[B" (.ref kd)) (Ak : Arr Z Z.heap kd kc .byte) (hsz : kc.slots.size = 256) (Tk : ∀ j, j < 256 → kc.slots[j]? = some (.int (own_kd j))) :
    Con false l Z (⟨"com/example/bouncr/bouncr/PathPattern", "isCanonical", "([BII)Z"⟩ : MethodName) prog_12_method_2_code 4 (some .boolean) ({ frames := 1, cells := 0, slots := 0, locals := 12 } : Room) #[(.ref ar), (.int 0), (.int 5)] h0 n0 (Ret (.int (own_can 0 5 (own_saw (Int32.ofNat (own_oct b0))) (own_saw (Int32.ofNat (own_oct b1))) (own_saw (Int32.ofNat (own_oct b2))) (own_saw (Int32.ofNat (own_oct b3))) (own_saw (Int32.ofNat (own_oct b4))))) h0) := by
  refine con_of (ls := [.val (.ref ar), .val (.int 0), .val (.int 5), .unset]) (plainFor_of_name pn1) rfl ?_
  refine go_iload c5_0 rfl ?_
  refine go_istore c5_1 rfl rfl ?_
  dsimp only [setl]
  refine go_iload c5_2 rfl ?_
  refine go_iload c5_3 rfl ?_
  refine go_icmp_ge c5_4 (fun q => absurd q (by decide)) (fun _ => ?_)
  refine go_aload c5_7 rfl rfl ?_
  refine go_iload c5_8 rfl ?_
  refine go_baloadH P0 (0) c5_9 rfl (by decide) rfl ?_
  refine go_push c5_10 ?_
  refine go_iand c5_13 ?_
  refine go_isI (Int32.ofNat (own_oct b0)) ((own_nb b0).trans (own_oct_eq b0)) ?_
  refine go_callS1 (y := (⟨"com/example/bouncr/bouncr/PathPattern", "isCanonical", "([BII)Z"⟩ : MethodName)) (W := 0) (argsL := [(.int (Int32.ofNat (own_oct b0)))]) (st := []) c5_14 (rm_st2 l Z a0 hw h0 n0 _ P0 kd kc Sk Ak hsz Tk (own_oct b0) (own_oct_lt b0)) (t20 hw) (t21 hw) (t18 hw) (t22 hw) (by decide) (lenOf pd0 rfl) rfl rfl (by decide) (by decide) (by decide) (by decide) rfl ?_
  rintro _ _ ⟨rfl, rfl⟩
  refine go_more (k' := 0) (n' := 0) (by decide) (by decide) ?_
  refine go_if_eq c5_17 (fun s0 => ?_) (fun s0 => ?_)
  · refine go_iload c5_26 rfl ?_
    refine go_iload c5_27 rfl ?_
    refine go_icmp_ne c5_28 (fun _ => ?_) (fun q => absurd q (by decide))
    refine go_push c5_35 ?_
    exact go_bret rfl c5_36 (by decide) (by decide) (by decide) ⟨_, rfl, (by simp [own_can, own_c1, s0]), rfl⟩
  · refine go_iincX (x' := 1) c5_20 rfl (by decide) ?_
    dsimp only [setl]
    refine go_goto c5_23 ?_
    refine go_iload c5_2 rfl ?_
    refine go_iload c5_3 rfl ?_
    refine go_icmp_ge c5_4 (fun q => absurd q (by decide)) (fun _ => ?_)
    refine go_aload c5_7 rfl rfl ?_
    refine go_iload c5_8 rfl ?_
    refine go_baloadH P0 (0) c5_9 rfl (by decide) rfl ?_
    refine go_push c5_10 ?_
    refine go_iand c5_13 ?_
    refine go_isI (Int32.ofNat (own_oct b1)) ((own_nb b1).trans (own_oct_eq b1)) ?_
    refine go_callS1 (y := (⟨"com/example/bouncr/bouncr/PathPattern", "isCanonical", "([BII)Z"⟩ : MethodName)) (W := 0) (argsL := [(.int (Int32.ofNat (own_oct b1)))]) (st := []) c5_14 (rm_st2 l Z a0 hw h0 n0 _ P0 kd kc Sk Ak hsz Tk (own_oct b1) (own_oct_lt b1)) (t20 hw) (t21 hw) (t18 hw) (t22 hw) (by decide) (lenOf pd0 rfl) rfl rfl (by decide) (by decide) (by decide) (by decide) rfl ?_
    rintro _ _ ⟨rfl, rfl⟩
    refine go_more (k' := 0) (n' := 0) (by decide) (by decide) ?_
    refine go_if_eq c5_17 (fun s1 => ?_) (fun s1 => ?_)
    · refine go_iload c5_26 rfl ?_
      refine go_iload c5_27 rfl ?_
      refine go_icmp_ne c5_28 (fun _ => ?_) (fun q => absurd q (by decide))
      refine go_push c5_35 ?_
      exact go_bret rfl c5_36 (by decide) (by decide) (by decide) ⟨_, rfl, (by simp [own_can, own_c1, s0, s1]), rfl⟩
    · refine go_iincX (x' := 2) c5_20 rfl (by decide) ?_
      dsimp only [setl]
      refine go_goto c5_23 ?_
      refine go_iload c5_2 rfl ?_
      refine go_iload c5_3 rfl ?_
      refine go_icmp_ge c5_4 (fun q => absurd q (by decide)) (fun _ => ?_)
      refine go_aload c5_7 rfl rfl ?_
      refine go_iload c5_8 rfl ?_
      refine go_baloadH P0 (0) c5_9 rfl (by decide) rfl ?_
      refine go_push c5_10 ?_
      refine go_iand c5_13 ?_
      refine go_isI (Int32.ofNat (own_oct b2)) ((own_nb b2).trans (own_oct_eq b2)) ?_
      refine go_callS1 (y := (⟨"com/example/bouncr/bouncr/PathPattern", "isCanonical", "([BII)Z"⟩ : MethodName)) (W := 0) (argsL := [(.int (Int32.ofNat (own_oct b2)))]) (st := []) c5_14 (rm_st2 l Z a0 hw h0 n0 _ P0 kd kc Sk Ak hsz Tk (own_oct b2) (own_oct_lt b2)) (t20 hw) (t21 hw) (t18 hw) (t22 hw) (by decide) (lenOf pd0 rfl) rfl rfl (by decide) (by decide) (by decide) (by decide) rfl ?_
      rintro _ _ ⟨rfl, rfl⟩
      refine go_more (k' := 0) (n' := 0) (by decide) (by decide) ?_
      refine go_if_eq c5_17 (fun s2 => ?_) (fun s2 => ?_)
      · refine go_iload c5_26 rfl ?_
        refine go_iload c5_27 rfl ?_
        refine go_icmp_ne c5_28 (fun _ => ?_) (fun q => absurd q (by decide))
        refine go_push c5_35 ?_
        exact go_bret rfl c5_36 (by decide) (by decide) (by decide) ⟨_, rfl, (by simp [own_can, own_c1, s0, s1, s2]), rfl⟩
      · refine go_iincX (x' := 3) c5_20 rfl (by decide) ?_
        dsimp only [setl]
        refine go_goto c5_23 ?_
        refine go_iload c5_2 rfl ?_
        refine go_iload c5_3 rfl ?_
        refine go_icmp_ge c5_4 (fun q => absurd q (by decide)) (fun _ => ?_)
        refine go_aload c5_7 rfl rfl ?_
        refine go_iload c5_8 rfl ?_
        refine go_baloadH P0 (0) c5_9 rfl (by decide) rfl ?_
        refine go_push c5_10 ?_
        refine go_iand c5_13 ?_
        refine go_isI (Int32.ofNat (own_oct b3)) ((own_nb b3).trans (own_oct_eq b3)) ?_
        refine go_callS1 (y := (⟨"com/example/bouncr/bouncr/PathPattern", "isCanonical", "([BII)Z"⟩ : MethodName)) (W := 0) (argsL := [(.int (Int32.ofNat (own_oct b3)))]) (st := []) c5_14 (rm_st2 l Z a0 hw h0 n0 _ P0 kd kc Sk Ak hsz Tk (own_oct b3) (own_oct_lt b3)) (t20 hw) (t21 hw) (t18 hw) (t22 hw) (by decide) (lenOf pd0 rfl) rfl rfl (by decide) (by decide) (by decide) (by decide) rfl ?_
        rintro _ _ ⟨rfl, rfl⟩
        refine go_more (k' := 0) (n' := 0) (by decide) (by decide) ?_
        refine go_if_eq c5_17 (fun s3 => ?_) (fun s3 => ?_)
        · refine go_iload c5_26 rfl ?_
          refine go_iload c5_27 rfl ?_
          refine go_icmp_ne c5_28 (fun _ => ?_) (fun q => absurd q (by decide))
          refine go_push c5_35 ?_
          exact go_bret rfl c5_36 (by decide) (by decide) (by decide) ⟨_, rfl, (by simp [own_can, own_c1, s0, s1, s2, s3]), rfl⟩
        · refine go_iincX (x' := 4) c5_20 rfl (by decide) ?_
          dsimp only [setl]
          refine go_goto c5_23 ?_
          refine go_iload c5_2 rfl ?_
          refine go_iload c5_3 rfl ?_
          refine go_icmp_ge c5_4 (fun q => absurd q (by decide)) (fun _ => ?_)
          refine go_aload c5_7 rfl rfl ?_
          refine go_iload c5_8 rfl ?_
          refine go_baloadH P0 (0) c5_9 rfl (by decide) rfl ?_
          refine go_push c5_10 ?_
          refine go_iand c5_13 ?_
          refine go_isI (Int32.ofNat (own_oct b4)) ((own_nb b4).trans (own_oct_eq b4)) ?_
          refine go_callS1 (y := (⟨"com/example/bouncr/bouncr/PathPattern", "isCanonical", "([BII)Z"⟩ : MethodName)) (W := 0) (argsL := [(.int (Int32.ofNat (own_oct b4)))]) (st := []) c5_14 (rm_st2 l Z a0 hw h0 n0 _ P0 kd kc Sk Ak hsz Tk (own_oct b4) (own_oct_lt b4)) (t20 hw) (t21 hw) (t18 hw) (t22 hw) (by decide) (lenOf pd0 rfl) rfl rfl (by decide) (by decide) (by decide) (by decide) rfl ?_
          rintro _ _ ⟨rfl, rfl⟩
          refine go_more (k' := 0) (n' := 0) (by decide) (by decide) ?_
          refine go_if_eq c5_17 (fun s4 => ?_) (fun s4 => ?_)
          · refine go_iload c5_26 rfl ?_
            refine go_iload c5_27 rfl ?_
            refine go_icmp_ne c5_28 (fun _ => ?_) (fun q => absurd q (by decide))
            refine go_push c5_35 ?_
            exact go_bret rfl c5_36 (by decide) (by decide) (by decide) ⟨_, rfl, (by simp [own_can, own_c1, s0, s1, s2, s3, s4]), rfl⟩
          · refine go_iincX (x' := 5) c5_20 rfl (by decide) ?_
            dsimp only [setl]
            refine go_goto c5_23 ?_
            refine go_iload c5_2 rfl ?_
            refine go_iload c5_3 rfl ?_
            refine go_icmp_ge c5_4 (fun _ => ?_) (fun q => absurd q (by decide))
            refine go_iload c5_26 rfl ?_
            refine go_iload c5_27 rfl ?_
            refine go_icmp_ne c5_28 (fun q => absurd q (by decide)) (fun _ => ?_)
            refine go_push c5_31 ?_
            refine go_goto c5_32 ?_
            exact go_bret rfl c5_36 (by decide) (by decide) (by decide) ⟨_, rfl, (by simp [own_can, own_c1, s0, s1, s2, s3, s4]), rfl⟩
set_option maxRecDepth 65536 in
set_option maxHeartbeats 4000000 in
theorem rm_can1_1 (l : Launch) (Z : State) (a0 : Array Value) (hw : ∀ d ∈ tables_1, d.before a0 Z = true) (h0 : Heap) (n0 : Nat) (ar : Addr) (b0 b1 b2 b3 b4 : Int32) (P0 : Hp Z n0 h0 [(ar, (.inr (.byte, "[B", [(.int (nar .byte b0.toInt8.toInt32)), (.int (nar .byte b1.toInt8.toInt32)), (.int (nar .byte b2.toInt8.toInt32)), (.int (nar .byte b3.toInt8.toInt32)), (.int (nar .byte b4.toInt8.toInt32))])))]) (kd : Addr) (kc : Cell) (Sk : Sta Z Z.heap "com/example/bouncr/bouncr/PathPattern" "KINDS" "[B" (.ref kd)) (Ak : Arr Z Z.heap kd kc .byte) (hsz : kc.slots.size = 256) (Tk : ∀ j, j < 256 → kc.slots[j]? = some (.int (own_kd j))) :
    Con false l Z (⟨"com/example/bouncr/bouncr/PathPattern", "isCanonical", "([BII)Z"⟩ : MethodName) prog_12_method_2_code 4 (some .boolean) ({ frames := 1, cells := 0, slots := 0, locals := 12 } : Room) #[(.ref ar), (.int 1), (.int 1)] h0 n0 (Ret (.int (own_can 1 1 (own_saw (Int32.ofNat (own_oct b0))) (own_saw (Int32.ofNat (own_oct b1))) (own_saw (Int32.ofNat (own_oct b2))) (own_saw (Int32.ofNat (own_oct b3))) (own_saw (Int32.ofNat (own_oct b4))))) h0) := by
  refine con_of (ls := [.val (.ref ar), .val (.int 1), .val (.int 1), .unset]) (plainFor_of_name pn1) rfl ?_
  refine go_iload c5_0 rfl ?_
  refine go_istore c5_1 rfl rfl ?_
  dsimp only [setl]
  refine go_iload c5_2 rfl ?_
  refine go_iload c5_3 rfl ?_
  refine go_icmp_ge c5_4 (fun _ => ?_) (fun q => absurd q (by decide))
  refine go_iload c5_26 rfl ?_
  refine go_iload c5_27 rfl ?_
  refine go_icmp_ne c5_28 (fun q => absurd q (by decide)) (fun _ => ?_)
  refine go_push c5_31 ?_
  refine go_goto c5_32 ?_
  exact go_bret rfl c5_36 (by decide) (by decide) (by decide) ⟨_, rfl, (by simp [own_can, own_c1]), rfl⟩
set_option maxRecDepth 65536 in
set_option maxHeartbeats 4000000 in
theorem rm_can1_2 (l : Launch) (Z : State) (a0 : Array Value) (hw : ∀ d ∈ tables_1, d.before a0 Z = true) (h0 : Heap) (n0 : Nat) (ar : Addr) (b0 b1 b2 b3 b4 : Int32) (P0 : Hp Z n0 h0 [(ar, (.inr (.byte, "[B", [(.int (nar .byte b0.toInt8.toInt32)), (.int (nar .byte b1.toInt8.toInt32)), (.int (nar .byte b2.toInt8.toInt32)), (.int (nar .byte b3.toInt8.toInt32)), (.int (nar .byte b4.toInt8.toInt32))])))]) (kd : Addr) (kc : Cell) (Sk : Sta Z Z.heap "com/example/bouncr/bouncr/PathPattern" "KINDS" "[B" (.ref kd)) (Ak : Arr Z Z.heap kd kc .byte) (hsz : kc.slots.size = 256) (Tk : ∀ j, j < 256 → kc.slots[j]? = some (.int (own_kd j))) :
    Con false l Z (⟨"com/example/bouncr/bouncr/PathPattern", "isCanonical", "([BII)Z"⟩ : MethodName) prog_12_method_2_code 4 (some .boolean) ({ frames := 1, cells := 0, slots := 0, locals := 12 } : Room) #[(.ref ar), (.int 1), (.int 2)] h0 n0 (Ret (.int (own_can 1 2 (own_saw (Int32.ofNat (own_oct b0))) (own_saw (Int32.ofNat (own_oct b1))) (own_saw (Int32.ofNat (own_oct b2))) (own_saw (Int32.ofNat (own_oct b3))) (own_saw (Int32.ofNat (own_oct b4))))) h0) := by
  refine con_of (ls := [.val (.ref ar), .val (.int 1), .val (.int 2), .unset]) (plainFor_of_name pn1) rfl ?_
  refine go_iload c5_0 rfl ?_
  refine go_istore c5_1 rfl rfl ?_
  dsimp only [setl]
  refine go_iload c5_2 rfl ?_
  refine go_iload c5_3 rfl ?_
  refine go_icmp_ge c5_4 (fun q => absurd q (by decide)) (fun _ => ?_)
  refine go_aload c5_7 rfl rfl ?_
  refine go_iload c5_8 rfl ?_
  refine go_baloadH P0 (0) c5_9 rfl (by decide) rfl ?_
  refine go_push c5_10 ?_
  refine go_iand c5_13 ?_
  refine go_isI (Int32.ofNat (own_oct b1)) ((own_nb b1).trans (own_oct_eq b1)) ?_
  refine go_callS1 (y := (⟨"com/example/bouncr/bouncr/PathPattern", "isCanonical", "([BII)Z"⟩ : MethodName)) (W := 0) (argsL := [(.int (Int32.ofNat (own_oct b1)))]) (st := []) c5_14 (rm_st2 l Z a0 hw h0 n0 _ P0 kd kc Sk Ak hsz Tk (own_oct b1) (own_oct_lt b1)) (t20 hw) (t21 hw) (t18 hw) (t22 hw) (by decide) (lenOf pd0 rfl) rfl rfl (by decide) (by decide) (by decide) (by decide) rfl ?_
  rintro _ _ ⟨rfl, rfl⟩
  refine go_more (k' := 0) (n' := 0) (by decide) (by decide) ?_
  refine go_if_eq c5_17 (fun s1 => ?_) (fun s1 => ?_)
  · refine go_iload c5_26 rfl ?_
    refine go_iload c5_27 rfl ?_
    refine go_icmp_ne c5_28 (fun _ => ?_) (fun q => absurd q (by decide))
    refine go_push c5_35 ?_
    exact go_bret rfl c5_36 (by decide) (by decide) (by decide) ⟨_, rfl, (by simp [own_can, own_c1, s1]), rfl⟩
  · refine go_iincX (x' := 2) c5_20 rfl (by decide) ?_
    dsimp only [setl]
    refine go_goto c5_23 ?_
    refine go_iload c5_2 rfl ?_
    refine go_iload c5_3 rfl ?_
    refine go_icmp_ge c5_4 (fun _ => ?_) (fun q => absurd q (by decide))
    refine go_iload c5_26 rfl ?_
    refine go_iload c5_27 rfl ?_
    refine go_icmp_ne c5_28 (fun q => absurd q (by decide)) (fun _ => ?_)
    refine go_push c5_31 ?_
    refine go_goto c5_32 ?_
    exact go_bret rfl c5_36 (by decide) (by decide) (by decide) ⟨_, rfl, (by simp [own_can, own_c1, s1]), rfl⟩
set_option maxRecDepth 65536 in
set_option maxHeartbeats 4000000 in
theorem rm_can1_3 (l : Launch) (Z : State) (a0 : Array Value) (hw : ∀ d ∈ tables_1, d.before a0 Z = true) (h0 : Heap) (n0 : Nat) (ar : Addr) (b0 b1 b2 b3 b4 : Int32) (P0 : Hp Z n0 h0 [(ar, (.inr (.byte, "[B", [(.int (nar .byte b0.toInt8.toInt32)), (.int (nar .byte b1.toInt8.toInt32)), (.int (nar .byte b2.toInt8.toInt32)), (.int (nar .byte b3.toInt8.toInt32)), (.int (nar .byte b4.toInt8.toInt32))])))]) (kd : Addr) (kc : Cell) (Sk : Sta Z Z.heap "com/example/bouncr/bouncr/PathPattern" "KINDS" "[B" (.ref kd)) (Ak : Arr Z Z.heap kd kc .byte) (hsz : kc.slots.size = 256) (Tk : ∀ j, j < 256 → kc.slots[j]? = some (.int (own_kd j))) :
    Con false l Z (⟨"com/example/bouncr/bouncr/PathPattern", "isCanonical", "([BII)Z"⟩ : MethodName) prog_12_method_2_code 4 (some .boolean) ({ frames := 1, cells := 0, slots := 0, locals := 12 } : Room) #[(.ref ar), (.int 1), (.int 3)] h0 n0 (Ret (.int (own_can 1 3 (own_saw (Int32.ofNat (own_oct b0))) (own_saw (Int32.ofNat (own_oct b1))) (own_saw (Int32.ofNat (own_oct b2))) (own_saw (Int32.ofNat (own_oct b3))) (own_saw (Int32.ofNat (own_oct b4))))) h0) := by
  refine con_of (ls := [.val (.ref ar), .val (.int 1), .val (.int 3), .unset]) (plainFor_of_name pn1) rfl ?_
  refine go_iload c5_0 rfl ?_
  refine go_istore c5_1 rfl rfl ?_
  dsimp only [setl]
  refine go_iload c5_2 rfl ?_
  refine go_iload c5_3 rfl ?_
  refine go_icmp_ge c5_4 (fun q => absurd q (by decide)) (fun _ => ?_)
  refine go_aload c5_7 rfl rfl ?_
  refine go_iload c5_8 rfl ?_
  refine go_baloadH P0 (0) c5_9 rfl (by decide) rfl ?_
  refine go_push c5_10 ?_
  refine go_iand c5_13 ?_
  refine go_isI (Int32.ofNat (own_oct b1)) ((own_nb b1).trans (own_oct_eq b1)) ?_
  refine go_callS1 (y := (⟨"com/example/bouncr/bouncr/PathPattern", "isCanonical", "([BII)Z"⟩ : MethodName)) (W := 0) (argsL := [(.int (Int32.ofNat (own_oct b1)))]) (st := []) c5_14 (rm_st2 l Z a0 hw h0 n0 _ P0 kd kc Sk Ak hsz Tk (own_oct b1) (own_oct_lt b1)) (t20 hw) (t21 hw) (t18 hw) (t22 hw) (by decide) (lenOf pd0 rfl) rfl rfl (by decide) (by decide) (by decide) (by decide) rfl ?_
  rintro _ _ ⟨rfl, rfl⟩
  refine go_more (k' := 0) (n' := 0) (by decide) (by decide) ?_
  refine go_if_eq c5_17 (fun s1 => ?_) (fun s1 => ?_)
  · refine go_iload c5_26 rfl ?_
    refine go_iload c5_27 rfl ?_
    refine go_icmp_ne c5_28 (fun _ => ?_) (fun q => absurd q (by decide))
    refine go_push c5_35 ?_
    exact go_bret rfl c5_36 (by decide) (by decide) (by decide) ⟨_, rfl, (by simp [own_can, own_c1, s1]), rfl⟩
  · refine go_iincX (x' := 2) c5_20 rfl (by decide) ?_
    dsimp only [setl]
    refine go_goto c5_23 ?_
    refine go_iload c5_2 rfl ?_
    refine go_iload c5_3 rfl ?_
    refine go_icmp_ge c5_4 (fun q => absurd q (by decide)) (fun _ => ?_)
    refine go_aload c5_7 rfl rfl ?_
    refine go_iload c5_8 rfl ?_
    refine go_baloadH P0 (0) c5_9 rfl (by decide) rfl ?_
    refine go_push c5_10 ?_
    refine go_iand c5_13 ?_
    refine go_isI (Int32.ofNat (own_oct b2)) ((own_nb b2).trans (own_oct_eq b2)) ?_
    refine go_callS1 (y := (⟨"com/example/bouncr/bouncr/PathPattern", "isCanonical", "([BII)Z"⟩ : MethodName)) (W := 0) (argsL := [(.int (Int32.ofNat (own_oct b2)))]) (st := []) c5_14 (rm_st2 l Z a0 hw h0 n0 _ P0 kd kc Sk Ak hsz Tk (own_oct b2) (own_oct_lt b2)) (t20 hw) (t21 hw) (t18 hw) (t22 hw) (by decide) (lenOf pd0 rfl) rfl rfl (by decide) (by decide) (by decide) (by decide) rfl ?_
    rintro _ _ ⟨rfl, rfl⟩
    refine go_more (k' := 0) (n' := 0) (by decide) (by decide) ?_
    refine go_if_eq c5_17 (fun s2 => ?_) (fun s2 => ?_)
    · refine go_iload c5_26 rfl ?_
      refine go_iload c5_27 rfl ?_
      refine go_icmp_ne c5_28 (fun _ => ?_) (fun q => absurd q (by decide))
      refine go_push c5_35 ?_
      exact go_bret rfl c5_36 (by decide) (by decide) (by decide) ⟨_, rfl, (by simp [own_can, own_c1, s1, s2]), rfl⟩
    · refine go_iincX (x' := 3) c5_20 rfl (by decide) ?_
      dsimp only [setl]
      refine go_goto c5_23 ?_
      refine go_iload c5_2 rfl ?_
      refine go_iload c5_3 rfl ?_
      refine go_icmp_ge c5_4 (fun _ => ?_) (fun q => absurd q (by decide))
      refine go_iload c5_26 rfl ?_
      refine go_iload c5_27 rfl ?_
      refine go_icmp_ne c5_28 (fun q => absurd q (by decide)) (fun _ => ?_)
      refine go_push c5_31 ?_
      refine go_goto c5_32 ?_
      exact go_bret rfl c5_36 (by decide) (by decide) (by decide) ⟨_, rfl, (by simp [own_can, own_c1, s1, s2]), rfl⟩
set_option maxRecDepth 65536 in
set_option maxHeartbeats 4000000 in
theorem rm_can1_4 (l : Launch) (Z : State) (a0 : Array Value) (hw : ∀ d ∈ tables_1, d.before a0 Z = true) (h0 : Heap) (n0 : Nat) (ar : Addr) (b0 b1 b2 b3 b4 : Int32) (P0 : Hp Z n0 h0 [(ar, (.inr (.byte, "[B", [(.int (nar .byte b0.toInt8.toInt32)), (.int (nar .byte b1.toInt8.toInt32)), (.int (nar .byte b2.toInt8.toInt32)), (.int (nar .byte b3.toInt8.toInt32)), (.int (nar .byte b4.toInt8.toInt32))])))]) (kd : Addr) (kc : Cell) (Sk : Sta Z Z.heap "com/example/bouncr/bouncr/PathPattern" "KINDS" "[B" (.ref kd)) (Ak : Arr Z Z.heap kd kc .byte) (hsz : kc.slots.size = 256) (Tk : ∀ j, j < 256 → kc.slots[j]? = some (.int (own_kd j))) :
    Con false l Z (⟨"com/example/bouncr/bouncr/PathPattern", "isCanonical", "([BII)Z"⟩ : MethodName) prog_12_method_2_code 4 (some .boolean) ({ frames := 1, cells := 0, slots := 0, locals := 12 } : Room) #[(.ref ar), (.int 1), (.int 4)] h0 n0 (Ret (.int (own_can 1 4 (own_saw (Int32.ofNat (own_oct b0))) (own_saw (Int32.ofNat (own_oct b1))) (own_saw (Int32.ofNat (own_oct b2))) (own_saw (Int32.ofNat (own_oct b3))) (own_saw (Int32.ofNat (own_oct b4))))) h0) := by
  refine con_of (ls := [.val (.ref ar), .val (.int 1), .val (.int 4), .unset]) (plainFor_of_name pn1) rfl ?_
  refine go_iload c5_0 rfl ?_
  refine go_istore c5_1 rfl rfl ?_
  dsimp only [setl]
  refine go_iload c5_2 rfl ?_
  refine go_iload c5_3 rfl ?_
  refine go_icmp_ge c5_4 (fun q => absurd q (by decide)) (fun _ => ?_)
  refine go_aload c5_7 rfl rfl ?_
  refine go_iload c5_8 rfl ?_
  refine go_baloadH P0 (0) c5_9 rfl (by decide) rfl ?_
  refine go_push c5_10 ?_
  refine go_iand c5_13 ?_
  refine go_isI (Int32.ofNat (own_oct b1)) ((own_nb b1).trans (own_oct_eq b1)) ?_
  refine go_callS1 (y := (⟨"com/example/bouncr/bouncr/PathPattern", "isCanonical", "([BII)Z"⟩ : MethodName)) (W := 0) (argsL := [(.int (Int32.ofNat (own_oct b1)))]) (st := []) c5_14 (rm_st2 l Z a0 hw h0 n0 _ P0 kd kc Sk Ak hsz Tk (own_oct b1) (own_oct_lt b1)) (t20 hw) (t21 hw) (t18 hw) (t22 hw) (by decide) (lenOf pd0 rfl) rfl rfl (by decide) (by decide) (by decide) (by decide) rfl ?_
  rintro _ _ ⟨rfl, rfl⟩
  refine go_more (k' := 0) (n' := 0) (by decide) (by decide) ?_
  refine go_if_eq c5_17 (fun s1 => ?_) (fun s1 => ?_)
  · refine go_iload c5_26 rfl ?_
    refine go_iload c5_27 rfl ?_
    refine go_icmp_ne c5_28 (fun _ => ?_) (fun q => absurd q (by decide))
    refine go_push c5_35 ?_
    exact go_bret rfl c5_36 (by decide) (by decide) (by decide) ⟨_, rfl, (by simp [own_can, own_c1, s1]), rfl⟩
  · refine go_iincX (x' := 2) c5_20 rfl (by decide) ?_
    dsimp only [setl]
    refine go_goto c5_23 ?_
    refine go_iload c5_2 rfl ?_
    refine go_iload c5_3 rfl ?_
    refine go_icmp_ge c5_4 (fun q => absurd q (by decide)) (fun _ => ?_)
    refine go_aload c5_7 rfl rfl ?_
    refine go_iload c5_8 rfl ?_
    refine go_baloadH P0 (0) c5_9 rfl (by decide) rfl ?_
    refine go_push c5_10 ?_
    refine go_iand c5_13 ?_
    refine go_isI (Int32.ofNat (own_oct b2)) ((own_nb b2).trans (own_oct_eq b2)) ?_
    refine go_callS1 (y := (⟨"com/example/bouncr/bouncr/PathPattern", "isCanonical", "([BII)Z"⟩ : MethodName)) (W := 0) (argsL := [(.int (Int32.ofNat (own_oct b2)))]) (st := []) c5_14 (rm_st2 l Z a0 hw h0 n0 _ P0 kd kc Sk Ak hsz Tk (own_oct b2) (own_oct_lt b2)) (t20 hw) (t21 hw) (t18 hw) (t22 hw) (by decide) (lenOf pd0 rfl) rfl rfl (by decide) (by decide) (by decide) (by decide) rfl ?_
    rintro _ _ ⟨rfl, rfl⟩
    refine go_more (k' := 0) (n' := 0) (by decide) (by decide) ?_
    refine go_if_eq c5_17 (fun s2 => ?_) (fun s2 => ?_)
    · refine go_iload c5_26 rfl ?_
      refine go_iload c5_27 rfl ?_
      refine go_icmp_ne c5_28 (fun _ => ?_) (fun q => absurd q (by decide))
      refine go_push c5_35 ?_
      exact go_bret rfl c5_36 (by decide) (by decide) (by decide) ⟨_, rfl, (by simp [own_can, own_c1, s1, s2]), rfl⟩
    · refine go_iincX (x' := 3) c5_20 rfl (by decide) ?_
      dsimp only [setl]
      refine go_goto c5_23 ?_
      refine go_iload c5_2 rfl ?_
      refine go_iload c5_3 rfl ?_
      refine go_icmp_ge c5_4 (fun q => absurd q (by decide)) (fun _ => ?_)
      refine go_aload c5_7 rfl rfl ?_
      refine go_iload c5_8 rfl ?_
      refine go_baloadH P0 (0) c5_9 rfl (by decide) rfl ?_
      refine go_push c5_10 ?_
      refine go_iand c5_13 ?_
      refine go_isI (Int32.ofNat (own_oct b3)) ((own_nb b3).trans (own_oct_eq b3)) ?_
      refine go_callS1 (y := (⟨"com/example/bouncr/bouncr/PathPattern", "isCanonical", "([BII)Z"⟩ : MethodName)) (W := 0) (argsL := [(.int (Int32.ofNat (own_oct b3)))]) (st := []) c5_14 (rm_st2 l Z a0 hw h0 n0 _ P0 kd kc Sk Ak hsz Tk (own_oct b3) (own_oct_lt b3)) (t20 hw) (t21 hw) (t18 hw) (t22 hw) (by decide) (lenOf pd0 rfl) rfl rfl (by decide) (by decide) (by decide) (by decide) rfl ?_
      rintro _ _ ⟨rfl, rfl⟩
      refine go_more (k' := 0) (n' := 0) (by decide) (by decide) ?_
      refine go_if_eq c5_17 (fun s3 => ?_) (fun s3 => ?_)
      · refine go_iload c5_26 rfl ?_
        refine go_iload c5_27 rfl ?_
        refine go_icmp_ne c5_28 (fun _ => ?_) (fun q => absurd q (by decide))
        refine go_push c5_35 ?_
        exact go_bret rfl c5_36 (by decide) (by decide) (by decide) ⟨_, rfl, (by simp [own_can, own_c1, s1, s2, s3]), rfl⟩
      · refine go_iincX (x' := 4) c5_20 rfl (by decide) ?_
        dsimp only [setl]
        refine go_goto c5_23 ?_
        refine go_iload c5_2 rfl ?_
        refine go_iload c5_3 rfl ?_
        refine go_icmp_ge c5_4 (fun _ => ?_) (fun q => absurd q (by decide))
        refine go_iload c5_26 rfl ?_
        refine go_iload c5_27 rfl ?_
        refine go_icmp_ne c5_28 (fun q => absurd q (by decide)) (fun _ => ?_)
        refine go_push c5_31 ?_
        refine go_goto c5_32 ?_
        exact go_bret rfl c5_36 (by decide) (by decide) (by decide) ⟨_, rfl, (by simp [own_can, own_c1, s1, s2, s3]), rfl⟩
set_option maxRecDepth 65536 in
set_option maxHeartbeats 4000000 in
theorem rm_can1_5 (l : Launch) (Z : State) (a0 : Array Value) (hw : ∀ d ∈ tables_1, d.before a0 Z = true) (h0 : Heap) (n0 : Nat) (ar : Addr) (b0 b1 b2 b3 b4 : Int32) (P0 : Hp Z n0 h0 [(ar, (.inr (.byte, "[B", [(.int (nar .byte b0.toInt8.toInt32)), (.int (nar .byte b1.toInt8.toInt32)), (.int (nar .byte b2.toInt8.toInt32)), (.int (nar .byte b3.toInt8.toInt32)), (.int (nar .byte b4.toInt8.toInt32))])))]) (kd : Addr) (kc : Cell) (Sk : Sta Z Z.heap "com/example/bouncr/bouncr/PathPattern" "KINDS" "[B" (.ref kd)) (Ak : Arr Z Z.heap kd kc .byte) (hsz : kc.slots.size = 256) (Tk : ∀ j, j < 256 → kc.slots[j]? = some (.int (own_kd j))) :
    Con false l Z (⟨"com/example/bouncr/bouncr/PathPattern", "isCanonical", "([BII)Z"⟩ : MethodName) prog_12_method_2_code 4 (some .boolean) ({ frames := 1, cells := 0, slots := 0, locals := 12 } : Room) #[(.ref ar), (.int 1), (.int 5)] h0 n0 (Ret (.int (own_can 1 5 (own_saw (Int32.ofNat (own_oct b0))) (own_saw (Int32.ofNat (own_oct b1))) (own_saw (Int32.ofNat (own_oct b2))) (own_saw (Int32.ofNat (own_oct b3))) (own_saw (Int32.ofNat (own_oct b4))))) h0) := by
  refine con_of (ls := [.val (.ref ar), .val (.int 1), .val (.int 5), .unset]) (plainFor_of_name pn1) rfl ?_
  refine go_iload c5_0 rfl ?_
  refine go_istore c5_1 rfl rfl ?_
  dsimp only [setl]
  refine go_iload c5_2 rfl ?_
  refine go_iload c5_3 rfl ?_
  refine go_icmp_ge c5_4 (fun q => absurd q (by decide)) (fun _ => ?_)
  refine go_aload c5_7 rfl rfl ?_
  refine go_iload c5_8 rfl ?_
  refine go_baloadH P0 (0) c5_9 rfl (by decide) rfl ?_
  refine go_push c5_10 ?_
  refine go_iand c5_13 ?_
  refine go_isI (Int32.ofNat (own_oct b1)) ((own_nb b1).trans (own_oct_eq b1)) ?_
  refine go_callS1 (y := (⟨"com/example/bouncr/bouncr/PathPattern", "isCanonical", "([BII)Z"⟩ : MethodName)) (W := 0) (argsL := [(.int (Int32.ofNat (own_oct b1)))]) (st := []) c5_14 (rm_st2 l Z a0 hw h0 n0 _ P0 kd kc Sk Ak hsz Tk (own_oct b1) (own_oct_lt b1)) (t20 hw) (t21 hw) (t18 hw) (t22 hw) (by decide) (lenOf pd0 rfl) rfl rfl (by decide) (by decide) (by decide) (by decide) rfl ?_
  rintro _ _ ⟨rfl, rfl⟩
  refine go_more (k' := 0) (n' := 0) (by decide) (by decide) ?_
  refine go_if_eq c5_17 (fun s1 => ?_) (fun s1 => ?_)
  · refine go_iload c5_26 rfl ?_
    refine go_iload c5_27 rfl ?_
    refine go_icmp_ne c5_28 (fun _ => ?_) (fun q => absurd q (by decide))
    refine go_push c5_35 ?_
    exact go_bret rfl c5_36 (by decide) (by decide) (by decide) ⟨_, rfl, (by simp [own_can, own_c1, s1]), rfl⟩
  · refine go_iincX (x' := 2) c5_20 rfl (by decide) ?_
    dsimp only [setl]
    refine go_goto c5_23 ?_
    refine go_iload c5_2 rfl ?_
    refine go_iload c5_3 rfl ?_
    refine go_icmp_ge c5_4 (fun q => absurd q (by decide)) (fun _ => ?_)
    refine go_aload c5_7 rfl rfl ?_
    refine go_iload c5_8 rfl ?_
    refine go_baloadH P0 (0) c5_9 rfl (by decide) rfl ?_
    refine go_push c5_10 ?_
    refine go_iand c5_13 ?_
    refine go_isI (Int32.ofNat (own_oct b2)) ((own_nb b2).trans (own_oct_eq b2)) ?_
    refine go_callS1 (y := (⟨"com/example/bouncr/bouncr/PathPattern", "isCanonical", "([BII)Z"⟩ : MethodName)) (W := 0) (argsL := [(.int (Int32.ofNat (own_oct b2)))]) (st := []) c5_14 (rm_st2 l Z a0 hw h0 n0 _ P0 kd kc Sk Ak hsz Tk (own_oct b2) (own_oct_lt b2)) (t20 hw) (t21 hw) (t18 hw) (t22 hw) (by decide) (lenOf pd0 rfl) rfl rfl (by decide) (by decide) (by decide) (by decide) rfl ?_
    rintro _ _ ⟨rfl, rfl⟩
    refine go_more (k' := 0) (n' := 0) (by decide) (by decide) ?_
    refine go_if_eq c5_17 (fun s2 => ?_) (fun s2 => ?_)
    · refine go_iload c5_26 rfl ?_
      refine go_iload c5_27 rfl ?_
      refine go_icmp_ne c5_28 (fun _ => ?_) (fun q => absurd q (by decide))
      refine go_push c5_35 ?_
      exact go_bret rfl c5_36 (by decide) (by decide) (by decide) ⟨_, rfl, (by simp [own_can, own_c1, s1, s2]), rfl⟩
    · refine go_iincX (x' := 3) c5_20 rfl (by decide) ?_
      dsimp only [setl]
      refine go_goto c5_23 ?_
      refine go_iload c5_2 rfl ?_
      refine go_iload c5_3 rfl ?_
      refine go_icmp_ge c5_4 (fun q => absurd q (by decide)) (fun _ => ?_)
      refine go_aload c5_7 rfl rfl ?_
      refine go_iload c5_8 rfl ?_
      refine go_baloadH P0 (0) c5_9 rfl (by decide) rfl ?_
      refine go_push c5_10 ?_
      refine go_iand c5_13 ?_
      refine go_isI (Int32.ofNat (own_oct b3)) ((own_nb b3).trans (own_oct_eq b3)) ?_
      refine go_callS1 (y := (⟨"com/example/bouncr/bouncr/PathPattern", "isCanonical", "([BII)Z"⟩ : MethodName)) (W := 0) (argsL := [(.int (Int32.ofNat (own_oct b3)))]) (st := []) c5_14 (rm_st2 l Z a0 hw h0 n0 _ P0 kd kc Sk Ak hsz Tk (own_oct b3) (own_oct_lt b3)) (t20 hw) (t21 hw) (t18 hw) (t22 hw) (by decide) (lenOf pd0 rfl) rfl rfl (by decide) (by decide) (by decide) (by decide) rfl ?_
      rintro _ _ ⟨rfl, rfl⟩
      refine go_more (k' := 0) (n' := 0) (by decide) (by decide) ?_
      refine go_if_eq c5_17 (fun s3 => ?_) (fun s3 => ?_)
      · refine go_iload c5_26 rfl ?_
        refine go_iload c5_27 rfl ?_
        refine go_icmp_ne c5_28 (fun _ => ?_) (fun q => absurd q (by decide))
        refine go_push c5_35 ?_
        exact go_bret rfl c5_36 (by decide) (by decide) (by decide) ⟨_, rfl, (by simp [own_can, own_c1, s1, s2, s3]), rfl⟩
      · refine go_iincX (x' := 4) c5_20 rfl (by decide) ?_
        dsimp only [setl]
        refine go_goto c5_23 ?_
        refine go_iload c5_2 rfl ?_
        refine go_iload c5_3 rfl ?_
        refine go_icmp_ge c5_4 (fun q => absurd q (by decide)) (fun _ => ?_)
        refine go_aload c5_7 rfl rfl ?_
        refine go_iload c5_8 rfl ?_
        refine go_baloadH P0 (0) c5_9 rfl (by decide) rfl ?_
        refine go_push c5_10 ?_
        refine go_iand c5_13 ?_
        refine go_isI (Int32.ofNat (own_oct b4)) ((own_nb b4).trans (own_oct_eq b4)) ?_
        refine go_callS1 (y := (⟨"com/example/bouncr/bouncr/PathPattern", "isCanonical", "([BII)Z"⟩ : MethodName)) (W := 0) (argsL := [(.int (Int32.ofNat (own_oct b4)))]) (st := []) c5_14 (rm_st2 l Z a0 hw h0 n0 _ P0 kd kc Sk Ak hsz Tk (own_oct b4) (own_oct_lt b4)) (t20 hw) (t21 hw) (t18 hw) (t22 hw) (by decide) (lenOf pd0 rfl) rfl rfl (by decide) (by decide) (by decide) (by decide) rfl ?_
        rintro _ _ ⟨rfl, rfl⟩
        refine go_more (k' := 0) (n' := 0) (by decide) (by decide) ?_
        refine go_if_eq c5_17 (fun s4 => ?_) (fun s4 => ?_)
        · refine go_iload c5_26 rfl ?_
          refine go_iload c5_27 rfl ?_
          refine go_icmp_ne c5_28 (fun _ => ?_) (fun q => absurd q (by decide))
          refine go_push c5_35 ?_
          exact go_bret rfl c5_36 (by decide) (by decide) (by decide) ⟨_, rfl, (by simp [own_can, own_c1, s1, s2, s3, s4]), rfl⟩
        · refine go_iincX (x' := 5) c5_20 rfl (by decide) ?_
          dsimp only [setl]
          refine go_goto c5_23 ?_
          refine go_iload c5_2 rfl ?_
          refine go_iload c5_3 rfl ?_
          refine go_icmp_ge c5_4 (fun _ => ?_) (fun q => absurd q (by decide))
          refine go_iload c5_26 rfl ?_
          refine go_iload c5_27 rfl ?_
          refine go_icmp_ne c5_28 (fun q => absurd q (by decide)) (fun _ => ?_)
          refine go_push c5_31 ?_
          refine go_goto c5_32 ?_
          exact go_bret rfl c5_36 (by decide) (by decide) (by decide) ⟨_, rfl, (by simp [own_can, own_c1, s1, s2, s3, s4]), rfl⟩
set_option maxRecDepth 65536 in
set_option maxHeartbeats 4000000 in
theorem rm_can2_2 (l : Launch) (Z : State) (a0 : Array Value) (hw : ∀ d ∈ tables_1, d.before a0 Z = true) (h0 : Heap) (n0 : Nat) (ar : Addr) (b0 b1 b2 b3 b4 : Int32) (P0 : Hp Z n0 h0 [(ar, (.inr (.byte, "[B", [(.int (nar .byte b0.toInt8.toInt32)), (.int (nar .byte b1.toInt8.toInt32)), (.int (nar .byte b2.toInt8.toInt32)), (.int (nar .byte b3.toInt8.toInt32)), (.int (nar .byte b4.toInt8.toInt32))])))]) (kd : Addr) (kc : Cell) (Sk : Sta Z Z.heap "com/example/bouncr/bouncr/PathPattern" "KINDS" "[B" (.ref kd)) (Ak : Arr Z Z.heap kd kc .byte) (hsz : kc.slots.size = 256) (Tk : ∀ j, j < 256 → kc.slots[j]? = some (.int (own_kd j))) :
    Con false l Z (⟨"com/example/bouncr/bouncr/PathPattern", "isCanonical", "([BII)Z"⟩ : MethodName) prog_12_method_2_code 4 (some .boolean) ({ frames := 1, cells := 0, slots := 0, locals := 12 } : Room) #[(.ref ar), (.int 2), (.int 2)] h0 n0 (Ret (.int (own_can 2 2 (own_saw (Int32.ofNat (own_oct b0))) (own_saw (Int32.ofNat (own_oct b1))) (own_saw (Int32.ofNat (own_oct b2))) (own_saw (Int32.ofNat (own_oct b3))) (own_saw (Int32.ofNat (own_oct b4))))) h0) := by
  refine con_of (ls := [.val (.ref ar), .val (.int 2), .val (.int 2), .unset]) (plainFor_of_name pn1) rfl ?_
  refine go_iload c5_0 rfl ?_
  refine go_istore c5_1 rfl rfl ?_
  dsimp only [setl]
  refine go_iload c5_2 rfl ?_
  refine go_iload c5_3 rfl ?_
  refine go_icmp_ge c5_4 (fun _ => ?_) (fun q => absurd q (by decide))
  refine go_iload c5_26 rfl ?_
  refine go_iload c5_27 rfl ?_
  refine go_icmp_ne c5_28 (fun q => absurd q (by decide)) (fun _ => ?_)
  refine go_push c5_31 ?_
  refine go_goto c5_32 ?_
  exact go_bret rfl c5_36 (by decide) (by decide) (by decide) ⟨_, rfl, (by simp [own_can, own_c1]), rfl⟩
set_option maxRecDepth 65536 in
set_option maxHeartbeats 4000000 in
theorem rm_can2_3 (l : Launch) (Z : State) (a0 : Array Value) (hw : ∀ d ∈ tables_1, d.before a0 Z = true) (h0 : Heap) (n0 : Nat) (ar : Addr) (b0 b1 b2 b3 b4 : Int32) (P0 : Hp Z n0 h0 [(ar, (.inr (.byte, "[B", [(.int (nar .byte b0.toInt8.toInt32)), (.int (nar .byte b1.toInt8.toInt32)), (.int (nar .byte b2.toInt8.toInt32)), (.int (nar .byte b3.toInt8.toInt32)), (.int (nar .byte b4.toInt8.toInt32))])))]) (kd : Addr) (kc : Cell) (Sk : Sta Z Z.heap "com/example/bouncr/bouncr/PathPattern" "KINDS" "[B" (.ref kd)) (Ak : Arr Z Z.heap kd kc .byte) (hsz : kc.slots.size = 256) (Tk : ∀ j, j < 256 → kc.slots[j]? = some (.int (own_kd j))) :
    Con false l Z (⟨"com/example/bouncr/bouncr/PathPattern", "isCanonical", "([BII)Z"⟩ : MethodName) prog_12_method_2_code 4 (some .boolean) ({ frames := 1, cells := 0, slots := 0, locals := 12 } : Room) #[(.ref ar), (.int 2), (.int 3)] h0 n0 (Ret (.int (own_can 2 3 (own_saw (Int32.ofNat (own_oct b0))) (own_saw (Int32.ofNat (own_oct b1))) (own_saw (Int32.ofNat (own_oct b2))) (own_saw (Int32.ofNat (own_oct b3))) (own_saw (Int32.ofNat (own_oct b4))))) h0) := by
  refine con_of (ls := [.val (.ref ar), .val (.int 2), .val (.int 3), .unset]) (plainFor_of_name pn1) rfl ?_
  refine go_iload c5_0 rfl ?_
  refine go_istore c5_1 rfl rfl ?_
  dsimp only [setl]
  refine go_iload c5_2 rfl ?_
  refine go_iload c5_3 rfl ?_
  refine go_icmp_ge c5_4 (fun q => absurd q (by decide)) (fun _ => ?_)
  refine go_aload c5_7 rfl rfl ?_
  refine go_iload c5_8 rfl ?_
  refine go_baloadH P0 (0) c5_9 rfl (by decide) rfl ?_
  refine go_push c5_10 ?_
  refine go_iand c5_13 ?_
  refine go_isI (Int32.ofNat (own_oct b2)) ((own_nb b2).trans (own_oct_eq b2)) ?_
  refine go_callS1 (y := (⟨"com/example/bouncr/bouncr/PathPattern", "isCanonical", "([BII)Z"⟩ : MethodName)) (W := 0) (argsL := [(.int (Int32.ofNat (own_oct b2)))]) (st := []) c5_14 (rm_st2 l Z a0 hw h0 n0 _ P0 kd kc Sk Ak hsz Tk (own_oct b2) (own_oct_lt b2)) (t20 hw) (t21 hw) (t18 hw) (t22 hw) (by decide) (lenOf pd0 rfl) rfl rfl (by decide) (by decide) (by decide) (by decide) rfl ?_
  rintro _ _ ⟨rfl, rfl⟩
  refine go_more (k' := 0) (n' := 0) (by decide) (by decide) ?_
  refine go_if_eq c5_17 (fun s2 => ?_) (fun s2 => ?_)
  · refine go_iload c5_26 rfl ?_
    refine go_iload c5_27 rfl ?_
    refine go_icmp_ne c5_28 (fun _ => ?_) (fun q => absurd q (by decide))
    refine go_push c5_35 ?_
    exact go_bret rfl c5_36 (by decide) (by decide) (by decide) ⟨_, rfl, (by simp [own_can, own_c1, s2]), rfl⟩
  · refine go_iincX (x' := 3) c5_20 rfl (by decide) ?_
    dsimp only [setl]
    refine go_goto c5_23 ?_
    refine go_iload c5_2 rfl ?_
    refine go_iload c5_3 rfl ?_
    refine go_icmp_ge c5_4 (fun _ => ?_) (fun q => absurd q (by decide))
    refine go_iload c5_26 rfl ?_
    refine go_iload c5_27 rfl ?_
    refine go_icmp_ne c5_28 (fun q => absurd q (by decide)) (fun _ => ?_)
    refine go_push c5_31 ?_
    refine go_goto c5_32 ?_
    exact go_bret rfl c5_36 (by decide) (by decide) (by decide) ⟨_, rfl, (by simp [own_can, own_c1, s2]), rfl⟩
set_option maxRecDepth 65536 in
set_option maxHeartbeats 4000000 in
theorem rm_can2_4 (l : Launch) (Z : State) (a0 : Array Value) (hw : ∀ d ∈ tables_1, d.before a0 Z = true) (h0 : Heap) (n0 : Nat) (ar : Addr) (b0 b1 b2 b3 b4 : Int32) (P0 : Hp Z n0 h0 [(ar, (.inr (.byte, "[B", [(.int (nar .byte b0.toInt8.toInt32)), (.int (nar .byte b1.toInt8.toInt32)), (.int (nar .byte b2.toInt8.toInt32)), (.int (nar .byte b3.toInt8.toInt32)), (.int (nar .byte b4.toInt8.toInt32))])))]) (kd : Addr) (kc : Cell) (Sk : Sta Z Z.heap "com/example/bouncr/bouncr/PathPattern" "KINDS" "[B" (.ref kd)) (Ak : Arr Z Z.heap kd kc .byte) (hsz : kc.slots.size = 256) (Tk : ∀ j, j < 256 → kc.slots[j]? = some (.int (own_kd j))) :
    Con false l Z (⟨"com/example/bouncr/bouncr/PathPattern", "isCanonical", "([BII)Z"⟩ : MethodName) prog_12_method_2_code 4 (some .boolean) ({ frames := 1, cells := 0, slots := 0, locals := 12 } : Room) #[(.ref ar), (.int 2), (.int 4)] h0 n0 (Ret (.int (own_can 2 4 (own_saw (Int32.ofNat (own_oct b0))) (own_saw (Int32.ofNat (own_oct b1))) (own_saw (Int32.ofNat (own_oct b2))) (own_saw (Int32.ofNat (own_oct b3))) (own_saw (Int32.ofNat (own_oct b4))))) h0) := by
  refine con_of (ls := [.val (.ref ar), .val (.int 2), .val (.int 4), .unset]) (plainFor_of_name pn1) rfl ?_
  refine go_iload c5_0 rfl ?_
  refine go_istore c5_1 rfl rfl ?_
  dsimp only [setl]
  refine go_iload c5_2 rfl ?_
  refine go_iload c5_3 rfl ?_
  refine go_icmp_ge c5_4 (fun q => absurd q (by decide)) (fun _ => ?_)
  refine go_aload c5_7 rfl rfl ?_
  refine go_iload c5_8 rfl ?_
  refine go_baloadH P0 (0) c5_9 rfl (by decide) rfl ?_
  refine go_push c5_10 ?_
  refine go_iand c5_13 ?_
  refine go_isI (Int32.ofNat (own_oct b2)) ((own_nb b2).trans (own_oct_eq b2)) ?_
  refine go_callS1 (y := (⟨"com/example/bouncr/bouncr/PathPattern", "isCanonical", "([BII)Z"⟩ : MethodName)) (W := 0) (argsL := [(.int (Int32.ofNat (own_oct b2)))]) (st := []) c5_14 (rm_st2 l Z a0 hw h0 n0 _ P0 kd kc Sk Ak hsz Tk (own_oct b2) (own_oct_lt b2)) (t20 hw) (t21 hw) (t18 hw) (t22 hw) (by decide) (lenOf pd0 rfl) rfl rfl (by decide) (by decide) (by decide) (by decide) rfl ?_
  rintro _ _ ⟨rfl, rfl⟩
  refine go_more (k' := 0) (n' := 0) (by decide) (by decide) ?_
  refine go_if_eq c5_17 (fun s2 => ?_) (fun s2 => ?_)
  · refine go_iload c5_26 rfl ?_
    refine go_iload c5_27 rfl ?_
    refine go_icmp_ne c5_28 (fun _ => ?_) (fun q => absurd q (by decide))
    refine go_push c5_35 ?_
    exact go_bret rfl c5_36 (by decide) (by decide) (by decide) ⟨_, rfl, (by simp [own_can, own_c1, s2]), rfl⟩
  · refine go_iincX (x' := 3) c5_20 rfl (by decide) ?_
    dsimp only [setl]
    refine go_goto c5_23 ?_
    refine go_iload c5_2 rfl ?_
    refine go_iload c5_3 rfl ?_
    refine go_icmp_ge c5_4 (fun q => absurd q (by decide)) (fun _ => ?_)
    refine go_aload c5_7 rfl rfl ?_
    refine go_iload c5_8 rfl ?_
    refine go_baloadH P0 (0) c5_9 rfl (by decide) rfl ?_
    refine go_push c5_10 ?_
    refine go_iand c5_13 ?_
    refine go_isI (Int32.ofNat (own_oct b3)) ((own_nb b3).trans (own_oct_eq b3)) ?_
    refine go_callS1 (y := (⟨"com/example/bouncr/bouncr/PathPattern", "isCanonical", "([BII)Z"⟩ : MethodName)) (W := 0) (argsL := [(.int (Int32.ofNat (own_oct b3)))]) (st := []) c5_14 (rm_st2 l Z a0 hw h0 n0 _ P0 kd kc Sk Ak hsz Tk (own_oct b3) (own_oct_lt b3)) (t20 hw) (t21 hw) (t18 hw) (t22 hw) (by decide) (lenOf pd0 rfl) rfl rfl (by decide) (by decide) (by decide) (by decide) rfl ?_
    rintro _ _ ⟨rfl, rfl⟩
    refine go_more (k' := 0) (n' := 0) (by decide) (by decide) ?_
    refine go_if_eq c5_17 (fun s3 => ?_) (fun s3 => ?_)
    · refine go_iload c5_26 rfl ?_
      refine go_iload c5_27 rfl ?_
      refine go_icmp_ne c5_28 (fun _ => ?_) (fun q => absurd q (by decide))
      refine go_push c5_35 ?_
      exact go_bret rfl c5_36 (by decide) (by decide) (by decide) ⟨_, rfl, (by simp [own_can, own_c1, s2, s3]), rfl⟩
    · refine go_iincX (x' := 4) c5_20 rfl (by decide) ?_
      dsimp only [setl]
      refine go_goto c5_23 ?_
      refine go_iload c5_2 rfl ?_
      refine go_iload c5_3 rfl ?_
      refine go_icmp_ge c5_4 (fun _ => ?_) (fun q => absurd q (by decide))
      refine go_iload c5_26 rfl ?_
      refine go_iload c5_27 rfl ?_
      refine go_icmp_ne c5_28 (fun q => absurd q (by decide)) (fun _ => ?_)
      refine go_push c5_31 ?_
      refine go_goto c5_32 ?_
      exact go_bret rfl c5_36 (by decide) (by decide) (by decide) ⟨_, rfl, (by simp [own_can, own_c1, s2, s3]), rfl⟩
set_option maxRecDepth 65536 in
set_option maxHeartbeats 4000000 in
theorem rm_can2_5 (l : Launch) (Z : State) (a0 : Array Value) (hw : ∀ d ∈ tables_1, d.before a0 Z = true) (h0 : Heap) (n0 : Nat) (ar : Addr) (b0 b1 b2 b3 b4 : Int32) (P0 : Hp Z n0 h0 [(ar, (.inr (.byte, "[B", [(.int (nar .byte b0.toInt8.toInt32)), (.int (nar .byte b1.toInt8.toInt32)), (.int (nar .byte b2.toInt8.toInt32)), (.int (nar .byte b3.toInt8.toInt32)), (.int (nar .byte b4.toInt8.toInt32))])))]) (kd : Addr) (kc : Cell) (Sk : Sta Z Z.heap "com/example/bouncr/bouncr/PathPattern" "KINDS" "[B" (.ref kd)) (Ak : Arr Z Z.heap kd kc .byte) (hsz : kc.slots.size = 256) (Tk : ∀ j, j < 256 → kc.slots[j]? = some (.int (own_kd j))) :
    Con false l Z (⟨"com/example/bouncr/bouncr/PathPattern", "isCanonical", "([BII)Z"⟩ : MethodName) prog_12_method_2_code 4 (some .boolean) ({ frames := 1, cells := 0, slots := 0, locals := 12 } : Room) #[(.ref ar), (.int 2), (.int 5)] h0 n0 (Ret (.int (own_can 2 5 (own_saw (Int32.ofNat (own_oct b0))) (own_saw (Int32.ofNat (own_oct b1))) (own_saw (Int32.ofNat (own_oct b2))) (own_saw (Int32.ofNat (own_oct b3))) (own_saw (Int32.ofNat (own_oct b4))))) h0) := by
  refine con_of (ls := [.val (.ref ar), .val (.int 2), .val (.int 5), .unset]) (plainFor_of_name pn1) rfl ?_
  refine go_iload c5_0 rfl ?_
  refine go_istore c5_1 rfl rfl ?_
  dsimp only [setl]
  refine go_iload c5_2 rfl ?_
  refine go_iload c5_3 rfl ?_
  refine go_icmp_ge c5_4 (fun q => absurd q (by decide)) (fun _ => ?_)
  refine go_aload c5_7 rfl rfl ?_
  refine go_iload c5_8 rfl ?_
  refine go_baloadH P0 (0) c5_9 rfl (by decide) rfl ?_
  refine go_push c5_10 ?_
  refine go_iand c5_13 ?_
  refine go_isI (Int32.ofNat (own_oct b2)) ((own_nb b2).trans (own_oct_eq b2)) ?_
  refine go_callS1 (y := (⟨"com/example/bouncr/bouncr/PathPattern", "isCanonical", "([BII)Z"⟩ : MethodName)) (W := 0) (argsL := [(.int (Int32.ofNat (own_oct b2)))]) (st := []) c5_14 (rm_st2 l Z a0 hw h0 n0 _ P0 kd kc Sk Ak hsz Tk (own_oct b2) (own_oct_lt b2)) (t20 hw) (t21 hw) (t18 hw) (t22 hw) (by decide) (lenOf pd0 rfl) rfl rfl (by decide) (by decide) (by decide) (by decide) rfl ?_
  rintro _ _ ⟨rfl, rfl⟩
  refine go_more (k' := 0) (n' := 0) (by decide) (by decide) ?_
  refine go_if_eq c5_17 (fun s2 => ?_) (fun s2 => ?_)
  · refine go_iload c5_26 rfl ?_
    refine go_iload c5_27 rfl ?_
    refine go_icmp_ne c5_28 (fun _ => ?_) (fun q => absurd q (by decide))
    refine go_push c5_35 ?_
    exact go_bret rfl c5_36 (by decide) (by decide) (by decide) ⟨_, rfl, (by simp [own_can, own_c1, s2]), rfl⟩
  · refine go_iincX (x' := 3) c5_20 rfl (by decide) ?_
    dsimp only [setl]
    refine go_goto c5_23 ?_
    refine go_iload c5_2 rfl ?_
    refine go_iload c5_3 rfl ?_
    refine go_icmp_ge c5_4 (fun q => absurd q (by decide)) (fun _ => ?_)
    refine go_aload c5_7 rfl rfl ?_
    refine go_iload c5_8 rfl ?_
    refine go_baloadH P0 (0) c5_9 rfl (by decide) rfl ?_
    refine go_push c5_10 ?_
    refine go_iand c5_13 ?_
    refine go_isI (Int32.ofNat (own_oct b3)) ((own_nb b3).trans (own_oct_eq b3)) ?_
    refine go_callS1 (y := (⟨"com/example/bouncr/bouncr/PathPattern", "isCanonical", "([BII)Z"⟩ : MethodName)) (W := 0) (argsL := [(.int (Int32.ofNat (own_oct b3)))]) (st := []) c5_14 (rm_st2 l Z a0 hw h0 n0 _ P0 kd kc Sk Ak hsz Tk (own_oct b3) (own_oct_lt b3)) (t20 hw) (t21 hw) (t18 hw) (t22 hw) (by decide) (lenOf pd0 rfl) rfl rfl (by decide) (by decide) (by decide) (by decide) rfl ?_
    rintro _ _ ⟨rfl, rfl⟩
    refine go_more (k' := 0) (n' := 0) (by decide) (by decide) ?_
    refine go_if_eq c5_17 (fun s3 => ?_) (fun s3 => ?_)
    · refine go_iload c5_26 rfl ?_
      refine go_iload c5_27 rfl ?_
      refine go_icmp_ne c5_28 (fun _ => ?_) (fun q => absurd q (by decide))
      refine go_push c5_35 ?_
      exact go_bret rfl c5_36 (by decide) (by decide) (by decide) ⟨_, rfl, (by simp [own_can, own_c1, s2, s3]), rfl⟩
    · refine go_iincX (x' := 4) c5_20 rfl (by decide) ?_
      dsimp only [setl]
      refine go_goto c5_23 ?_
      refine go_iload c5_2 rfl ?_
      refine go_iload c5_3 rfl ?_
      refine go_icmp_ge c5_4 (fun q => absurd q (by decide)) (fun _ => ?_)
      refine go_aload c5_7 rfl rfl ?_
      refine go_iload c5_8 rfl ?_
      refine go_baloadH P0 (0) c5_9 rfl (by decide) rfl ?_
      refine go_push c5_10 ?_
      refine go_iand c5_13 ?_
      refine go_isI (Int32.ofNat (own_oct b4)) ((own_nb b4).trans (own_oct_eq b4)) ?_
      refine go_callS1 (y := (⟨"com/example/bouncr/bouncr/PathPattern", "isCanonical", "([BII)Z"⟩ : MethodName)) (W := 0) (argsL := [(.int (Int32.ofNat (own_oct b4)))]) (st := []) c5_14 (rm_st2 l Z a0 hw h0 n0 _ P0 kd kc Sk Ak hsz Tk (own_oct b4) (own_oct_lt b4)) (t20 hw) (t21 hw) (t18 hw) (t22 hw) (by decide) (lenOf pd0 rfl) rfl rfl (by decide) (by decide) (by decide) (by decide) rfl ?_
      rintro _ _ ⟨rfl, rfl⟩
      refine go_more (k' := 0) (n' := 0) (by decide) (by decide) ?_
      refine go_if_eq c5_17 (fun s4 => ?_) (fun s4 => ?_)
      · refine go_iload c5_26 rfl ?_
        refine go_iload c5_27 rfl ?_
        refine go_icmp_ne c5_28 (fun _ => ?_) (fun q => absurd q (by decide))
        refine go_push c5_35 ?_
        exact go_bret rfl c5_36 (by decide) (by decide) (by decide) ⟨_, rfl, (by simp [own_can, own_c1, s2, s3, s4]), rfl⟩
      · refine go_iincX (x' := 5) c5_20 rfl (by decide) ?_
        dsimp only [setl]
        refine go_goto c5_23 ?_
        refine go_iload c5_2 rfl ?_
        refine go_iload c5_3 rfl ?_
        refine go_icmp_ge c5_4 (fun _ => ?_) (fun q => absurd q (by decide))
        refine go_iload c5_26 rfl ?_
        refine go_iload c5_27 rfl ?_
        refine go_icmp_ne c5_28 (fun q => absurd q (by decide)) (fun _ => ?_)
        refine go_push c5_31 ?_
        refine go_goto c5_32 ?_
        exact go_bret rfl c5_36 (by decide) (by decide) (by decide) ⟨_, rfl, (by simp [own_can, own_c1, s2, s3, s4]), rfl⟩
set_option maxRecDepth 65536 in
set_option maxHeartbeats 4000000 in
theorem rm_can3_3 (l : Launch) (Z : State) (a0 : Array Value) (hw : ∀ d ∈ tables_1, d.before a0 Z = true) (h0 : Heap) (n0 : Nat) (ar : Addr) (b0 b1 b2 b3 b4 : Int32) (P0 : Hp Z n0 h0 [(ar, (.inr (.byte, "[B", [(.int (nar .byte b0.toInt8.toInt32)), (.int (nar .byte b1.toInt8.toInt32)), (.int (nar .byte b2.toInt8.toInt32)), (.int (nar .byte b3.toInt8.toInt32)), (.int (nar .byte b4.toInt8.toInt32))])))]) (kd : Addr) (kc : Cell) (Sk : Sta Z Z.heap "com/example/bouncr/bouncr/PathPattern" "KINDS" "[B" (.ref kd)) (Ak : Arr Z Z.heap kd kc .byte) (hsz : kc.slots.size = 256) (Tk : ∀ j, j < 256 → kc.slots[j]? = some (.int (own_kd j))) :
    Con false l Z (⟨"com/example/bouncr/bouncr/PathPattern", "isCanonical", "([BII)Z"⟩ : MethodName) prog_12_method_2_code 4 (some .boolean) ({ frames := 1, cells := 0, slots := 0, locals := 12 } : Room) #[(.ref ar), (.int 3), (.int 3)] h0 n0 (Ret (.int (own_can 3 3 (own_saw (Int32.ofNat (own_oct b0))) (own_saw (Int32.ofNat (own_oct b1))) (own_saw (Int32.ofNat (own_oct b2))) (own_saw (Int32.ofNat (own_oct b3))) (own_saw (Int32.ofNat (own_oct b4))))) h0) := by
  refine con_of (ls := [.val (.ref ar), .val (.int 3), .val (.int 3), .unset]) (plainFor_of_name pn1) rfl ?_
  refine go_iload c5_0 rfl ?_
  refine go_istore c5_1 rfl rfl ?_
  dsimp only [setl]
  refine go_iload c5_2 rfl ?_
  refine go_iload c5_3 rfl ?_
  refine go_icmp_ge c5_4 (fun _ => ?_) (fun q => absurd q (by decide))
  refine go_iload c5_26 rfl ?_
  refine go_iload c5_27 rfl ?_
  refine go_icmp_ne c5_28 (fun q => absurd q (by decide)) (fun _ => ?_)
  refine go_push c5_31 ?_
  refine go_goto c5_32 ?_
  exact go_bret rfl c5_36 (by decide) (by decide) (by decide) ⟨_, rfl, (by simp [own_can, own_c1]), rfl⟩
set_option maxRecDepth 65536 in
set_option maxHeartbeats 4000000 in
theorem rm_can3_4 (l : Launch) (Z : State) (a0 : Array Value) (hw : ∀ d ∈ tables_1, d.before a0 Z = true) (h0 : Heap) (n0 : Nat) (ar : Addr) (b0 b1 b2 b3 b4 : Int32) (P0 : Hp Z n0 h0 [(ar, (.inr (.byte, "[B", [(.int (nar .byte b0.toInt8.toInt32)), (.int (nar .byte b1.toInt8.toInt32)), (.int (nar .byte b2.toInt8.toInt32)), (.int (nar .byte b3.toInt8.toInt32)), (.int (nar .byte b4.toInt8.toInt32))])))]) (kd : Addr) (kc : Cell) (Sk : Sta Z Z.heap "com/example/bouncr/bouncr/PathPattern" "KINDS" "[B" (.ref kd)) (Ak : Arr Z Z.heap kd kc .byte) (hsz : kc.slots.size = 256) (Tk : ∀ j, j < 256 → kc.slots[j]? = some (.int (own_kd j))) :
    Con false l Z (⟨"com/example/bouncr/bouncr/PathPattern", "isCanonical", "([BII)Z"⟩ : MethodName) prog_12_method_2_code 4 (some .boolean) ({ frames := 1, cells := 0, slots := 0, locals := 12 } : Room) #[(.ref ar), (.int 3), (.int 4)] h0 n0 (Ret (.int (own_can 3 4 (own_saw (Int32.ofNat (own_oct b0))) (own_saw (Int32.ofNat (own_oct b1))) (own_saw (Int32.ofNat (own_oct b2))) (own_saw (Int32.ofNat (own_oct b3))) (own_saw (Int32.ofNat (own_oct b4))))) h0) := by
  refine con_of (ls := [.val (.ref ar), .val (.int 3), .val (.int 4), .unset]) (plainFor_of_name pn1) rfl ?_
  refine go_iload c5_0 rfl ?_
  refine go_istore c5_1 rfl rfl ?_
  dsimp only [setl]
  refine go_iload c5_2 rfl ?_
  refine go_iload c5_3 rfl ?_
  refine go_icmp_ge c5_4 (fun q => absurd q (by decide)) (fun _ => ?_)
  refine go_aload c5_7 rfl rfl ?_
  refine go_iload c5_8 rfl ?_
  refine go_baloadH P0 (0) c5_9 rfl (by decide) rfl ?_
  refine go_push c5_10 ?_
  refine go_iand c5_13 ?_
  refine go_isI (Int32.ofNat (own_oct b3)) ((own_nb b3).trans (own_oct_eq b3)) ?_
  refine go_callS1 (y := (⟨"com/example/bouncr/bouncr/PathPattern", "isCanonical", "([BII)Z"⟩ : MethodName)) (W := 0) (argsL := [(.int (Int32.ofNat (own_oct b3)))]) (st := []) c5_14 (rm_st2 l Z a0 hw h0 n0 _ P0 kd kc Sk Ak hsz Tk (own_oct b3) (own_oct_lt b3)) (t20 hw) (t21 hw) (t18 hw) (t22 hw) (by decide) (lenOf pd0 rfl) rfl rfl (by decide) (by decide) (by decide) (by decide) rfl ?_
  rintro _ _ ⟨rfl, rfl⟩
  refine go_more (k' := 0) (n' := 0) (by decide) (by decide) ?_
  refine go_if_eq c5_17 (fun s3 => ?_) (fun s3 => ?_)
  · refine go_iload c5_26 rfl ?_
    refine go_iload c5_27 rfl ?_
    refine go_icmp_ne c5_28 (fun _ => ?_) (fun q => absurd q (by decide))
    refine go_push c5_35 ?_
    exact go_bret rfl c5_36 (by decide) (by decide) (by decide) ⟨_, rfl, (by simp [own_can, own_c1, s3]), rfl⟩
  · refine go_iincX (x' := 4) c5_20 rfl (by decide) ?_
    dsimp only [setl]
    refine go_goto c5_23 ?_
    refine go_iload c5_2 rfl ?_
    refine go_iload c5_3 rfl ?_
    refine go_icmp_ge c5_4 (fun _ => ?_) (fun q => absurd q (by decide))
    refine go_iload c5_26 rfl ?_
    refine go_iload c5_27 rfl ?_
    refine go_icmp_ne c5_28 (fun q => absurd q (by decide)) (fun _ => ?_)
    refine go_push c5_31 ?_
    refine go_goto c5_32 ?_
    exact go_bret rfl c5_36 (by decide) (by decide) (by decide) ⟨_, rfl, (by simp [own_can, own_c1, s3]), rfl⟩
set_option maxRecDepth 65536 in
set_option maxHeartbeats 4000000 in
theorem rm_can3_5 (l : Launch) (Z : State) (a0 : Array Value) (hw : ∀ d ∈ tables_1, d.before a0 Z = true) (h0 : Heap) (n0 : Nat) (ar : Addr) (b0 b1 b2 b3 b4 : Int32) (P0 : Hp Z n0 h0 [(ar, (.inr (.byte, "[B", [(.int (nar .byte b0.toInt8.toInt32)), (.int (nar .byte b1.toInt8.toInt32)), (.int (nar .byte b2.toInt8.toInt32)), (.int (nar .byte b3.toInt8.toInt32)), (.int (nar .byte b4.toInt8.toInt32))])))]) (kd : Addr) (kc : Cell) (Sk : Sta Z Z.heap "com/example/bouncr/bouncr/PathPattern" "KINDS" "[B" (.ref kd)) (Ak : Arr Z Z.heap kd kc .byte) (hsz : kc.slots.size = 256) (Tk : ∀ j, j < 256 → kc.slots[j]? = some (.int (own_kd j))) :
    Con false l Z (⟨"com/example/bouncr/bouncr/PathPattern", "isCanonical", "([BII)Z"⟩ : MethodName) prog_12_method_2_code 4 (some .boolean) ({ frames := 1, cells := 0, slots := 0, locals := 12 } : Room) #[(.ref ar), (.int 3), (.int 5)] h0 n0 (Ret (.int (own_can 3 5 (own_saw (Int32.ofNat (own_oct b0))) (own_saw (Int32.ofNat (own_oct b1))) (own_saw (Int32.ofNat (own_oct b2))) (own_saw (Int32.ofNat (own_oct b3))) (own_saw (Int32.ofNat (own_oct b4))))) h0) := by
  refine con_of (ls := [.val (.ref ar), .val (.int 3), .val (.int 5), .unset]) (plainFor_of_name pn1) rfl ?_
  refine go_iload c5_0 rfl ?_
  refine go_istore c5_1 rfl rfl ?_
  dsimp only [setl]
  refine go_iload c5_2 rfl ?_
  refine go_iload c5_3 rfl ?_
  refine go_icmp_ge c5_4 (fun q => absurd q (by decide)) (fun _ => ?_)
  refine go_aload c5_7 rfl rfl ?_
  refine go_iload c5_8 rfl ?_
  refine go_baloadH P0 (0) c5_9 rfl (by decide) rfl ?_
  refine go_push c5_10 ?_
  refine go_iand c5_13 ?_
  refine go_isI (Int32.ofNat (own_oct b3)) ((own_nb b3).trans (own_oct_eq b3)) ?_
  refine go_callS1 (y := (⟨"com/example/bouncr/bouncr/PathPattern", "isCanonical", "([BII)Z"⟩ : MethodName)) (W := 0) (argsL := [(.int (Int32.ofNat (own_oct b3)))]) (st := []) c5_14 (rm_st2 l Z a0 hw h0 n0 _ P0 kd kc Sk Ak hsz Tk (own_oct b3) (own_oct_lt b3)) (t20 hw) (t21 hw) (t18 hw) (t22 hw) (by decide) (lenOf pd0 rfl) rfl rfl (by decide) (by decide) (by decide) (by decide) rfl ?_
  rintro _ _ ⟨rfl, rfl⟩
  refine go_more (k' := 0) (n' := 0) (by decide) (by decide) ?_
  refine go_if_eq c5_17 (fun s3 => ?_) (fun s3 => ?_)
  · refine go_iload c5_26 rfl ?_
    refine go_iload c5_27 rfl ?_
    refine go_icmp_ne c5_28 (fun _ => ?_) (fun q => absurd q (by decide))
    refine go_push c5_35 ?_
    exact go_bret rfl c5_36 (by decide) (by decide) (by decide) ⟨_, rfl, (by simp [own_can, own_c1, s3]), rfl⟩
  · refine go_iincX (x' := 4) c5_20 rfl (by decide) ?_
    dsimp only [setl]
    refine go_goto c5_23 ?_
    refine go_iload c5_2 rfl ?_
    refine go_iload c5_3 rfl ?_
    refine go_icmp_ge c5_4 (fun q => absurd q (by decide)) (fun _ => ?_)
    refine go_aload c5_7 rfl rfl ?_
    refine go_iload c5_8 rfl ?_
    refine go_baloadH P0 (0) c5_9 rfl (by decide) rfl ?_
    refine go_push c5_10 ?_
    refine go_iand c5_13 ?_
    refine go_isI (Int32.ofNat (own_oct b4)) ((own_nb b4).trans (own_oct_eq b4)) ?_
    refine go_callS1 (y := (⟨"com/example/bouncr/bouncr/PathPattern", "isCanonical", "([BII)Z"⟩ : MethodName)) (W := 0) (argsL := [(.int (Int32.ofNat (own_oct b4)))]) (st := []) c5_14 (rm_st2 l Z a0 hw h0 n0 _ P0 kd kc Sk Ak hsz Tk (own_oct b4) (own_oct_lt b4)) (t20 hw) (t21 hw) (t18 hw) (t22 hw) (by decide) (lenOf pd0 rfl) rfl rfl (by decide) (by decide) (by decide) (by decide) rfl ?_
    rintro _ _ ⟨rfl, rfl⟩
    refine go_more (k' := 0) (n' := 0) (by decide) (by decide) ?_
    refine go_if_eq c5_17 (fun s4 => ?_) (fun s4 => ?_)
    · refine go_iload c5_26 rfl ?_
      refine go_iload c5_27 rfl ?_
      refine go_icmp_ne c5_28 (fun _ => ?_) (fun q => absurd q (by decide))
      refine go_push c5_35 ?_
      exact go_bret rfl c5_36 (by decide) (by decide) (by decide) ⟨_, rfl, (by simp [own_can, own_c1, s3, s4]), rfl⟩
    · refine go_iincX (x' := 5) c5_20 rfl (by decide) ?_
      dsimp only [setl]
      refine go_goto c5_23 ?_
      refine go_iload c5_2 rfl ?_
      refine go_iload c5_3 rfl ?_
      refine go_icmp_ge c5_4 (fun _ => ?_) (fun q => absurd q (by decide))
      refine go_iload c5_26 rfl ?_
      refine go_iload c5_27 rfl ?_
      refine go_icmp_ne c5_28 (fun q => absurd q (by decide)) (fun _ => ?_)
      refine go_push c5_31 ?_
      refine go_goto c5_32 ?_
      exact go_bret rfl c5_36 (by decide) (by decide) (by decide) ⟨_, rfl, (by simp [own_can, own_c1, s3, s4]), rfl⟩
set_option maxRecDepth 65536 in
set_option maxHeartbeats 4000000 in
theorem rm_can4_4 (l : Launch) (Z : State) (a0 : Array Value) (hw : ∀ d ∈ tables_1, d.before a0 Z = true) (h0 : Heap) (n0 : Nat) (ar : Addr) (b0 b1 b2 b3 b4 : Int32) (P0 : Hp Z n0 h0 [(ar, (.inr (.byte, "[B", [(.int (nar .byte b0.toInt8.toInt32)), (.int (nar .byte b1.toInt8.toInt32)), (.int (nar .byte b2.toInt8.toInt32)), (.int (nar .byte b3.toInt8.toInt32)), (.int (nar .byte b4.toInt8.toInt32))])))]) (kd : Addr) (kc : Cell) (Sk : Sta Z Z.heap "com/example/bouncr/bouncr/PathPattern" "KINDS" "[B" (.ref kd)) (Ak : Arr Z Z.heap kd kc .byte) (hsz : kc.slots.size = 256) (Tk : ∀ j, j < 256 → kc.slots[j]? = some (.int (own_kd j))) :
    Con false l Z (⟨"com/example/bouncr/bouncr/PathPattern", "isCanonical", "([BII)Z"⟩ : MethodName) prog_12_method_2_code 4 (some .boolean) ({ frames := 1, cells := 0, slots := 0, locals := 12 } : Room) #[(.ref ar), (.int 4), (.int 4)] h0 n0 (Ret (.int (own_can 4 4 (own_saw (Int32.ofNat (own_oct b0))) (own_saw (Int32.ofNat (own_oct b1))) (own_saw (Int32.ofNat (own_oct b2))) (own_saw (Int32.ofNat (own_oct b3))) (own_saw (Int32.ofNat (own_oct b4))))) h0) := by
  refine con_of (ls := [.val (.ref ar), .val (.int 4), .val (.int 4), .unset]) (plainFor_of_name pn1) rfl ?_
  refine go_iload c5_0 rfl ?_
  refine go_istore c5_1 rfl rfl ?_
  dsimp only [setl]
  refine go_iload c5_2 rfl ?_
  refine go_iload c5_3 rfl ?_
  refine go_icmp_ge c5_4 (fun _ => ?_) (fun q => absurd q (by decide))
  refine go_iload c5_26 rfl ?_
  refine go_iload c5_27 rfl ?_
  refine go_icmp_ne c5_28 (fun q => absurd q (by decide)) (fun _ => ?_)
  refine go_push c5_31 ?_
  refine go_goto c5_32 ?_
  exact go_bret rfl c5_36 (by decide) (by decide) (by decide) ⟨_, rfl, (by simp [own_can, own_c1]), rfl⟩
set_option maxRecDepth 65536 in
set_option maxHeartbeats 4000000 in
theorem rm_can4_5 (l : Launch) (Z : State) (a0 : Array Value) (hw : ∀ d ∈ tables_1, d.before a0 Z = true) (h0 : Heap) (n0 : Nat) (ar : Addr) (b0 b1 b2 b3 b4 : Int32) (P0 : Hp Z n0 h0 [(ar, (.inr (.byte, "[B", [(.int (nar .byte b0.toInt8.toInt32)), (.int (nar .byte b1.toInt8.toInt32)), (.int (nar .byte b2.toInt8.toInt32)), (.int (nar .byte b3.toInt8.toInt32)), (.int (nar .byte b4.toInt8.toInt32))])))]) (kd : Addr) (kc : Cell) (Sk : Sta Z Z.heap "com/example/bouncr/bouncr/PathPattern" "KINDS" "[B" (.ref kd)) (Ak : Arr Z Z.heap kd kc .byte) (hsz : kc.slots.size = 256) (Tk : ∀ j, j < 256 → kc.slots[j]? = some (.int (own_kd j))) :
    Con false l Z (⟨"com/example/bouncr/bouncr/PathPattern", "isCanonical", "([BII)Z"⟩ : MethodName) prog_12_method_2_code 4 (some .boolean) ({ frames := 1, cells := 0, slots := 0, locals := 12 } : Room) #[(.ref ar), (.int 4), (.int 5)] h0 n0 (Ret (.int (own_can 4 5 (own_saw (Int32.ofNat (own_oct b0))) (own_saw (Int32.ofNat (own_oct b1))) (own_saw (Int32.ofNat (own_oct b2))) (own_saw (Int32.ofNat (own_oct b3))) (own_saw (Int32.ofNat (own_oct b4))))) h0) := by
  refine con_of (ls := [.val (.ref ar), .val (.int 4), .val (.int 5), .unset]) (plainFor_of_name pn1) rfl ?_
  refine go_iload c5_0 rfl ?_
  refine go_istore c5_1 rfl rfl ?_
  dsimp only [setl]
  refine go_iload c5_2 rfl ?_
  refine go_iload c5_3 rfl ?_
  refine go_icmp_ge c5_4 (fun q => absurd q (by decide)) (fun _ => ?_)
  refine go_aload c5_7 rfl rfl ?_
  refine go_iload c5_8 rfl ?_
  refine go_baloadH P0 (0) c5_9 rfl (by decide) rfl ?_
  refine go_push c5_10 ?_
  refine go_iand c5_13 ?_
  refine go_isI (Int32.ofNat (own_oct b4)) ((own_nb b4).trans (own_oct_eq b4)) ?_
  refine go_callS1 (y := (⟨"com/example/bouncr/bouncr/PathPattern", "isCanonical", "([BII)Z"⟩ : MethodName)) (W := 0) (argsL := [(.int (Int32.ofNat (own_oct b4)))]) (st := []) c5_14 (rm_st2 l Z a0 hw h0 n0 _ P0 kd kc Sk Ak hsz Tk (own_oct b4) (own_oct_lt b4)) (t20 hw) (t21 hw) (t18 hw) (t22 hw) (by decide) (lenOf pd0 rfl) rfl rfl (by decide) (by decide) (by decide) (by decide) rfl ?_
  rintro _ _ ⟨rfl, rfl⟩
  refine go_more (k' := 0) (n' := 0) (by decide) (by decide) ?_
  refine go_if_eq c5_17 (fun s4 => ?_) (fun s4 => ?_)
  · refine go_iload c5_26 rfl ?_
    refine go_iload c5_27 rfl ?_
    refine go_icmp_ne c5_28 (fun _ => ?_) (fun q => absurd q (by decide))
    refine go_push c5_35 ?_
    exact go_bret rfl c5_36 (by decide) (by decide) (by decide) ⟨_, rfl, (by simp [own_can, own_c1, s4]), rfl⟩
  · refine go_iincX (x' := 5) c5_20 rfl (by decide) ?_
    dsimp only [setl]
    refine go_goto c5_23 ?_
    refine go_iload c5_2 rfl ?_
    refine go_iload c5_3 rfl ?_
    refine go_icmp_ge c5_4 (fun _ => ?_) (fun q => absurd q (by decide))
    refine go_iload c5_26 rfl ?_
    refine go_iload c5_27 rfl ?_
    refine go_icmp_ne c5_28 (fun q => absurd q (by decide)) (fun _ => ?_)
    refine go_push c5_31 ?_
    refine go_goto c5_32 ?_
    exact go_bret rfl c5_36 (by decide) (by decide) (by decide) ⟨_, rfl, (by simp [own_can, own_c1, s4]), rfl⟩
set_option maxRecDepth 65536 in
set_option maxHeartbeats 4000000 in
theorem rm_can5_5 (l : Launch) (Z : State) (a0 : Array Value) (hw : ∀ d ∈ tables_1, d.before a0 Z = true) (h0 : Heap) (n0 : Nat) (ar : Addr) (b0 b1 b2 b3 b4 : Int32) (P0 : Hp Z n0 h0 [(ar, (.inr (.byte, "[B", [(.int (nar .byte b0.toInt8.toInt32)), (.int (nar .byte b1.toInt8.toInt32)), (.int (nar .byte b2.toInt8.toInt32)), (.int (nar .byte b3.toInt8.toInt32)), (.int (nar .byte b4.toInt8.toInt32))])))]) (kd : Addr) (kc : Cell) (Sk : Sta Z Z.heap "com/example/bouncr/bouncr/PathPattern" "KINDS" "[B" (.ref kd)) (Ak : Arr Z Z.heap kd kc .byte) (hsz : kc.slots.size = 256) (Tk : ∀ j, j < 256 → kc.slots[j]? = some (.int (own_kd j))) :
    Con false l Z (⟨"com/example/bouncr/bouncr/PathPattern", "isCanonical", "([BII)Z"⟩ : MethodName) prog_12_method_2_code 4 (some .boolean) ({ frames := 1, cells := 0, slots := 0, locals := 12 } : Room) #[(.ref ar), (.int 5), (.int 5)] h0 n0 (Ret (.int (own_can 5 5 (own_saw (Int32.ofNat (own_oct b0))) (own_saw (Int32.ofNat (own_oct b1))) (own_saw (Int32.ofNat (own_oct b2))) (own_saw (Int32.ofNat (own_oct b3))) (own_saw (Int32.ofNat (own_oct b4))))) h0) := by
  refine con_of (ls := [.val (.ref ar), .val (.int 5), .val (.int 5), .unset]) (plainFor_of_name pn1) rfl ?_
  refine go_iload c5_0 rfl ?_
  refine go_istore c5_1 rfl rfl ?_
  dsimp only [setl]
  refine go_iload c5_2 rfl ?_
  refine go_iload c5_3 rfl ?_
  refine go_icmp_ge c5_4 (fun _ => ?_) (fun q => absurd q (by decide))
  refine go_iload c5_26 rfl ?_
  refine go_iload c5_27 rfl ?_
  refine go_icmp_ne c5_28 (fun q => absurd q (by decide)) (fun _ => ?_)
  refine go_push c5_31 ?_
  refine go_goto c5_32 ?_
  exact go_bret rfl c5_36 (by decide) (by decide) (by decide) ⟨_, rfl, (by simp [own_can, own_c1]), rfl⟩
set_option maxRecDepth 65536 in
set_option maxHeartbeats 4000000 in
theorem rm_ok_out1 (l : Launch) (Z : State) (a0 : Array Value) (hw : ∀ d ∈ tables_1, d.before a0 Z = true) (h0 : Heap) (n0 : Nat) (M : List (Addr × Desc)) (P0 : Hp Z n0 h0 M) (i f t b : Int32) (hq : i < f) :
    Con false l Z (⟨"com/example/bouncr/bouncr/PathPatternIsCanonicalPinLaw", "okAt", "(IIII)Z"⟩ : MethodName) method_3_code 4 (some .boolean) ({ frames := 1, cells := 0, slots := 0, locals := 12 } : Room) #[(.int i), (.int f), (.int t), (.int b)] h0 n0 (Ret (.int 1) h0) := by
  refine con_of (ls := [.val (.int i), .val (.int f), .val (.int t), .val (.int b)]) (plainFor_of_name pn0) rfl ?_
  refine go_iload c3_0 rfl ?_
  refine go_iload c3_1 rfl ?_
  refine go_icmp_lt c3_2 (fun _ => ?_) (fun q => absurd hq q)
  refine go_push c3_21 ?_
  refine go_goto c3_22 ?_
  exact go_bret rfl c3_26 (by decide) (by decide) (by decide) ⟨_, rfl, rfl, rfl⟩
set_option maxRecDepth 65536 in
set_option maxHeartbeats 4000000 in
theorem rm_ok_out2 (l : Launch) (Z : State) (a0 : Array Value) (hw : ∀ d ∈ tables_1, d.before a0 Z = true) (h0 : Heap) (n0 : Nat) (M : List (Addr × Desc)) (P0 : Hp Z n0 h0 M) (i f t b : Int32) (hq : ¬ i < f ∧ ¬ i < t) :
    Con false l Z (⟨"com/example/bouncr/bouncr/PathPatternIsCanonicalPinLaw", "okAt", "(IIII)Z"⟩ : MethodName) method_3_code 4 (some .boolean) ({ frames := 1, cells := 0, slots := 0, locals := 12 } : Room) #[(.int i), (.int f), (.int t), (.int b)] h0 n0 (Ret (.int 1) h0) := by
  refine con_of (ls := [.val (.int i), .val (.int f), .val (.int t), .val (.int b)]) (plainFor_of_name pn0) rfl ?_
  refine go_iload c3_0 rfl ?_
  refine go_iload c3_1 rfl ?_
  refine go_icmp_lt c3_2 (fun q => absurd q hq.1) (fun _ => ?_)
  refine go_iload c3_5 rfl ?_
  refine go_iload c3_6 rfl ?_
  refine go_icmp_ge c3_7 (fun _ => ?_) (fun q => absurd q hq.2)
  refine go_push c3_21 ?_
  refine go_goto c3_22 ?_
  exact go_bret rfl c3_26 (by decide) (by decide) (by decide) ⟨_, rfl, rfl, rfl⟩
set_option maxRecDepth 65536 in
set_option maxHeartbeats 4000000 in
theorem rm_ok_in (l : Launch) (Z : State) (a0 : Array Value) (hw : ∀ d ∈ tables_1, d.before a0 Z = true) (h0 : Heap) (n0 : Nat) (M : List (Addr × Desc)) (P0 : Hp Z n0 h0 M) (i f t b : Int32) (hq : ¬ i < f ∧ i < t) :
    Con false l Z (⟨"com/example/bouncr/bouncr/PathPatternIsCanonicalPinLaw", "okAt", "(IIII)Z"⟩ : MethodName) method_3_code 4 (some .boolean) ({ frames := 1, cells := 0, slots := 0, locals := 12 } : Room) #[(.int i), (.int f), (.int t), (.int b)] h0 n0 (Ret (.int (own_saw (Int32.ofNat (own_oct b)))) h0) := by
  refine con_of (ls := [.val (.int i), .val (.int f), .val (.int t), .val (.int b)]) (plainFor_of_name pn0) rfl ?_
  refine go_iload c3_0 rfl ?_
  refine go_iload c3_1 rfl ?_
  refine go_icmp_lt c3_2 (fun q => absurd q hq.1) (fun _ => ?_)
  refine go_iload c3_5 rfl ?_
  refine go_iload c3_6 rfl ?_
  refine go_icmp_ge c3_7 (fun q => absurd hq.2 q) (fun _ => ?_)
  refine go_iload c3_10 rfl ?_
  refine go_push c3_11 ?_
  refine go_iand c3_14 ?_
  refine go_isI (Int32.ofNat (own_oct b)) (own_oct_eq b) ?_
  refine go_callS1 (y := (⟨"com/example/bouncr/bouncr/PathPatternIsCanonicalPinLaw", "okAt", "(IIII)Z"⟩ : MethodName)) (W := 0) (argsL := [(.int (Int32.ofNat (own_oct b)))]) (st := []) c3_15 (rm_st1 l Z a0 hw h0 n0 _ P0 (Int32.ofNat (own_oct b))) (t13 hw) (t14 hw) (t11 hw) (t15 hw) (by decide) (lenOf pd0 rfl) rfl rfl (by decide) (by decide) (by decide) (by decide) rfl ?_
  rintro _ _ ⟨rfl, rfl⟩
  refine go_more (k' := 0) (n' := 0) (by decide) (by decide) ?_
  refine go_if_eq c3_18 (fun b18 => ?_) (fun b18 => ?_)
  · refine go_push c3_25 ?_
    exact go_bret rfl c3_26 (by decide) (by decide) (by decide) ⟨_, rfl, congrArg Value.int b18.symm, rfl⟩
  · refine go_push c3_21 ?_
    refine go_goto c3_22 ?_
    exact go_bret rfl c3_26 (by decide) (by decide) (by decide) ⟨_, rfl, congrArg Value.int ((own_saw01 _).resolve_left b18).symm, rfl⟩
set_option maxRecDepth 65536 in
set_option maxHeartbeats 4000000 in
theorem rm_min (l : Launch) (Z : State) (a0 : Array Value) (hw : ∀ d ∈ tables_1, d.before a0 Z = true) (h0 : Heap) (n0 : Nat) (a b : Int32) :
    Con false l Z (⟨"java/lang/Math", "min", "(II)I"⟩ : MethodName) jdk_29_method_69_code 2 (some .int) ({ frames := 0, cells := 0, slots := 0, locals := 0 } : Room) #[(.int a), (.int b)] h0 n0 (Ret (.int (own_min a b)) h0) := by
  refine con_of (ls := [.val (.int a), .val (.int b)]) (Jvm.Free.JP.mathPlain rfl (by decide +kernel)) rfl ?_
  refine go_iload c1_0 rfl ?_
  refine go_iload c1_1 rfl ?_
  refine go_icmp_gt c1_2 (fun b2 => ?_) (fun b2 => ?_)
  · refine go_iload c1_9 rfl ?_
    exact go_iret rfl c1_10 (by decide) (by decide) ⟨_, rfl, by simp [own_min, b2], rfl⟩
  · refine go_iload c1_5 rfl ?_
    refine go_goto c1_6 ?_
    exact go_iret rfl c1_10 (by decide) (by decide) ⟨_, rfl, by simp [own_min, b2], rfl⟩
set_option maxRecDepth 65536 in
set_option maxHeartbeats 4000000 in
theorem rm_max (l : Launch) (Z : State) (a0 : Array Value) (hw : ∀ d ∈ tables_1, d.before a0 Z = true) (h0 : Heap) (n0 : Nat) (a b : Int32) :
    Con false l Z (⟨"java/lang/Math", "max", "(II)I"⟩ : MethodName) jdk_29_method_65_code 2 (some .int) ({ frames := 0, cells := 0, slots := 0, locals := 0 } : Room) #[(.int a), (.int b)] h0 n0 (Ret (.int (own_max a b)) h0) := by
  refine con_of (ls := [.val (.int a), .val (.int b)]) (Jvm.Free.JP.mathPlain rfl (by decide +kernel)) rfl ?_
  refine go_iload c2_0 rfl ?_
  refine go_iload c2_1 rfl ?_
  refine go_icmp_lt c2_2 (fun b2 => ?_) (fun b2 => ?_)
  · refine go_iload c2_9 rfl ?_
    exact go_iret rfl c2_10 (by decide) (by decide) ⟨_, rfl, by simp [own_max, b2], rfl⟩
  · refine go_iload c2_5 rfl ?_
    refine go_goto c2_6 ?_
    exact go_iret rfl c2_10 (by decide) (by decide) ⟨_, rfl, by simp [own_max, b2], rfl⟩
set_option maxRecDepth 65536 in
set_option maxHeartbeats 4000000 in
theorem law_0_0 (l : Launch) (Z : State) (a0 : Array Value) (hw : ∀ d ∈ tables_1, d.before a0 Z = true) (h0 : Heap) (n0 : Nat) (ar : Addr) (b0 b1 b2 b3 b4 : Int32) (rg aa cc : Int32) (P0 : Hp Z n0 h0 [(ar, (.inr (.byte, "[B", [(.int (nar .byte b0.toInt8.toInt32)), (.int (nar .byte b1.toInt8.toInt32)), (.int (nar .byte b2.toInt8.toInt32)), (.int (nar .byte b3.toInt8.toInt32)), (.int (nar .byte b4.toInt8.toInt32))])))]) (kd : Addr) (kc : Cell) (Sk : Sta Z Z.heap "com/example/bouncr/bouncr/PathPattern" "KINDS" "[B" (.ref kd)) (Ak : Arr Z Z.heap kd kc .byte) (hsz : kc.slots.size = 256) (Tk : ∀ j, j < 256 → kc.slots[j]? = some (.int (own_kd j))) :
    Go false KT l Z room_1 x code maxLocals ret n0 room_1.cells room_1.slots (R1 fun w _ => w = .int 1) h0 1 5 72 [.val (.int b0), .val (.int b1), .val (.int b2), .val (.int b3), .val (.int b4), .val (.int rg), .val (.ref ar), .val (.int aa), .val (.int cc), .val (.int 0), .val (.int 0), .unset] [] := by
  have J138 : ∀ ex : Int32, own_can 0 0 (own_saw (Int32.ofNat (own_oct b0))) (own_saw (Int32.ofNat (own_oct b1))) (own_saw (Int32.ofNat (own_oct b2))) (own_saw (Int32.ofNat (own_oct b3))) (own_saw (Int32.ofNat (own_oct b4))) = ex → Go false KT l Z room_1 x code maxLocals ret n0 room_1.cells room_1.slots (R1 fun w _ => w = .int 1) h0 1 5 138 [.val (.int b0), .val (.int b1), .val (.int b2), .val (.int b3), .val (.int b4), .val (.int rg), .val (.ref ar), .val (.int aa), .val (.int cc), .val (.int 0), .val (.int 0), .unset] [(.int ex)] := by
    intro ex hex
    refine go_istore c0_138 rfl rfl ?_
    dsimp only [setl]
    refine go_aload c0_140 rfl rfl ?_
    refine go_iload c0_142 rfl ?_
    refine go_iload c0_144 rfl ?_
    refine go_callS1 (y := x) (W := 0) (argsL := [(.ref ar), (.int 0), (.int 0)]) (st := []) c0_146 (rm_can0_0 l Z a0 hw h0 n0 ar b0 b1 b2 b3 b4 P0 kd kc Sk Ak hsz Tk) (t16 hw) (t17 hw) (t18 hw) (t19 hw) (by decide) (lenOf pd1 rfl) rfl rfl (by decide) (by decide) (by decide) (by decide) rfl ?_
    rintro _ _ ⟨rfl, rfl⟩
    refine go_more (k' := 1) (n' := 5) (by decide) (by decide) ?_
    refine go_iload c0_149 rfl ?_
    refine go_icmp_ne c0_151 (fun b151 => ?_) (fun b151 => ?_)
    · exact absurd hex b151
    · refine go_push c0_154 ?_
      refine go_goto c0_155 ?_
      exact go_bret rfl c0_159 (by decide) (by decide) (by decide) ⟨_, rfl, rfl⟩
  refine go_push c0_72 ?_
  refine go_iload c0_73 rfl ?_
  refine go_iload c0_75 rfl ?_
  refine go_iload c0_77 rfl ?_
  refine go_callS1 (y := x) (W := 0) (argsL := [(.int 0), (.int 0), (.int 0), (.int b0)]) (st := []) c0_78 (rm_ok_out2 l Z a0 hw h0 n0 _ P0 0 0 0 b0 (by decide)) (t9 hw) (t10 hw) (t11 hw) (t12 hw) (by decide) (lenOf pd2 rfl) rfl rfl (by decide) (by decide) (by decide) (by decide) rfl ?_
  rintro _ _ ⟨rfl, rfl⟩
  refine go_more (k' := 1) (n' := 5) (by decide) (by decide) ?_
  refine go_if_eq c0_81 (fun q => absurd q (by decide)) (fun _ => ?_)
  refine go_push c0_84 ?_
  refine go_iload c0_85 rfl ?_
  refine go_iload c0_87 rfl ?_
  refine go_iload c0_89 rfl ?_
  refine go_callS1 (y := x) (W := 0) (argsL := [(.int 1), (.int 0), (.int 0), (.int b1)]) (st := []) c0_90 (rm_ok_out2 l Z a0 hw h0 n0 _ P0 1 0 0 b1 (by decide)) (t9 hw) (t10 hw) (t11 hw) (t12 hw) (by decide) (lenOf pd2 rfl) rfl rfl (by decide) (by decide) (by decide) (by decide) rfl ?_
  rintro _ _ ⟨rfl, rfl⟩
  refine go_more (k' := 1) (n' := 5) (by decide) (by decide) ?_
  refine go_if_eq c0_93 (fun q => absurd q (by decide)) (fun _ => ?_)
  refine go_push c0_96 ?_
  refine go_iload c0_97 rfl ?_
  refine go_iload c0_99 rfl ?_
  refine go_iload c0_101 rfl ?_
  refine go_callS1 (y := x) (W := 0) (argsL := [(.int 2), (.int 0), (.int 0), (.int b2)]) (st := []) c0_102 (rm_ok_out2 l Z a0 hw h0 n0 _ P0 2 0 0 b2 (by decide)) (t9 hw) (t10 hw) (t11 hw) (t12 hw) (by decide) (lenOf pd2 rfl) rfl rfl (by decide) (by decide) (by decide) (by decide) rfl ?_
  rintro _ _ ⟨rfl, rfl⟩
  refine go_more (k' := 1) (n' := 5) (by decide) (by decide) ?_
  refine go_if_eq c0_105 (fun q => absurd q (by decide)) (fun _ => ?_)
  refine go_push c0_108 ?_
  refine go_iload c0_109 rfl ?_
  refine go_iload c0_111 rfl ?_
  refine go_iload c0_113 rfl ?_
  refine go_callS1 (y := x) (W := 0) (argsL := [(.int 3), (.int 0), (.int 0), (.int b3)]) (st := []) c0_114 (rm_ok_out2 l Z a0 hw h0 n0 _ P0 3 0 0 b3 (by decide)) (t9 hw) (t10 hw) (t11 hw) (t12 hw) (by decide) (lenOf pd2 rfl) rfl rfl (by decide) (by decide) (by decide) (by decide) rfl ?_
  rintro _ _ ⟨rfl, rfl⟩
  refine go_more (k' := 1) (n' := 5) (by decide) (by decide) ?_
  refine go_if_eq c0_117 (fun q => absurd q (by decide)) (fun _ => ?_)
  refine go_push c0_120 ?_
  refine go_iload c0_121 rfl ?_
  refine go_iload c0_123 rfl ?_
  refine go_iload c0_125 rfl ?_
  refine go_callS1 (y := x) (W := 0) (argsL := [(.int 4), (.int 0), (.int 0), (.int b4)]) (st := []) c0_127 (rm_ok_out2 l Z a0 hw h0 n0 _ P0 4 0 0 b4 (by decide)) (t9 hw) (t10 hw) (t11 hw) (t12 hw) (by decide) (lenOf pd2 rfl) rfl rfl (by decide) (by decide) (by decide) (by decide) rfl ?_
  rintro _ _ ⟨rfl, rfl⟩
  refine go_more (k' := 1) (n' := 5) (by decide) (by decide) ?_
  refine go_if_eq c0_130 (fun q => absurd q (by decide)) (fun _ => ?_)
  refine go_push c0_133 ?_
  refine go_goto c0_134 ?_
  exact J138 _ (by simp [own_can, own_c1])
set_option maxRecDepth 65536 in
set_option maxHeartbeats 4000000 in
theorem law_0_1 (l : Launch) (Z : State) (a0 : Array Value) (hw : ∀ d ∈ tables_1, d.before a0 Z = true) (h0 : Heap) (n0 : Nat) (ar : Addr) (b0 b1 b2 b3 b4 : Int32) (rg aa cc : Int32) (P0 : Hp Z n0 h0 [(ar, (.inr (.byte, "[B", [(.int (nar .byte b0.toInt8.toInt32)), (.int (nar .byte b1.toInt8.toInt32)), (.int (nar .byte b2.toInt8.toInt32)), (.int (nar .byte b3.toInt8.toInt32)), (.int (nar .byte b4.toInt8.toInt32))])))]) (kd : Addr) (kc : Cell) (Sk : Sta Z Z.heap "com/example/bouncr/bouncr/PathPattern" "KINDS" "[B" (.ref kd)) (Ak : Arr Z Z.heap kd kc .byte) (hsz : kc.slots.size = 256) (Tk : ∀ j, j < 256 → kc.slots[j]? = some (.int (own_kd j))) :
    Go false KT l Z room_1 x code maxLocals ret n0 room_1.cells room_1.slots (R1 fun w _ => w = .int 1) h0 1 5 72 [.val (.int b0), .val (.int b1), .val (.int b2), .val (.int b3), .val (.int b4), .val (.int rg), .val (.ref ar), .val (.int aa), .val (.int cc), .val (.int 0), .val (.int 1), .unset] [] := by
  have J138 : ∀ ex : Int32, own_can 0 1 (own_saw (Int32.ofNat (own_oct b0))) (own_saw (Int32.ofNat (own_oct b1))) (own_saw (Int32.ofNat (own_oct b2))) (own_saw (Int32.ofNat (own_oct b3))) (own_saw (Int32.ofNat (own_oct b4))) = ex → Go false KT l Z room_1 x code maxLocals ret n0 room_1.cells room_1.slots (R1 fun w _ => w = .int 1) h0 1 5 138 [.val (.int b0), .val (.int b1), .val (.int b2), .val (.int b3), .val (.int b4), .val (.int rg), .val (.ref ar), .val (.int aa), .val (.int cc), .val (.int 0), .val (.int 1), .unset] [(.int ex)] := by
    intro ex hex
    refine go_istore c0_138 rfl rfl ?_
    dsimp only [setl]
    refine go_aload c0_140 rfl rfl ?_
    refine go_iload c0_142 rfl ?_
    refine go_iload c0_144 rfl ?_
    refine go_callS1 (y := x) (W := 0) (argsL := [(.ref ar), (.int 0), (.int 1)]) (st := []) c0_146 (rm_can0_1 l Z a0 hw h0 n0 ar b0 b1 b2 b3 b4 P0 kd kc Sk Ak hsz Tk) (t16 hw) (t17 hw) (t18 hw) (t19 hw) (by decide) (lenOf pd1 rfl) rfl rfl (by decide) (by decide) (by decide) (by decide) rfl ?_
    rintro _ _ ⟨rfl, rfl⟩
    refine go_more (k' := 1) (n' := 5) (by decide) (by decide) ?_
    refine go_iload c0_149 rfl ?_
    refine go_icmp_ne c0_151 (fun b151 => ?_) (fun b151 => ?_)
    · exact absurd hex b151
    · refine go_push c0_154 ?_
      refine go_goto c0_155 ?_
      exact go_bret rfl c0_159 (by decide) (by decide) (by decide) ⟨_, rfl, rfl⟩
  refine go_push c0_72 ?_
  refine go_iload c0_73 rfl ?_
  refine go_iload c0_75 rfl ?_
  refine go_iload c0_77 rfl ?_
  refine go_callS1 (y := x) (W := 0) (argsL := [(.int 0), (.int 0), (.int 1), (.int b0)]) (st := []) c0_78 (rm_ok_in l Z a0 hw h0 n0 _ P0 0 0 1 b0 (by decide)) (t9 hw) (t10 hw) (t11 hw) (t12 hw) (by decide) (lenOf pd2 rfl) rfl rfl (by decide) (by decide) (by decide) (by decide) rfl ?_
  rintro _ _ ⟨rfl, rfl⟩
  refine go_more (k' := 1) (n' := 5) (by decide) (by decide) ?_
  refine go_if_eq c0_81 (fun s0 => ?_) (fun s0 => ?_)
  · refine go_push c0_137 ?_
    exact J138 _ (by simp [own_can, own_c1, s0])
  · refine go_push c0_84 ?_
    refine go_iload c0_85 rfl ?_
    refine go_iload c0_87 rfl ?_
    refine go_iload c0_89 rfl ?_
    refine go_callS1 (y := x) (W := 0) (argsL := [(.int 1), (.int 0), (.int 1), (.int b1)]) (st := []) c0_90 (rm_ok_out2 l Z a0 hw h0 n0 _ P0 1 0 1 b1 (by decide)) (t9 hw) (t10 hw) (t11 hw) (t12 hw) (by decide) (lenOf pd2 rfl) rfl rfl (by decide) (by decide) (by decide) (by decide) rfl ?_
    rintro _ _ ⟨rfl, rfl⟩
    refine go_more (k' := 1) (n' := 5) (by decide) (by decide) ?_
    refine go_if_eq c0_93 (fun q => absurd q (by decide)) (fun _ => ?_)
    refine go_push c0_96 ?_
    refine go_iload c0_97 rfl ?_
    refine go_iload c0_99 rfl ?_
    refine go_iload c0_101 rfl ?_
    refine go_callS1 (y := x) (W := 0) (argsL := [(.int 2), (.int 0), (.int 1), (.int b2)]) (st := []) c0_102 (rm_ok_out2 l Z a0 hw h0 n0 _ P0 2 0 1 b2 (by decide)) (t9 hw) (t10 hw) (t11 hw) (t12 hw) (by decide) (lenOf pd2 rfl) rfl rfl (by decide) (by decide) (by decide) (by decide) rfl ?_
    rintro _ _ ⟨rfl, rfl⟩
    refine go_more (k' := 1) (n' := 5) (by decide) (by decide) ?_
    refine go_if_eq c0_105 (fun q => absurd q (by decide)) (fun _ => ?_)
    refine go_push c0_108 ?_
    refine go_iload c0_109 rfl ?_
    refine go_iload c0_111 rfl ?_
    refine go_iload c0_113 rfl ?_
    refine go_callS1 (y := x) (W := 0) (argsL := [(.int 3), (.int 0), (.int 1), (.int b3)]) (st := []) c0_114 (rm_ok_out2 l Z a0 hw h0 n0 _ P0 3 0 1 b3 (by decide)) (t9 hw) (t10 hw) (t11 hw) (t12 hw) (by decide) (lenOf pd2 rfl) rfl rfl (by decide) (by decide) (by decide) (by decide) rfl ?_
    rintro _ _ ⟨rfl, rfl⟩
    refine go_more (k' := 1) (n' := 5) (by decide) (by decide) ?_
    refine go_if_eq c0_117 (fun q => absurd q (by decide)) (fun _ => ?_)
    refine go_push c0_120 ?_
    refine go_iload c0_121 rfl ?_
    refine go_iload c0_123 rfl ?_
    refine go_iload c0_125 rfl ?_
    refine go_callS1 (y := x) (W := 0) (argsL := [(.int 4), (.int 0), (.int 1), (.int b4)]) (st := []) c0_127 (rm_ok_out2 l Z a0 hw h0 n0 _ P0 4 0 1 b4 (by decide)) (t9 hw) (t10 hw) (t11 hw) (t12 hw) (by decide) (lenOf pd2 rfl) rfl rfl (by decide) (by decide) (by decide) (by decide) rfl ?_
    rintro _ _ ⟨rfl, rfl⟩
    refine go_more (k' := 1) (n' := 5) (by decide) (by decide) ?_
    refine go_if_eq c0_130 (fun q => absurd q (by decide)) (fun _ => ?_)
    refine go_push c0_133 ?_
    refine go_goto c0_134 ?_
    exact J138 _ (by simp [own_can, own_c1, s0])
set_option maxRecDepth 65536 in
set_option maxHeartbeats 4000000 in
theorem law_0_2 (l : Launch) (Z : State) (a0 : Array Value) (hw : ∀ d ∈ tables_1, d.before a0 Z = true) (h0 : Heap) (n0 : Nat) (ar : Addr) (b0 b1 b2 b3 b4 : Int32) (rg aa cc : Int32) (P0 : Hp Z n0 h0 [(ar, (.inr (.byte, "[B", [(.int (nar .byte b0.toInt8.toInt32)), (.int (nar .byte b1.toInt8.toInt32)), (.int (nar .byte b2.toInt8.toInt32)), (.int (nar .byte b3.toInt8.toInt32)), (.int (nar .byte b4.toInt8.toInt32))])))]) (kd : Addr) (kc : Cell) (Sk : Sta Z Z.heap "com/example/bouncr/bouncr/PathPattern" "KINDS" "[B" (.ref kd)) (Ak : Arr Z Z.heap kd kc .byte) (hsz : kc.slots.size = 256) (Tk : ∀ j, j < 256 → kc.slots[j]? = some (.int (own_kd j))) :
    Go false KT l Z room_1 x code maxLocals ret n0 room_1.cells room_1.slots (R1 fun w _ => w = .int 1) h0 1 5 72 [.val (.int b0), .val (.int b1), .val (.int b2), .val (.int b3), .val (.int b4), .val (.int rg), .val (.ref ar), .val (.int aa), .val (.int cc), .val (.int 0), .val (.int 2), .unset] [] := by
  have J138 : ∀ ex : Int32, own_can 0 2 (own_saw (Int32.ofNat (own_oct b0))) (own_saw (Int32.ofNat (own_oct b1))) (own_saw (Int32.ofNat (own_oct b2))) (own_saw (Int32.ofNat (own_oct b3))) (own_saw (Int32.ofNat (own_oct b4))) = ex → Go false KT l Z room_1 x code maxLocals ret n0 room_1.cells room_1.slots (R1 fun w _ => w = .int 1) h0 1 5 138 [.val (.int b0), .val (.int b1), .val (.int b2), .val (.int b3), .val (.int b4), .val (.int rg), .val (.ref ar), .val (.int aa), .val (.int cc), .val (.int 0), .val (.int 2), .unset] [(.int ex)] := by
    intro ex hex
    refine go_istore c0_138 rfl rfl ?_
    dsimp only [setl]
    refine go_aload c0_140 rfl rfl ?_
    refine go_iload c0_142 rfl ?_
    refine go_iload c0_144 rfl ?_
    refine go_callS1 (y := x) (W := 0) (argsL := [(.ref ar), (.int 0), (.int 2)]) (st := []) c0_146 (rm_can0_2 l Z a0 hw h0 n0 ar b0 b1 b2 b3 b4 P0 kd kc Sk Ak hsz Tk) (t16 hw) (t17 hw) (t18 hw) (t19 hw) (by decide) (lenOf pd1 rfl) rfl rfl (by decide) (by decide) (by decide) (by decide) rfl ?_
    rintro _ _ ⟨rfl, rfl⟩
    refine go_more (k' := 1) (n' := 5) (by decide) (by decide) ?_
    refine go_iload c0_149 rfl ?_
    refine go_icmp_ne c0_151 (fun b151 => ?_) (fun b151 => ?_)
    · exact absurd hex b151
    · refine go_push c0_154 ?_
      refine go_goto c0_155 ?_
      exact go_bret rfl c0_159 (by decide) (by decide) (by decide) ⟨_, rfl, rfl⟩
  refine go_push c0_72 ?_
  refine go_iload c0_73 rfl ?_
  refine go_iload c0_75 rfl ?_
  refine go_iload c0_77 rfl ?_
  refine go_callS1 (y := x) (W := 0) (argsL := [(.int 0), (.int 0), (.int 2), (.int b0)]) (st := []) c0_78 (rm_ok_in l Z a0 hw h0 n0 _ P0 0 0 2 b0 (by decide)) (t9 hw) (t10 hw) (t11 hw) (t12 hw) (by decide) (lenOf pd2 rfl) rfl rfl (by decide) (by decide) (by decide) (by decide) rfl ?_
  rintro _ _ ⟨rfl, rfl⟩
  refine go_more (k' := 1) (n' := 5) (by decide) (by decide) ?_
  refine go_if_eq c0_81 (fun s0 => ?_) (fun s0 => ?_)
  · refine go_push c0_137 ?_
    exact J138 _ (by simp [own_can, own_c1, s0])
  · refine go_push c0_84 ?_
    refine go_iload c0_85 rfl ?_
    refine go_iload c0_87 rfl ?_
    refine go_iload c0_89 rfl ?_
    refine go_callS1 (y := x) (W := 0) (argsL := [(.int 1), (.int 0), (.int 2), (.int b1)]) (st := []) c0_90 (rm_ok_in l Z a0 hw h0 n0 _ P0 1 0 2 b1 (by decide)) (t9 hw) (t10 hw) (t11 hw) (t12 hw) (by decide) (lenOf pd2 rfl) rfl rfl (by decide) (by decide) (by decide) (by decide) rfl ?_
    rintro _ _ ⟨rfl, rfl⟩
    refine go_more (k' := 1) (n' := 5) (by decide) (by decide) ?_
    refine go_if_eq c0_93 (fun s1 => ?_) (fun s1 => ?_)
    · refine go_push c0_137 ?_
      exact J138 _ (by simp [own_can, own_c1, s0, s1])
    · refine go_push c0_96 ?_
      refine go_iload c0_97 rfl ?_
      refine go_iload c0_99 rfl ?_
      refine go_iload c0_101 rfl ?_
      refine go_callS1 (y := x) (W := 0) (argsL := [(.int 2), (.int 0), (.int 2), (.int b2)]) (st := []) c0_102 (rm_ok_out2 l Z a0 hw h0 n0 _ P0 2 0 2 b2 (by decide)) (t9 hw) (t10 hw) (t11 hw) (t12 hw) (by decide) (lenOf pd2 rfl) rfl rfl (by decide) (by decide) (by decide) (by decide) rfl ?_
      rintro _ _ ⟨rfl, rfl⟩
      refine go_more (k' := 1) (n' := 5) (by decide) (by decide) ?_
      refine go_if_eq c0_105 (fun q => absurd q (by decide)) (fun _ => ?_)
      refine go_push c0_108 ?_
      refine go_iload c0_109 rfl ?_
      refine go_iload c0_111 rfl ?_
      refine go_iload c0_113 rfl ?_
      refine go_callS1 (y := x) (W := 0) (argsL := [(.int 3), (.int 0), (.int 2), (.int b3)]) (st := []) c0_114 (rm_ok_out2 l Z a0 hw h0 n0 _ P0 3 0 2 b3 (by decide)) (t9 hw) (t10 hw) (t11 hw) (t12 hw) (by decide) (lenOf pd2 rfl) rfl rfl (by decide) (by decide) (by decide) (by decide) rfl ?_
      rintro _ _ ⟨rfl, rfl⟩
      refine go_more (k' := 1) (n' := 5) (by decide) (by decide) ?_
      refine go_if_eq c0_117 (fun q => absurd q (by decide)) (fun _ => ?_)
      refine go_push c0_120 ?_
      refine go_iload c0_121 rfl ?_
      refine go_iload c0_123 rfl ?_
      refine go_iload c0_125 rfl ?_
      refine go_callS1 (y := x) (W := 0) (argsL := [(.int 4), (.int 0), (.int 2), (.int b4)]) (st := []) c0_127 (rm_ok_out2 l Z a0 hw h0 n0 _ P0 4 0 2 b4 (by decide)) (t9 hw) (t10 hw) (t11 hw) (t12 hw) (by decide) (lenOf pd2 rfl) rfl rfl (by decide) (by decide) (by decide) (by decide) rfl ?_
      rintro _ _ ⟨rfl, rfl⟩
      refine go_more (k' := 1) (n' := 5) (by decide) (by decide) ?_
      refine go_if_eq c0_130 (fun q => absurd q (by decide)) (fun _ => ?_)
      refine go_push c0_133 ?_
      refine go_goto c0_134 ?_
      exact J138 _ (by simp [own_can, own_c1, s0, s1])
set_option maxRecDepth 65536 in
set_option maxHeartbeats 4000000 in
theorem law_0_3 (l : Launch) (Z : State) (a0 : Array Value) (hw : ∀ d ∈ tables_1, d.before a0 Z = true) (h0 : Heap) (n0 : Nat) (ar : Addr) (b0 b1 b2 b3 b4 : Int32) (rg aa cc : Int32) (P0 : Hp Z n0 h0 [(ar, (.inr (.byte, "[B", [(.int (nar .byte b0.toInt8.toInt32)), (.int (nar .byte b1.toInt8.toInt32)), (.int (nar .byte b2.toInt8.toInt32)), (.int (nar .byte b3.toInt8.toInt32)), (.int (nar .byte b4.toInt8.toInt32))])))]) (kd : Addr) (kc : Cell) (Sk : Sta Z Z.heap "com/example/bouncr/bouncr/PathPattern" "KINDS" "[B" (.ref kd)) (Ak : Arr Z Z.heap kd kc .byte) (hsz : kc.slots.size = 256) (Tk : ∀ j, j < 256 → kc.slots[j]? = some (.int (own_kd j))) :
    Go false KT l Z room_1 x code maxLocals ret n0 room_1.cells room_1.slots (R1 fun w _ => w = .int 1) h0 1 5 72 [.val (.int b0), .val (.int b1), .val (.int b2), .val (.int b3), .val (.int b4), .val (.int rg), .val (.ref ar), .val (.int aa), .val (.int cc), .val (.int 0), .val (.int 3), .unset] [] := by
  have J138 : ∀ ex : Int32, own_can 0 3 (own_saw (Int32.ofNat (own_oct b0))) (own_saw (Int32.ofNat (own_oct b1))) (own_saw (Int32.ofNat (own_oct b2))) (own_saw (Int32.ofNat (own_oct b3))) (own_saw (Int32.ofNat (own_oct b4))) = ex → Go false KT l Z room_1 x code maxLocals ret n0 room_1.cells room_1.slots (R1 fun w _ => w = .int 1) h0 1 5 138 [.val (.int b0), .val (.int b1), .val (.int b2), .val (.int b3), .val (.int b4), .val (.int rg), .val (.ref ar), .val (.int aa), .val (.int cc), .val (.int 0), .val (.int 3), .unset] [(.int ex)] := by
    intro ex hex
    refine go_istore c0_138 rfl rfl ?_
    dsimp only [setl]
    refine go_aload c0_140 rfl rfl ?_
    refine go_iload c0_142 rfl ?_
    refine go_iload c0_144 rfl ?_
    refine go_callS1 (y := x) (W := 0) (argsL := [(.ref ar), (.int 0), (.int 3)]) (st := []) c0_146 (rm_can0_3 l Z a0 hw h0 n0 ar b0 b1 b2 b3 b4 P0 kd kc Sk Ak hsz Tk) (t16 hw) (t17 hw) (t18 hw) (t19 hw) (by decide) (lenOf pd1 rfl) rfl rfl (by decide) (by decide) (by decide) (by decide) rfl ?_
    rintro _ _ ⟨rfl, rfl⟩
    refine go_more (k' := 1) (n' := 5) (by decide) (by decide) ?_
    refine go_iload c0_149 rfl ?_
    refine go_icmp_ne c0_151 (fun b151 => ?_) (fun b151 => ?_)
    · exact absurd hex b151
    · refine go_push c0_154 ?_
      refine go_goto c0_155 ?_
      exact go_bret rfl c0_159 (by decide) (by decide) (by decide) ⟨_, rfl, rfl⟩
  refine go_push c0_72 ?_
  refine go_iload c0_73 rfl ?_
  refine go_iload c0_75 rfl ?_
  refine go_iload c0_77 rfl ?_
  refine go_callS1 (y := x) (W := 0) (argsL := [(.int 0), (.int 0), (.int 3), (.int b0)]) (st := []) c0_78 (rm_ok_in l Z a0 hw h0 n0 _ P0 0 0 3 b0 (by decide)) (t9 hw) (t10 hw) (t11 hw) (t12 hw) (by decide) (lenOf pd2 rfl) rfl rfl (by decide) (by decide) (by decide) (by decide) rfl ?_
  rintro _ _ ⟨rfl, rfl⟩
  refine go_more (k' := 1) (n' := 5) (by decide) (by decide) ?_
  refine go_if_eq c0_81 (fun s0 => ?_) (fun s0 => ?_)
  · refine go_push c0_137 ?_
    exact J138 _ (by simp [own_can, own_c1, s0])
  · refine go_push c0_84 ?_
    refine go_iload c0_85 rfl ?_
    refine go_iload c0_87 rfl ?_
    refine go_iload c0_89 rfl ?_
    refine go_callS1 (y := x) (W := 0) (argsL := [(.int 1), (.int 0), (.int 3), (.int b1)]) (st := []) c0_90 (rm_ok_in l Z a0 hw h0 n0 _ P0 1 0 3 b1 (by decide)) (t9 hw) (t10 hw) (t11 hw) (t12 hw) (by decide) (lenOf pd2 rfl) rfl rfl (by decide) (by decide) (by decide) (by decide) rfl ?_
    rintro _ _ ⟨rfl, rfl⟩
    refine go_more (k' := 1) (n' := 5) (by decide) (by decide) ?_
    refine go_if_eq c0_93 (fun s1 => ?_) (fun s1 => ?_)
    · refine go_push c0_137 ?_
      exact J138 _ (by simp [own_can, own_c1, s0, s1])
    · refine go_push c0_96 ?_
      refine go_iload c0_97 rfl ?_
      refine go_iload c0_99 rfl ?_
      refine go_iload c0_101 rfl ?_
      refine go_callS1 (y := x) (W := 0) (argsL := [(.int 2), (.int 0), (.int 3), (.int b2)]) (st := []) c0_102 (rm_ok_in l Z a0 hw h0 n0 _ P0 2 0 3 b2 (by decide)) (t9 hw) (t10 hw) (t11 hw) (t12 hw) (by decide) (lenOf pd2 rfl) rfl rfl (by decide) (by decide) (by decide) (by decide) rfl ?_
      rintro _ _ ⟨rfl, rfl⟩
      refine go_more (k' := 1) (n' := 5) (by decide) (by decide) ?_
      refine go_if_eq c0_105 (fun s2 => ?_) (fun s2 => ?_)
      · refine go_push c0_137 ?_
        exact J138 _ (by simp [own_can, own_c1, s0, s1, s2])
      · refine go_push c0_108 ?_
        refine go_iload c0_109 rfl ?_
        refine go_iload c0_111 rfl ?_
        refine go_iload c0_113 rfl ?_
        refine go_callS1 (y := x) (W := 0) (argsL := [(.int 3), (.int 0), (.int 3), (.int b3)]) (st := []) c0_114 (rm_ok_out2 l Z a0 hw h0 n0 _ P0 3 0 3 b3 (by decide)) (t9 hw) (t10 hw) (t11 hw) (t12 hw) (by decide) (lenOf pd2 rfl) rfl rfl (by decide) (by decide) (by decide) (by decide) rfl ?_
        rintro _ _ ⟨rfl, rfl⟩
        refine go_more (k' := 1) (n' := 5) (by decide) (by decide) ?_
        refine go_if_eq c0_117 (fun q => absurd q (by decide)) (fun _ => ?_)
        refine go_push c0_120 ?_
        refine go_iload c0_121 rfl ?_
        refine go_iload c0_123 rfl ?_
        refine go_iload c0_125 rfl ?_
        refine go_callS1 (y := x) (W := 0) (argsL := [(.int 4), (.int 0), (.int 3), (.int b4)]) (st := []) c0_127 (rm_ok_out2 l Z a0 hw h0 n0 _ P0 4 0 3 b4 (by decide)) (t9 hw) (t10 hw) (t11 hw) (t12 hw) (by decide) (lenOf pd2 rfl) rfl rfl (by decide) (by decide) (by decide) (by decide) rfl ?_
        rintro _ _ ⟨rfl, rfl⟩
        refine go_more (k' := 1) (n' := 5) (by decide) (by decide) ?_
        refine go_if_eq c0_130 (fun q => absurd q (by decide)) (fun _ => ?_)
        refine go_push c0_133 ?_
        refine go_goto c0_134 ?_
        exact J138 _ (by simp [own_can, own_c1, s0, s1, s2])
set_option maxRecDepth 65536 in
set_option maxHeartbeats 4000000 in
theorem law_0_4 (l : Launch) (Z : State) (a0 : Array Value) (hw : ∀ d ∈ tables_1, d.before a0 Z = true) (h0 : Heap) (n0 : Nat) (ar : Addr) (b0 b1 b2 b3 b4 : Int32) (rg aa cc : Int32) (P0 : Hp Z n0 h0 [(ar, (.inr (.byte, "[B", [(.int (nar .byte b0.toInt8.toInt32)), (.int (nar .byte b1.toInt8.toInt32)), (.int (nar .byte b2.toInt8.toInt32)), (.int (nar .byte b3.toInt8.toInt32)), (.int (nar .byte b4.toInt8.toInt32))])))]) (kd : Addr) (kc : Cell) (Sk : Sta Z Z.heap "com/example/bouncr/bouncr/PathPattern" "KINDS" "[B" (.ref kd)) (Ak : Arr Z Z.heap kd kc .byte) (hsz : kc.slots.size = 256) (Tk : ∀ j, j < 256 → kc.slots[j]? = some (.int (own_kd j))) :
    Go false KT l Z room_1 x code maxLocals ret n0 room_1.cells room_1.slots (R1 fun w _ => w = .int 1) h0 1 5 72 [.val (.int b0), .val (.int b1), .val (.int b2), .val (.int b3), .val (.int b4), .val (.int rg), .val (.ref ar), .val (.int aa), .val (.int cc), .val (.int 0), .val (.int 4), .unset] [] := by
  have J138 : ∀ ex : Int32, own_can 0 4 (own_saw (Int32.ofNat (own_oct b0))) (own_saw (Int32.ofNat (own_oct b1))) (own_saw (Int32.ofNat (own_oct b2))) (own_saw (Int32.ofNat (own_oct b3))) (own_saw (Int32.ofNat (own_oct b4))) = ex → Go false KT l Z room_1 x code maxLocals ret n0 room_1.cells room_1.slots (R1 fun w _ => w = .int 1) h0 1 5 138 [.val (.int b0), .val (.int b1), .val (.int b2), .val (.int b3), .val (.int b4), .val (.int rg), .val (.ref ar), .val (.int aa), .val (.int cc), .val (.int 0), .val (.int 4), .unset] [(.int ex)] := by
    intro ex hex
    refine go_istore c0_138 rfl rfl ?_
    dsimp only [setl]
    refine go_aload c0_140 rfl rfl ?_
    refine go_iload c0_142 rfl ?_
    refine go_iload c0_144 rfl ?_
    refine go_callS1 (y := x) (W := 0) (argsL := [(.ref ar), (.int 0), (.int 4)]) (st := []) c0_146 (rm_can0_4 l Z a0 hw h0 n0 ar b0 b1 b2 b3 b4 P0 kd kc Sk Ak hsz Tk) (t16 hw) (t17 hw) (t18 hw) (t19 hw) (by decide) (lenOf pd1 rfl) rfl rfl (by decide) (by decide) (by decide) (by decide) rfl ?_
    rintro _ _ ⟨rfl, rfl⟩
    refine go_more (k' := 1) (n' := 5) (by decide) (by decide) ?_
    refine go_iload c0_149 rfl ?_
    refine go_icmp_ne c0_151 (fun b151 => ?_) (fun b151 => ?_)
    · exact absurd hex b151
    · refine go_push c0_154 ?_
      refine go_goto c0_155 ?_
      exact go_bret rfl c0_159 (by decide) (by decide) (by decide) ⟨_, rfl, rfl⟩
  refine go_push c0_72 ?_
  refine go_iload c0_73 rfl ?_
  refine go_iload c0_75 rfl ?_
  refine go_iload c0_77 rfl ?_
  refine go_callS1 (y := x) (W := 0) (argsL := [(.int 0), (.int 0), (.int 4), (.int b0)]) (st := []) c0_78 (rm_ok_in l Z a0 hw h0 n0 _ P0 0 0 4 b0 (by decide)) (t9 hw) (t10 hw) (t11 hw) (t12 hw) (by decide) (lenOf pd2 rfl) rfl rfl (by decide) (by decide) (by decide) (by decide) rfl ?_
  rintro _ _ ⟨rfl, rfl⟩
  refine go_more (k' := 1) (n' := 5) (by decide) (by decide) ?_
  refine go_if_eq c0_81 (fun s0 => ?_) (fun s0 => ?_)
  · refine go_push c0_137 ?_
    exact J138 _ (by simp [own_can, own_c1, s0])
  · refine go_push c0_84 ?_
    refine go_iload c0_85 rfl ?_
    refine go_iload c0_87 rfl ?_
    refine go_iload c0_89 rfl ?_
    refine go_callS1 (y := x) (W := 0) (argsL := [(.int 1), (.int 0), (.int 4), (.int b1)]) (st := []) c0_90 (rm_ok_in l Z a0 hw h0 n0 _ P0 1 0 4 b1 (by decide)) (t9 hw) (t10 hw) (t11 hw) (t12 hw) (by decide) (lenOf pd2 rfl) rfl rfl (by decide) (by decide) (by decide) (by decide) rfl ?_
    rintro _ _ ⟨rfl, rfl⟩
    refine go_more (k' := 1) (n' := 5) (by decide) (by decide) ?_
    refine go_if_eq c0_93 (fun s1 => ?_) (fun s1 => ?_)
    · refine go_push c0_137 ?_
      exact J138 _ (by simp [own_can, own_c1, s0, s1])
    · refine go_push c0_96 ?_
      refine go_iload c0_97 rfl ?_
      refine go_iload c0_99 rfl ?_
      refine go_iload c0_101 rfl ?_
      refine go_callS1 (y := x) (W := 0) (argsL := [(.int 2), (.int 0), (.int 4), (.int b2)]) (st := []) c0_102 (rm_ok_in l Z a0 hw h0 n0 _ P0 2 0 4 b2 (by decide)) (t9 hw) (t10 hw) (t11 hw) (t12 hw) (by decide) (lenOf pd2 rfl) rfl rfl (by decide) (by decide) (by decide) (by decide) rfl ?_
      rintro _ _ ⟨rfl, rfl⟩
      refine go_more (k' := 1) (n' := 5) (by decide) (by decide) ?_
      refine go_if_eq c0_105 (fun s2 => ?_) (fun s2 => ?_)
      · refine go_push c0_137 ?_
        exact J138 _ (by simp [own_can, own_c1, s0, s1, s2])
      · refine go_push c0_108 ?_
        refine go_iload c0_109 rfl ?_
        refine go_iload c0_111 rfl ?_
        refine go_iload c0_113 rfl ?_
        refine go_callS1 (y := x) (W := 0) (argsL := [(.int 3), (.int 0), (.int 4), (.int b3)]) (st := []) c0_114 (rm_ok_in l Z a0 hw h0 n0 _ P0 3 0 4 b3 (by decide)) (t9 hw) (t10 hw) (t11 hw) (t12 hw) (by decide) (lenOf pd2 rfl) rfl rfl (by decide) (by decide) (by decide) (by decide) rfl ?_
        rintro _ _ ⟨rfl, rfl⟩
        refine go_more (k' := 1) (n' := 5) (by decide) (by decide) ?_
        refine go_if_eq c0_117 (fun s3 => ?_) (fun s3 => ?_)
        · refine go_push c0_137 ?_
          exact J138 _ (by simp [own_can, own_c1, s0, s1, s2, s3])
        · refine go_push c0_120 ?_
          refine go_iload c0_121 rfl ?_
          refine go_iload c0_123 rfl ?_
          refine go_iload c0_125 rfl ?_
          refine go_callS1 (y := x) (W := 0) (argsL := [(.int 4), (.int 0), (.int 4), (.int b4)]) (st := []) c0_127 (rm_ok_out2 l Z a0 hw h0 n0 _ P0 4 0 4 b4 (by decide)) (t9 hw) (t10 hw) (t11 hw) (t12 hw) (by decide) (lenOf pd2 rfl) rfl rfl (by decide) (by decide) (by decide) (by decide) rfl ?_
          rintro _ _ ⟨rfl, rfl⟩
          refine go_more (k' := 1) (n' := 5) (by decide) (by decide) ?_
          refine go_if_eq c0_130 (fun q => absurd q (by decide)) (fun _ => ?_)
          refine go_push c0_133 ?_
          refine go_goto c0_134 ?_
          exact J138 _ (by simp [own_can, own_c1, s0, s1, s2, s3])
set_option maxRecDepth 65536 in
set_option maxHeartbeats 4000000 in
theorem law_0_5 (l : Launch) (Z : State) (a0 : Array Value) (hw : ∀ d ∈ tables_1, d.before a0 Z = true) (h0 : Heap) (n0 : Nat) (ar : Addr) (b0 b1 b2 b3 b4 : Int32) (rg aa cc : Int32) (P0 : Hp Z n0 h0 [(ar, (.inr (.byte, "[B", [(.int (nar .byte b0.toInt8.toInt32)), (.int (nar .byte b1.toInt8.toInt32)), (.int (nar .byte b2.toInt8.toInt32)), (.int (nar .byte b3.toInt8.toInt32)), (.int (nar .byte b4.toInt8.toInt32))])))]) (kd : Addr) (kc : Cell) (Sk : Sta Z Z.heap "com/example/bouncr/bouncr/PathPattern" "KINDS" "[B" (.ref kd)) (Ak : Arr Z Z.heap kd kc .byte) (hsz : kc.slots.size = 256) (Tk : ∀ j, j < 256 → kc.slots[j]? = some (.int (own_kd j))) :
    Go false KT l Z room_1 x code maxLocals ret n0 room_1.cells room_1.slots (R1 fun w _ => w = .int 1) h0 1 5 72 [.val (.int b0), .val (.int b1), .val (.int b2), .val (.int b3), .val (.int b4), .val (.int rg), .val (.ref ar), .val (.int aa), .val (.int cc), .val (.int 0), .val (.int 5), .unset] [] := by
  have J138 : ∀ ex : Int32, own_can 0 5 (own_saw (Int32.ofNat (own_oct b0))) (own_saw (Int32.ofNat (own_oct b1))) (own_saw (Int32.ofNat (own_oct b2))) (own_saw (Int32.ofNat (own_oct b3))) (own_saw (Int32.ofNat (own_oct b4))) = ex → Go false KT l Z room_1 x code maxLocals ret n0 room_1.cells room_1.slots (R1 fun w _ => w = .int 1) h0 1 5 138 [.val (.int b0), .val (.int b1), .val (.int b2), .val (.int b3), .val (.int b4), .val (.int rg), .val (.ref ar), .val (.int aa), .val (.int cc), .val (.int 0), .val (.int 5), .unset] [(.int ex)] := by
    intro ex hex
    refine go_istore c0_138 rfl rfl ?_
    dsimp only [setl]
    refine go_aload c0_140 rfl rfl ?_
    refine go_iload c0_142 rfl ?_
    refine go_iload c0_144 rfl ?_
    refine go_callS1 (y := x) (W := 0) (argsL := [(.ref ar), (.int 0), (.int 5)]) (st := []) c0_146 (rm_can0_5 l Z a0 hw h0 n0 ar b0 b1 b2 b3 b4 P0 kd kc Sk Ak hsz Tk) (t16 hw) (t17 hw) (t18 hw) (t19 hw) (by decide) (lenOf pd1 rfl) rfl rfl (by decide) (by decide) (by decide) (by decide) rfl ?_
    rintro _ _ ⟨rfl, rfl⟩
    refine go_more (k' := 1) (n' := 5) (by decide) (by decide) ?_
    refine go_iload c0_149 rfl ?_
    refine go_icmp_ne c0_151 (fun b151 => ?_) (fun b151 => ?_)
    · exact absurd hex b151
    · refine go_push c0_154 ?_
      refine go_goto c0_155 ?_
      exact go_bret rfl c0_159 (by decide) (by decide) (by decide) ⟨_, rfl, rfl⟩
  refine go_push c0_72 ?_
  refine go_iload c0_73 rfl ?_
  refine go_iload c0_75 rfl ?_
  refine go_iload c0_77 rfl ?_
  refine go_callS1 (y := x) (W := 0) (argsL := [(.int 0), (.int 0), (.int 5), (.int b0)]) (st := []) c0_78 (rm_ok_in l Z a0 hw h0 n0 _ P0 0 0 5 b0 (by decide)) (t9 hw) (t10 hw) (t11 hw) (t12 hw) (by decide) (lenOf pd2 rfl) rfl rfl (by decide) (by decide) (by decide) (by decide) rfl ?_
  rintro _ _ ⟨rfl, rfl⟩
  refine go_more (k' := 1) (n' := 5) (by decide) (by decide) ?_
  refine go_if_eq c0_81 (fun s0 => ?_) (fun s0 => ?_)
  · refine go_push c0_137 ?_
    exact J138 _ (by simp [own_can, own_c1, s0])
  · refine go_push c0_84 ?_
    refine go_iload c0_85 rfl ?_
    refine go_iload c0_87 rfl ?_
    refine go_iload c0_89 rfl ?_
    refine go_callS1 (y := x) (W := 0) (argsL := [(.int 1), (.int 0), (.int 5), (.int b1)]) (st := []) c0_90 (rm_ok_in l Z a0 hw h0 n0 _ P0 1 0 5 b1 (by decide)) (t9 hw) (t10 hw) (t11 hw) (t12 hw) (by decide) (lenOf pd2 rfl) rfl rfl (by decide) (by decide) (by decide) (by decide) rfl ?_
    rintro _ _ ⟨rfl, rfl⟩
    refine go_more (k' := 1) (n' := 5) (by decide) (by decide) ?_
    refine go_if_eq c0_93 (fun s1 => ?_) (fun s1 => ?_)
    · refine go_push c0_137 ?_
      exact J138 _ (by simp [own_can, own_c1, s0, s1])
    · refine go_push c0_96 ?_
      refine go_iload c0_97 rfl ?_
      refine go_iload c0_99 rfl ?_
      refine go_iload c0_101 rfl ?_
      refine go_callS1 (y := x) (W := 0) (argsL := [(.int 2), (.int 0), (.int 5), (.int b2)]) (st := []) c0_102 (rm_ok_in l Z a0 hw h0 n0 _ P0 2 0 5 b2 (by decide)) (t9 hw) (t10 hw) (t11 hw) (t12 hw) (by decide) (lenOf pd2 rfl) rfl rfl (by decide) (by decide) (by decide) (by decide) rfl ?_
      rintro _ _ ⟨rfl, rfl⟩
      refine go_more (k' := 1) (n' := 5) (by decide) (by decide) ?_
      refine go_if_eq c0_105 (fun s2 => ?_) (fun s2 => ?_)
      · refine go_push c0_137 ?_
        exact J138 _ (by simp [own_can, own_c1, s0, s1, s2])
      · refine go_push c0_108 ?_
        refine go_iload c0_109 rfl ?_
        refine go_iload c0_111 rfl ?_
        refine go_iload c0_113 rfl ?_
        refine go_callS1 (y := x) (W := 0) (argsL := [(.int 3), (.int 0), (.int 5), (.int b3)]) (st := []) c0_114 (rm_ok_in l Z a0 hw h0 n0 _ P0 3 0 5 b3 (by decide)) (t9 hw) (t10 hw) (t11 hw) (t12 hw) (by decide) (lenOf pd2 rfl) rfl rfl (by decide) (by decide) (by decide) (by decide) rfl ?_
        rintro _ _ ⟨rfl, rfl⟩
        refine go_more (k' := 1) (n' := 5) (by decide) (by decide) ?_
        refine go_if_eq c0_117 (fun s3 => ?_) (fun s3 => ?_)
        · refine go_push c0_137 ?_
          exact J138 _ (by simp [own_can, own_c1, s0, s1, s2, s3])
        · refine go_push c0_120 ?_
          refine go_iload c0_121 rfl ?_
          refine go_iload c0_123 rfl ?_
          refine go_iload c0_125 rfl ?_
          refine go_callS1 (y := x) (W := 0) (argsL := [(.int 4), (.int 0), (.int 5), (.int b4)]) (st := []) c0_127 (rm_ok_in l Z a0 hw h0 n0 _ P0 4 0 5 b4 (by decide)) (t9 hw) (t10 hw) (t11 hw) (t12 hw) (by decide) (lenOf pd2 rfl) rfl rfl (by decide) (by decide) (by decide) (by decide) rfl ?_
          rintro _ _ ⟨rfl, rfl⟩
          refine go_more (k' := 1) (n' := 5) (by decide) (by decide) ?_
          refine go_if_eq c0_130 (fun s4 => ?_) (fun s4 => ?_)
          · refine go_push c0_137 ?_
            exact J138 _ (by simp [own_can, own_c1, s0, s1, s2, s3, s4])
          · refine go_push c0_133 ?_
            refine go_goto c0_134 ?_
            exact J138 _ (by simp [own_can, own_c1, s0, s1, s2, s3, s4])
set_option maxRecDepth 65536 in
set_option maxHeartbeats 4000000 in
theorem law_1_1 (l : Launch) (Z : State) (a0 : Array Value) (hw : ∀ d ∈ tables_1, d.before a0 Z = true) (h0 : Heap) (n0 : Nat) (ar : Addr) (b0 b1 b2 b3 b4 : Int32) (rg aa cc : Int32) (P0 : Hp Z n0 h0 [(ar, (.inr (.byte, "[B", [(.int (nar .byte b0.toInt8.toInt32)), (.int (nar .byte b1.toInt8.toInt32)), (.int (nar .byte b2.toInt8.toInt32)), (.int (nar .byte b3.toInt8.toInt32)), (.int (nar .byte b4.toInt8.toInt32))])))]) (kd : Addr) (kc : Cell) (Sk : Sta Z Z.heap "com/example/bouncr/bouncr/PathPattern" "KINDS" "[B" (.ref kd)) (Ak : Arr Z Z.heap kd kc .byte) (hsz : kc.slots.size = 256) (Tk : ∀ j, j < 256 → kc.slots[j]? = some (.int (own_kd j))) :
    Go false KT l Z room_1 x code maxLocals ret n0 room_1.cells room_1.slots (R1 fun w _ => w = .int 1) h0 1 5 72 [.val (.int b0), .val (.int b1), .val (.int b2), .val (.int b3), .val (.int b4), .val (.int rg), .val (.ref ar), .val (.int aa), .val (.int cc), .val (.int 1), .val (.int 1), .unset] [] := by
  have J138 : ∀ ex : Int32, own_can 1 1 (own_saw (Int32.ofNat (own_oct b0))) (own_saw (Int32.ofNat (own_oct b1))) (own_saw (Int32.ofNat (own_oct b2))) (own_saw (Int32.ofNat (own_oct b3))) (own_saw (Int32.ofNat (own_oct b4))) = ex → Go false KT l Z room_1 x code maxLocals ret n0 room_1.cells room_1.slots (R1 fun w _ => w = .int 1) h0 1 5 138 [.val (.int b0), .val (.int b1), .val (.int b2), .val (.int b3), .val (.int b4), .val (.int rg), .val (.ref ar), .val (.int aa), .val (.int cc), .val (.int 1), .val (.int 1), .unset] [(.int ex)] := by
    intro ex hex
    refine go_istore c0_138 rfl rfl ?_
    dsimp only [setl]
    refine go_aload c0_140 rfl rfl ?_
    refine go_iload c0_142 rfl ?_
    refine go_iload c0_144 rfl ?_
    refine go_callS1 (y := x) (W := 0) (argsL := [(.ref ar), (.int 1), (.int 1)]) (st := []) c0_146 (rm_can1_1 l Z a0 hw h0 n0 ar b0 b1 b2 b3 b4 P0 kd kc Sk Ak hsz Tk) (t16 hw) (t17 hw) (t18 hw) (t19 hw) (by decide) (lenOf pd1 rfl) rfl rfl (by decide) (by decide) (by decide) (by decide) rfl ?_
    rintro _ _ ⟨rfl, rfl⟩
    refine go_more (k' := 1) (n' := 5) (by decide) (by decide) ?_
    refine go_iload c0_149 rfl ?_
    refine go_icmp_ne c0_151 (fun b151 => ?_) (fun b151 => ?_)
    · exact absurd hex b151
    · refine go_push c0_154 ?_
      refine go_goto c0_155 ?_
      exact go_bret rfl c0_159 (by decide) (by decide) (by decide) ⟨_, rfl, rfl⟩
  refine go_push c0_72 ?_
  refine go_iload c0_73 rfl ?_
  refine go_iload c0_75 rfl ?_
  refine go_iload c0_77 rfl ?_
  refine go_callS1 (y := x) (W := 0) (argsL := [(.int 0), (.int 1), (.int 1), (.int b0)]) (st := []) c0_78 (rm_ok_out1 l Z a0 hw h0 n0 _ P0 0 1 1 b0 (by decide)) (t9 hw) (t10 hw) (t11 hw) (t12 hw) (by decide) (lenOf pd2 rfl) rfl rfl (by decide) (by decide) (by decide) (by decide) rfl ?_
  rintro _ _ ⟨rfl, rfl⟩
  refine go_more (k' := 1) (n' := 5) (by decide) (by decide) ?_
  refine go_if_eq c0_81 (fun q => absurd q (by decide)) (fun _ => ?_)
  refine go_push c0_84 ?_
  refine go_iload c0_85 rfl ?_
  refine go_iload c0_87 rfl ?_
  refine go_iload c0_89 rfl ?_
  refine go_callS1 (y := x) (W := 0) (argsL := [(.int 1), (.int 1), (.int 1), (.int b1)]) (st := []) c0_90 (rm_ok_out2 l Z a0 hw h0 n0 _ P0 1 1 1 b1 (by decide)) (t9 hw) (t10 hw) (t11 hw) (t12 hw) (by decide) (lenOf pd2 rfl) rfl rfl (by decide) (by decide) (by decide) (by decide) rfl ?_
  rintro _ _ ⟨rfl, rfl⟩
  refine go_more (k' := 1) (n' := 5) (by decide) (by decide) ?_
  refine go_if_eq c0_93 (fun q => absurd q (by decide)) (fun _ => ?_)
  refine go_push c0_96 ?_
  refine go_iload c0_97 rfl ?_
  refine go_iload c0_99 rfl ?_
  refine go_iload c0_101 rfl ?_
  refine go_callS1 (y := x) (W := 0) (argsL := [(.int 2), (.int 1), (.int 1), (.int b2)]) (st := []) c0_102 (rm_ok_out2 l Z a0 hw h0 n0 _ P0 2 1 1 b2 (by decide)) (t9 hw) (t10 hw) (t11 hw) (t12 hw) (by decide) (lenOf pd2 rfl) rfl rfl (by decide) (by decide) (by decide) (by decide) rfl ?_
  rintro _ _ ⟨rfl, rfl⟩
  refine go_more (k' := 1) (n' := 5) (by decide) (by decide) ?_
  refine go_if_eq c0_105 (fun q => absurd q (by decide)) (fun _ => ?_)
  refine go_push c0_108 ?_
  refine go_iload c0_109 rfl ?_
  refine go_iload c0_111 rfl ?_
  refine go_iload c0_113 rfl ?_
  refine go_callS1 (y := x) (W := 0) (argsL := [(.int 3), (.int 1), (.int 1), (.int b3)]) (st := []) c0_114 (rm_ok_out2 l Z a0 hw h0 n0 _ P0 3 1 1 b3 (by decide)) (t9 hw) (t10 hw) (t11 hw) (t12 hw) (by decide) (lenOf pd2 rfl) rfl rfl (by decide) (by decide) (by decide) (by decide) rfl ?_
  rintro _ _ ⟨rfl, rfl⟩
  refine go_more (k' := 1) (n' := 5) (by decide) (by decide) ?_
  refine go_if_eq c0_117 (fun q => absurd q (by decide)) (fun _ => ?_)
  refine go_push c0_120 ?_
  refine go_iload c0_121 rfl ?_
  refine go_iload c0_123 rfl ?_
  refine go_iload c0_125 rfl ?_
  refine go_callS1 (y := x) (W := 0) (argsL := [(.int 4), (.int 1), (.int 1), (.int b4)]) (st := []) c0_127 (rm_ok_out2 l Z a0 hw h0 n0 _ P0 4 1 1 b4 (by decide)) (t9 hw) (t10 hw) (t11 hw) (t12 hw) (by decide) (lenOf pd2 rfl) rfl rfl (by decide) (by decide) (by decide) (by decide) rfl ?_
  rintro _ _ ⟨rfl, rfl⟩
  refine go_more (k' := 1) (n' := 5) (by decide) (by decide) ?_
  refine go_if_eq c0_130 (fun q => absurd q (by decide)) (fun _ => ?_)
  refine go_push c0_133 ?_
  refine go_goto c0_134 ?_
  exact J138 _ (by simp [own_can, own_c1])
set_option maxRecDepth 65536 in
set_option maxHeartbeats 4000000 in
theorem law_1_2 (l : Launch) (Z : State) (a0 : Array Value) (hw : ∀ d ∈ tables_1, d.before a0 Z = true) (h0 : Heap) (n0 : Nat) (ar : Addr) (b0 b1 b2 b3 b4 : Int32) (rg aa cc : Int32) (P0 : Hp Z n0 h0 [(ar, (.inr (.byte, "[B", [(.int (nar .byte b0.toInt8.toInt32)), (.int (nar .byte b1.toInt8.toInt32)), (.int (nar .byte b2.toInt8.toInt32)), (.int (nar .byte b3.toInt8.toInt32)), (.int (nar .byte b4.toInt8.toInt32))])))]) (kd : Addr) (kc : Cell) (Sk : Sta Z Z.heap "com/example/bouncr/bouncr/PathPattern" "KINDS" "[B" (.ref kd)) (Ak : Arr Z Z.heap kd kc .byte) (hsz : kc.slots.size = 256) (Tk : ∀ j, j < 256 → kc.slots[j]? = some (.int (own_kd j))) :
    Go false KT l Z room_1 x code maxLocals ret n0 room_1.cells room_1.slots (R1 fun w _ => w = .int 1) h0 1 5 72 [.val (.int b0), .val (.int b1), .val (.int b2), .val (.int b3), .val (.int b4), .val (.int rg), .val (.ref ar), .val (.int aa), .val (.int cc), .val (.int 1), .val (.int 2), .unset] [] := by
  have J138 : ∀ ex : Int32, own_can 1 2 (own_saw (Int32.ofNat (own_oct b0))) (own_saw (Int32.ofNat (own_oct b1))) (own_saw (Int32.ofNat (own_oct b2))) (own_saw (Int32.ofNat (own_oct b3))) (own_saw (Int32.ofNat (own_oct b4))) = ex → Go false KT l Z room_1 x code maxLocals ret n0 room_1.cells room_1.slots (R1 fun w _ => w = .int 1) h0 1 5 138 [.val (.int b0), .val (.int b1), .val (.int b2), .val (.int b3), .val (.int b4), .val (.int rg), .val (.ref ar), .val (.int aa), .val (.int cc), .val (.int 1), .val (.int 2), .unset] [(.int ex)] := by
    intro ex hex
    refine go_istore c0_138 rfl rfl ?_
    dsimp only [setl]
    refine go_aload c0_140 rfl rfl ?_
    refine go_iload c0_142 rfl ?_
    refine go_iload c0_144 rfl ?_
    refine go_callS1 (y := x) (W := 0) (argsL := [(.ref ar), (.int 1), (.int 2)]) (st := []) c0_146 (rm_can1_2 l Z a0 hw h0 n0 ar b0 b1 b2 b3 b4 P0 kd kc Sk Ak hsz Tk) (t16 hw) (t17 hw) (t18 hw) (t19 hw) (by decide) (lenOf pd1 rfl) rfl rfl (by decide) (by decide) (by decide) (by decide) rfl ?_
    rintro _ _ ⟨rfl, rfl⟩
    refine go_more (k' := 1) (n' := 5) (by decide) (by decide) ?_
    refine go_iload c0_149 rfl ?_
    refine go_icmp_ne c0_151 (fun b151 => ?_) (fun b151 => ?_)
    · exact absurd hex b151
    · refine go_push c0_154 ?_
      refine go_goto c0_155 ?_
      exact go_bret rfl c0_159 (by decide) (by decide) (by decide) ⟨_, rfl, rfl⟩
  refine go_push c0_72 ?_
  refine go_iload c0_73 rfl ?_
  refine go_iload c0_75 rfl ?_
  refine go_iload c0_77 rfl ?_
  refine go_callS1 (y := x) (W := 0) (argsL := [(.int 0), (.int 1), (.int 2), (.int b0)]) (st := []) c0_78 (rm_ok_out1 l Z a0 hw h0 n0 _ P0 0 1 2 b0 (by decide)) (t9 hw) (t10 hw) (t11 hw) (t12 hw) (by decide) (lenOf pd2 rfl) rfl rfl (by decide) (by decide) (by decide) (by decide) rfl ?_
  rintro _ _ ⟨rfl, rfl⟩
  refine go_more (k' := 1) (n' := 5) (by decide) (by decide) ?_
  refine go_if_eq c0_81 (fun q => absurd q (by decide)) (fun _ => ?_)
  refine go_push c0_84 ?_
  refine go_iload c0_85 rfl ?_
  refine go_iload c0_87 rfl ?_
  refine go_iload c0_89 rfl ?_
  refine go_callS1 (y := x) (W := 0) (argsL := [(.int 1), (.int 1), (.int 2), (.int b1)]) (st := []) c0_90 (rm_ok_in l Z a0 hw h0 n0 _ P0 1 1 2 b1 (by decide)) (t9 hw) (t10 hw) (t11 hw) (t12 hw) (by decide) (lenOf pd2 rfl) rfl rfl (by decide) (by decide) (by decide) (by decide) rfl ?_
  rintro _ _ ⟨rfl, rfl⟩
  refine go_more (k' := 1) (n' := 5) (by decide) (by decide) ?_
  refine go_if_eq c0_93 (fun s1 => ?_) (fun s1 => ?_)
  · refine go_push c0_137 ?_
    exact J138 _ (by simp [own_can, own_c1, s1])
  · refine go_push c0_96 ?_
    refine go_iload c0_97 rfl ?_
    refine go_iload c0_99 rfl ?_
    refine go_iload c0_101 rfl ?_
    refine go_callS1 (y := x) (W := 0) (argsL := [(.int 2), (.int 1), (.int 2), (.int b2)]) (st := []) c0_102 (rm_ok_out2 l Z a0 hw h0 n0 _ P0 2 1 2 b2 (by decide)) (t9 hw) (t10 hw) (t11 hw) (t12 hw) (by decide) (lenOf pd2 rfl) rfl rfl (by decide) (by decide) (by decide) (by decide) rfl ?_
    rintro _ _ ⟨rfl, rfl⟩
    refine go_more (k' := 1) (n' := 5) (by decide) (by decide) ?_
    refine go_if_eq c0_105 (fun q => absurd q (by decide)) (fun _ => ?_)
    refine go_push c0_108 ?_
    refine go_iload c0_109 rfl ?_
    refine go_iload c0_111 rfl ?_
    refine go_iload c0_113 rfl ?_
    refine go_callS1 (y := x) (W := 0) (argsL := [(.int 3), (.int 1), (.int 2), (.int b3)]) (st := []) c0_114 (rm_ok_out2 l Z a0 hw h0 n0 _ P0 3 1 2 b3 (by decide)) (t9 hw) (t10 hw) (t11 hw) (t12 hw) (by decide) (lenOf pd2 rfl) rfl rfl (by decide) (by decide) (by decide) (by decide) rfl ?_
    rintro _ _ ⟨rfl, rfl⟩
    refine go_more (k' := 1) (n' := 5) (by decide) (by decide) ?_
    refine go_if_eq c0_117 (fun q => absurd q (by decide)) (fun _ => ?_)
    refine go_push c0_120 ?_
    refine go_iload c0_121 rfl ?_
    refine go_iload c0_123 rfl ?_
    refine go_iload c0_125 rfl ?_
    refine go_callS1 (y := x) (W := 0) (argsL := [(.int 4), (.int 1), (.int 2), (.int b4)]) (st := []) c0_127 (rm_ok_out2 l Z a0 hw h0 n0 _ P0 4 1 2 b4 (by decide)) (t9 hw) (t10 hw) (t11 hw) (t12 hw) (by decide) (lenOf pd2 rfl) rfl rfl (by decide) (by decide) (by decide) (by decide) rfl ?_
    rintro _ _ ⟨rfl, rfl⟩
    refine go_more (k' := 1) (n' := 5) (by decide) (by decide) ?_
    refine go_if_eq c0_130 (fun q => absurd q (by decide)) (fun _ => ?_)
    refine go_push c0_133 ?_
    refine go_goto c0_134 ?_
    exact J138 _ (by simp [own_can, own_c1, s1])
set_option maxRecDepth 65536 in
set_option maxHeartbeats 4000000 in
theorem law_1_3 (l : Launch) (Z : State) (a0 : Array Value) (hw : ∀ d ∈ tables_1, d.before a0 Z = true) (h0 : Heap) (n0 : Nat) (ar : Addr) (b0 b1 b2 b3 b4 : Int32) (rg aa cc : Int32) (P0 : Hp Z n0 h0 [(ar, (.inr (.byte, "[B", [(.int (nar .byte b0.toInt8.toInt32)), (.int (nar .byte b1.toInt8.toInt32)), (.int (nar .byte b2.toInt8.toInt32)), (.int (nar .byte b3.toInt8.toInt32)), (.int (nar .byte b4.toInt8.toInt32))])))]) (kd : Addr) (kc : Cell) (Sk : Sta Z Z.heap "com/example/bouncr/bouncr/PathPattern" "KINDS" "[B" (.ref kd)) (Ak : Arr Z Z.heap kd kc .byte) (hsz : kc.slots.size = 256) (Tk : ∀ j, j < 256 → kc.slots[j]? = some (.int (own_kd j))) :
    Go false KT l Z room_1 x code maxLocals ret n0 room_1.cells room_1.slots (R1 fun w _ => w = .int 1) h0 1 5 72 [.val (.int b0), .val (.int b1), .val (.int b2), .val (.int b3), .val (.int b4), .val (.int rg), .val (.ref ar), .val (.int aa), .val (.int cc), .val (.int 1), .val (.int 3), .unset] [] := by
  have J138 : ∀ ex : Int32, own_can 1 3 (own_saw (Int32.ofNat (own_oct b0))) (own_saw (Int32.ofNat (own_oct b1))) (own_saw (Int32.ofNat (own_oct b2))) (own_saw (Int32.ofNat (own_oct b3))) (own_saw (Int32.ofNat (own_oct b4))) = ex → Go false KT l Z room_1 x code maxLocals ret n0 room_1.cells room_1.slots (R1 fun w _ => w = .int 1) h0 1 5 138 [.val (.int b0), .val (.int b1), .val (.int b2), .val (.int b3), .val (.int b4), .val (.int rg), .val (.ref ar), .val (.int aa), .val (.int cc), .val (.int 1), .val (.int 3), .unset] [(.int ex)] := by
    intro ex hex
    refine go_istore c0_138 rfl rfl ?_
    dsimp only [setl]
    refine go_aload c0_140 rfl rfl ?_
    refine go_iload c0_142 rfl ?_
    refine go_iload c0_144 rfl ?_
    refine go_callS1 (y := x) (W := 0) (argsL := [(.ref ar), (.int 1), (.int 3)]) (st := []) c0_146 (rm_can1_3 l Z a0 hw h0 n0 ar b0 b1 b2 b3 b4 P0 kd kc Sk Ak hsz Tk) (t16 hw) (t17 hw) (t18 hw) (t19 hw) (by decide) (lenOf pd1 rfl) rfl rfl (by decide) (by decide) (by decide) (by decide) rfl ?_
    rintro _ _ ⟨rfl, rfl⟩
    refine go_more (k' := 1) (n' := 5) (by decide) (by decide) ?_
    refine go_iload c0_149 rfl ?_
    refine go_icmp_ne c0_151 (fun b151 => ?_) (fun b151 => ?_)
    · exact absurd hex b151
    · refine go_push c0_154 ?_
      refine go_goto c0_155 ?_
      exact go_bret rfl c0_159 (by decide) (by decide) (by decide) ⟨_, rfl, rfl⟩
  refine go_push c0_72 ?_
  refine go_iload c0_73 rfl ?_
  refine go_iload c0_75 rfl ?_
  refine go_iload c0_77 rfl ?_
  refine go_callS1 (y := x) (W := 0) (argsL := [(.int 0), (.int 1), (.int 3), (.int b0)]) (st := []) c0_78 (rm_ok_out1 l Z a0 hw h0 n0 _ P0 0 1 3 b0 (by decide)) (t9 hw) (t10 hw) (t11 hw) (t12 hw) (by decide) (lenOf pd2 rfl) rfl rfl (by decide) (by decide) (by decide) (by decide) rfl ?_
  rintro _ _ ⟨rfl, rfl⟩
  refine go_more (k' := 1) (n' := 5) (by decide) (by decide) ?_
  refine go_if_eq c0_81 (fun q => absurd q (by decide)) (fun _ => ?_)
  refine go_push c0_84 ?_
  refine go_iload c0_85 rfl ?_
  refine go_iload c0_87 rfl ?_
  refine go_iload c0_89 rfl ?_
  refine go_callS1 (y := x) (W := 0) (argsL := [(.int 1), (.int 1), (.int 3), (.int b1)]) (st := []) c0_90 (rm_ok_in l Z a0 hw h0 n0 _ P0 1 1 3 b1 (by decide)) (t9 hw) (t10 hw) (t11 hw) (t12 hw) (by decide) (lenOf pd2 rfl) rfl rfl (by decide) (by decide) (by decide) (by decide) rfl ?_
  rintro _ _ ⟨rfl, rfl⟩
  refine go_more (k' := 1) (n' := 5) (by decide) (by decide) ?_
  refine go_if_eq c0_93 (fun s1 => ?_) (fun s1 => ?_)
  · refine go_push c0_137 ?_
    exact J138 _ (by simp [own_can, own_c1, s1])
  · refine go_push c0_96 ?_
    refine go_iload c0_97 rfl ?_
    refine go_iload c0_99 rfl ?_
    refine go_iload c0_101 rfl ?_
    refine go_callS1 (y := x) (W := 0) (argsL := [(.int 2), (.int 1), (.int 3), (.int b2)]) (st := []) c0_102 (rm_ok_in l Z a0 hw h0 n0 _ P0 2 1 3 b2 (by decide)) (t9 hw) (t10 hw) (t11 hw) (t12 hw) (by decide) (lenOf pd2 rfl) rfl rfl (by decide) (by decide) (by decide) (by decide) rfl ?_
    rintro _ _ ⟨rfl, rfl⟩
    refine go_more (k' := 1) (n' := 5) (by decide) (by decide) ?_
    refine go_if_eq c0_105 (fun s2 => ?_) (fun s2 => ?_)
    · refine go_push c0_137 ?_
      exact J138 _ (by simp [own_can, own_c1, s1, s2])
    · refine go_push c0_108 ?_
      refine go_iload c0_109 rfl ?_
      refine go_iload c0_111 rfl ?_
      refine go_iload c0_113 rfl ?_
      refine go_callS1 (y := x) (W := 0) (argsL := [(.int 3), (.int 1), (.int 3), (.int b3)]) (st := []) c0_114 (rm_ok_out2 l Z a0 hw h0 n0 _ P0 3 1 3 b3 (by decide)) (t9 hw) (t10 hw) (t11 hw) (t12 hw) (by decide) (lenOf pd2 rfl) rfl rfl (by decide) (by decide) (by decide) (by decide) rfl ?_
      rintro _ _ ⟨rfl, rfl⟩
      refine go_more (k' := 1) (n' := 5) (by decide) (by decide) ?_
      refine go_if_eq c0_117 (fun q => absurd q (by decide)) (fun _ => ?_)
      refine go_push c0_120 ?_
      refine go_iload c0_121 rfl ?_
      refine go_iload c0_123 rfl ?_
      refine go_iload c0_125 rfl ?_
      refine go_callS1 (y := x) (W := 0) (argsL := [(.int 4), (.int 1), (.int 3), (.int b4)]) (st := []) c0_127 (rm_ok_out2 l Z a0 hw h0 n0 _ P0 4 1 3 b4 (by decide)) (t9 hw) (t10 hw) (t11 hw) (t12 hw) (by decide) (lenOf pd2 rfl) rfl rfl (by decide) (by decide) (by decide) (by decide) rfl ?_
      rintro _ _ ⟨rfl, rfl⟩
      refine go_more (k' := 1) (n' := 5) (by decide) (by decide) ?_
      refine go_if_eq c0_130 (fun q => absurd q (by decide)) (fun _ => ?_)
      refine go_push c0_133 ?_
      refine go_goto c0_134 ?_
      exact J138 _ (by simp [own_can, own_c1, s1, s2])
set_option maxRecDepth 65536 in
set_option maxHeartbeats 4000000 in
theorem law_1_4 (l : Launch) (Z : State) (a0 : Array Value) (hw : ∀ d ∈ tables_1, d.before a0 Z = true) (h0 : Heap) (n0 : Nat) (ar : Addr) (b0 b1 b2 b3 b4 : Int32) (rg aa cc : Int32) (P0 : Hp Z n0 h0 [(ar, (.inr (.byte, "[B", [(.int (nar .byte b0.toInt8.toInt32)), (.int (nar .byte b1.toInt8.toInt32)), (.int (nar .byte b2.toInt8.toInt32)), (.int (nar .byte b3.toInt8.toInt32)), (.int (nar .byte b4.toInt8.toInt32))])))]) (kd : Addr) (kc : Cell) (Sk : Sta Z Z.heap "com/example/bouncr/bouncr/PathPattern" "KINDS" "[B" (.ref kd)) (Ak : Arr Z Z.heap kd kc .byte) (hsz : kc.slots.size = 256) (Tk : ∀ j, j < 256 → kc.slots[j]? = some (.int (own_kd j))) :
    Go false KT l Z room_1 x code maxLocals ret n0 room_1.cells room_1.slots (R1 fun w _ => w = .int 1) h0 1 5 72 [.val (.int b0), .val (.int b1), .val (.int b2), .val (.int b3), .val (.int b4), .val (.int rg), .val (.ref ar), .val (.int aa), .val (.int cc), .val (.int 1), .val (.int 4), .unset] [] := by
  have J138 : ∀ ex : Int32, own_can 1 4 (own_saw (Int32.ofNat (own_oct b0))) (own_saw (Int32.ofNat (own_oct b1))) (own_saw (Int32.ofNat (own_oct b2))) (own_saw (Int32.ofNat (own_oct b3))) (own_saw (Int32.ofNat (own_oct b4))) = ex → Go false KT l Z room_1 x code maxLocals ret n0 room_1.cells room_1.slots (R1 fun w _ => w = .int 1) h0 1 5 138 [.val (.int b0), .val (.int b1), .val (.int b2), .val (.int b3), .val (.int b4), .val (.int rg), .val (.ref ar), .val (.int aa), .val (.int cc), .val (.int 1), .val (.int 4), .unset] [(.int ex)] := by
    intro ex hex
    refine go_istore c0_138 rfl rfl ?_
    dsimp only [setl]
    refine go_aload c0_140 rfl rfl ?_
    refine go_iload c0_142 rfl ?_
    refine go_iload c0_144 rfl ?_
    refine go_callS1 (y := x) (W := 0) (argsL := [(.ref ar), (.int 1), (.int 4)]) (st := []) c0_146 (rm_can1_4 l Z a0 hw h0 n0 ar b0 b1 b2 b3 b4 P0 kd kc Sk Ak hsz Tk) (t16 hw) (t17 hw) (t18 hw) (t19 hw) (by decide) (lenOf pd1 rfl) rfl rfl (by decide) (by decide) (by decide) (by decide) rfl ?_
    rintro _ _ ⟨rfl, rfl⟩
    refine go_more (k' := 1) (n' := 5) (by decide) (by decide) ?_
    refine go_iload c0_149 rfl ?_
    refine go_icmp_ne c0_151 (fun b151 => ?_) (fun b151 => ?_)
    · exact absurd hex b151
    · refine go_push c0_154 ?_
      refine go_goto c0_155 ?_
      exact go_bret rfl c0_159 (by decide) (by decide) (by decide) ⟨_, rfl, rfl⟩
  refine go_push c0_72 ?_
  refine go_iload c0_73 rfl ?_
  refine go_iload c0_75 rfl ?_
  refine go_iload c0_77 rfl ?_
  refine go_callS1 (y := x) (W := 0) (argsL := [(.int 0), (.int 1), (.int 4), (.int b0)]) (st := []) c0_78 (rm_ok_out1 l Z a0 hw h0 n0 _ P0 0 1 4 b0 (by decide)) (t9 hw) (t10 hw) (t11 hw) (t12 hw) (by decide) (lenOf pd2 rfl) rfl rfl (by decide) (by decide) (by decide) (by decide) rfl ?_
  rintro _ _ ⟨rfl, rfl⟩
  refine go_more (k' := 1) (n' := 5) (by decide) (by decide) ?_
  refine go_if_eq c0_81 (fun q => absurd q (by decide)) (fun _ => ?_)
  refine go_push c0_84 ?_
  refine go_iload c0_85 rfl ?_
  refine go_iload c0_87 rfl ?_
  refine go_iload c0_89 rfl ?_
  refine go_callS1 (y := x) (W := 0) (argsL := [(.int 1), (.int 1), (.int 4), (.int b1)]) (st := []) c0_90 (rm_ok_in l Z a0 hw h0 n0 _ P0 1 1 4 b1 (by decide)) (t9 hw) (t10 hw) (t11 hw) (t12 hw) (by decide) (lenOf pd2 rfl) rfl rfl (by decide) (by decide) (by decide) (by decide) rfl ?_
  rintro _ _ ⟨rfl, rfl⟩
  refine go_more (k' := 1) (n' := 5) (by decide) (by decide) ?_
  refine go_if_eq c0_93 (fun s1 => ?_) (fun s1 => ?_)
  · refine go_push c0_137 ?_
    exact J138 _ (by simp [own_can, own_c1, s1])
  · refine go_push c0_96 ?_
    refine go_iload c0_97 rfl ?_
    refine go_iload c0_99 rfl ?_
    refine go_iload c0_101 rfl ?_
    refine go_callS1 (y := x) (W := 0) (argsL := [(.int 2), (.int 1), (.int 4), (.int b2)]) (st := []) c0_102 (rm_ok_in l Z a0 hw h0 n0 _ P0 2 1 4 b2 (by decide)) (t9 hw) (t10 hw) (t11 hw) (t12 hw) (by decide) (lenOf pd2 rfl) rfl rfl (by decide) (by decide) (by decide) (by decide) rfl ?_
    rintro _ _ ⟨rfl, rfl⟩
    refine go_more (k' := 1) (n' := 5) (by decide) (by decide) ?_
    refine go_if_eq c0_105 (fun s2 => ?_) (fun s2 => ?_)
    · refine go_push c0_137 ?_
      exact J138 _ (by simp [own_can, own_c1, s1, s2])
    · refine go_push c0_108 ?_
      refine go_iload c0_109 rfl ?_
      refine go_iload c0_111 rfl ?_
      refine go_iload c0_113 rfl ?_
      refine go_callS1 (y := x) (W := 0) (argsL := [(.int 3), (.int 1), (.int 4), (.int b3)]) (st := []) c0_114 (rm_ok_in l Z a0 hw h0 n0 _ P0 3 1 4 b3 (by decide)) (t9 hw) (t10 hw) (t11 hw) (t12 hw) (by decide) (lenOf pd2 rfl) rfl rfl (by decide) (by decide) (by decide) (by decide) rfl ?_
      rintro _ _ ⟨rfl, rfl⟩
      refine go_more (k' := 1) (n' := 5) (by decide) (by decide) ?_
      refine go_if_eq c0_117 (fun s3 => ?_) (fun s3 => ?_)
      · refine go_push c0_137 ?_
        exact J138 _ (by simp [own_can, own_c1, s1, s2, s3])
      · refine go_push c0_120 ?_
        refine go_iload c0_121 rfl ?_
        refine go_iload c0_123 rfl ?_
        refine go_iload c0_125 rfl ?_
        refine go_callS1 (y := x) (W := 0) (argsL := [(.int 4), (.int 1), (.int 4), (.int b4)]) (st := []) c0_127 (rm_ok_out2 l Z a0 hw h0 n0 _ P0 4 1 4 b4 (by decide)) (t9 hw) (t10 hw) (t11 hw) (t12 hw) (by decide) (lenOf pd2 rfl) rfl rfl (by decide) (by decide) (by decide) (by decide) rfl ?_
        rintro _ _ ⟨rfl, rfl⟩
        refine go_more (k' := 1) (n' := 5) (by decide) (by decide) ?_
        refine go_if_eq c0_130 (fun q => absurd q (by decide)) (fun _ => ?_)
        refine go_push c0_133 ?_
        refine go_goto c0_134 ?_
        exact J138 _ (by simp [own_can, own_c1, s1, s2, s3])
set_option maxRecDepth 65536 in
set_option maxHeartbeats 4000000 in
theorem law_1_5 (l : Launch) (Z : State) (a0 : Array Value) (hw : ∀ d ∈ tables_1, d.before a0 Z = true) (h0 : Heap) (n0 : Nat) (ar : Addr) (b0 b1 b2 b3 b4 : Int32) (rg aa cc : Int32) (P0 : Hp Z n0 h0 [(ar, (.inr (.byte, "[B", [(.int (nar .byte b0.toInt8.toInt32)), (.int (nar .byte b1.toInt8.toInt32)), (.int (nar .byte b2.toInt8.toInt32)), (.int (nar .byte b3.toInt8.toInt32)), (.int (nar .byte b4.toInt8.toInt32))])))]) (kd : Addr) (kc : Cell) (Sk : Sta Z Z.heap "com/example/bouncr/bouncr/PathPattern" "KINDS" "[B" (.ref kd)) (Ak : Arr Z Z.heap kd kc .byte) (hsz : kc.slots.size = 256) (Tk : ∀ j, j < 256 → kc.slots[j]? = some (.int (own_kd j))) :
    Go false KT l Z room_1 x code maxLocals ret n0 room_1.cells room_1.slots (R1 fun w _ => w = .int 1) h0 1 5 72 [.val (.int b0), .val (.int b1), .val (.int b2), .val (.int b3), .val (.int b4), .val (.int rg), .val (.ref ar), .val (.int aa), .val (.int cc), .val (.int 1), .val (.int 5), .unset] [] := by
  have J138 : ∀ ex : Int32, own_can 1 5 (own_saw (Int32.ofNat (own_oct b0))) (own_saw (Int32.ofNat (own_oct b1))) (own_saw (Int32.ofNat (own_oct b2))) (own_saw (Int32.ofNat (own_oct b3))) (own_saw (Int32.ofNat (own_oct b4))) = ex → Go false KT l Z room_1 x code maxLocals ret n0 room_1.cells room_1.slots (R1 fun w _ => w = .int 1) h0 1 5 138 [.val (.int b0), .val (.int b1), .val (.int b2), .val (.int b3), .val (.int b4), .val (.int rg), .val (.ref ar), .val (.int aa), .val (.int cc), .val (.int 1), .val (.int 5), .unset] [(.int ex)] := by
    intro ex hex
    refine go_istore c0_138 rfl rfl ?_
    dsimp only [setl]
    refine go_aload c0_140 rfl rfl ?_
    refine go_iload c0_142 rfl ?_
    refine go_iload c0_144 rfl ?_
    refine go_callS1 (y := x) (W := 0) (argsL := [(.ref ar), (.int 1), (.int 5)]) (st := []) c0_146 (rm_can1_5 l Z a0 hw h0 n0 ar b0 b1 b2 b3 b4 P0 kd kc Sk Ak hsz Tk) (t16 hw) (t17 hw) (t18 hw) (t19 hw) (by decide) (lenOf pd1 rfl) rfl rfl (by decide) (by decide) (by decide) (by decide) rfl ?_
    rintro _ _ ⟨rfl, rfl⟩
    refine go_more (k' := 1) (n' := 5) (by decide) (by decide) ?_
    refine go_iload c0_149 rfl ?_
    refine go_icmp_ne c0_151 (fun b151 => ?_) (fun b151 => ?_)
    · exact absurd hex b151
    · refine go_push c0_154 ?_
      refine go_goto c0_155 ?_
      exact go_bret rfl c0_159 (by decide) (by decide) (by decide) ⟨_, rfl, rfl⟩
  refine go_push c0_72 ?_
  refine go_iload c0_73 rfl ?_
  refine go_iload c0_75 rfl ?_
  refine go_iload c0_77 rfl ?_
  refine go_callS1 (y := x) (W := 0) (argsL := [(.int 0), (.int 1), (.int 5), (.int b0)]) (st := []) c0_78 (rm_ok_out1 l Z a0 hw h0 n0 _ P0 0 1 5 b0 (by decide)) (t9 hw) (t10 hw) (t11 hw) (t12 hw) (by decide) (lenOf pd2 rfl) rfl rfl (by decide) (by decide) (by decide) (by decide) rfl ?_
  rintro _ _ ⟨rfl, rfl⟩
  refine go_more (k' := 1) (n' := 5) (by decide) (by decide) ?_
  refine go_if_eq c0_81 (fun q => absurd q (by decide)) (fun _ => ?_)
  refine go_push c0_84 ?_
  refine go_iload c0_85 rfl ?_
  refine go_iload c0_87 rfl ?_
  refine go_iload c0_89 rfl ?_
  refine go_callS1 (y := x) (W := 0) (argsL := [(.int 1), (.int 1), (.int 5), (.int b1)]) (st := []) c0_90 (rm_ok_in l Z a0 hw h0 n0 _ P0 1 1 5 b1 (by decide)) (t9 hw) (t10 hw) (t11 hw) (t12 hw) (by decide) (lenOf pd2 rfl) rfl rfl (by decide) (by decide) (by decide) (by decide) rfl ?_
  rintro _ _ ⟨rfl, rfl⟩
  refine go_more (k' := 1) (n' := 5) (by decide) (by decide) ?_
  refine go_if_eq c0_93 (fun s1 => ?_) (fun s1 => ?_)
  · refine go_push c0_137 ?_
    exact J138 _ (by simp [own_can, own_c1, s1])
  · refine go_push c0_96 ?_
    refine go_iload c0_97 rfl ?_
    refine go_iload c0_99 rfl ?_
    refine go_iload c0_101 rfl ?_
    refine go_callS1 (y := x) (W := 0) (argsL := [(.int 2), (.int 1), (.int 5), (.int b2)]) (st := []) c0_102 (rm_ok_in l Z a0 hw h0 n0 _ P0 2 1 5 b2 (by decide)) (t9 hw) (t10 hw) (t11 hw) (t12 hw) (by decide) (lenOf pd2 rfl) rfl rfl (by decide) (by decide) (by decide) (by decide) rfl ?_
    rintro _ _ ⟨rfl, rfl⟩
    refine go_more (k' := 1) (n' := 5) (by decide) (by decide) ?_
    refine go_if_eq c0_105 (fun s2 => ?_) (fun s2 => ?_)
    · refine go_push c0_137 ?_
      exact J138 _ (by simp [own_can, own_c1, s1, s2])
    · refine go_push c0_108 ?_
      refine go_iload c0_109 rfl ?_
      refine go_iload c0_111 rfl ?_
      refine go_iload c0_113 rfl ?_
      refine go_callS1 (y := x) (W := 0) (argsL := [(.int 3), (.int 1), (.int 5), (.int b3)]) (st := []) c0_114 (rm_ok_in l Z a0 hw h0 n0 _ P0 3 1 5 b3 (by decide)) (t9 hw) (t10 hw) (t11 hw) (t12 hw) (by decide) (lenOf pd2 rfl) rfl rfl (by decide) (by decide) (by decide) (by decide) rfl ?_
      rintro _ _ ⟨rfl, rfl⟩
      refine go_more (k' := 1) (n' := 5) (by decide) (by decide) ?_
      refine go_if_eq c0_117 (fun s3 => ?_) (fun s3 => ?_)
      · refine go_push c0_137 ?_
        exact J138 _ (by simp [own_can, own_c1, s1, s2, s3])
      · refine go_push c0_120 ?_
        refine go_iload c0_121 rfl ?_
        refine go_iload c0_123 rfl ?_
        refine go_iload c0_125 rfl ?_
        refine go_callS1 (y := x) (W := 0) (argsL := [(.int 4), (.int 1), (.int 5), (.int b4)]) (st := []) c0_127 (rm_ok_in l Z a0 hw h0 n0 _ P0 4 1 5 b4 (by decide)) (t9 hw) (t10 hw) (t11 hw) (t12 hw) (by decide) (lenOf pd2 rfl) rfl rfl (by decide) (by decide) (by decide) (by decide) rfl ?_
        rintro _ _ ⟨rfl, rfl⟩
        refine go_more (k' := 1) (n' := 5) (by decide) (by decide) ?_
        refine go_if_eq c0_130 (fun s4 => ?_) (fun s4 => ?_)
        · refine go_push c0_137 ?_
          exact J138 _ (by simp [own_can, own_c1, s1, s2, s3, s4])
        · refine go_push c0_133 ?_
          refine go_goto c0_134 ?_
          exact J138 _ (by simp [own_can, own_c1, s1, s2, s3, s4])
set_option maxRecDepth 65536 in
set_option maxHeartbeats 4000000 in
theorem law_2_2 (l : Launch) (Z : State) (a0 : Array Value) (hw : ∀ d ∈ tables_1, d.before a0 Z = true) (h0 : Heap) (n0 : Nat) (ar : Addr) (b0 b1 b2 b3 b4 : Int32) (rg aa cc : Int32) (P0 : Hp Z n0 h0 [(ar, (.inr (.byte, "[B", [(.int (nar .byte b0.toInt8.toInt32)), (.int (nar .byte b1.toInt8.toInt32)), (.int (nar .byte b2.toInt8.toInt32)), (.int (nar .byte b3.toInt8.toInt32)), (.int (nar .byte b4.toInt8.toInt32))])))]) (kd : Addr) (kc : Cell) (Sk : Sta Z Z.heap "com/example/bouncr/bouncr/PathPattern" "KINDS" "[B" (.ref kd)) (Ak : Arr Z Z.heap kd kc .byte) (hsz : kc.slots.size = 256) (Tk : ∀ j, j < 256 → kc.slots[j]? = some (.int (own_kd j))) :
    Go false KT l Z room_1 x code maxLocals ret n0 room_1.cells room_1.slots (R1 fun w _ => w = .int 1) h0 1 5 72 [.val (.int b0), .val (.int b1), .val (.int b2), .val (.int b3), .val (.int b4), .val (.int rg), .val (.ref ar), .val (.int aa), .val (.int cc), .val (.int 2), .val (.int 2), .unset] [] := by
  have J138 : ∀ ex : Int32, own_can 2 2 (own_saw (Int32.ofNat (own_oct b0))) (own_saw (Int32.ofNat (own_oct b1))) (own_saw (Int32.ofNat (own_oct b2))) (own_saw (Int32.ofNat (own_oct b3))) (own_saw (Int32.ofNat (own_oct b4))) = ex → Go false KT l Z room_1 x code maxLocals ret n0 room_1.cells room_1.slots (R1 fun w _ => w = .int 1) h0 1 5 138 [.val (.int b0), .val (.int b1), .val (.int b2), .val (.int b3), .val (.int b4), .val (.int rg), .val (.ref ar), .val (.int aa), .val (.int cc), .val (.int 2), .val (.int 2), .unset] [(.int ex)] := by
    intro ex hex
    refine go_istore c0_138 rfl rfl ?_
    dsimp only [setl]
    refine go_aload c0_140 rfl rfl ?_
    refine go_iload c0_142 rfl ?_
    refine go_iload c0_144 rfl ?_
    refine go_callS1 (y := x) (W := 0) (argsL := [(.ref ar), (.int 2), (.int 2)]) (st := []) c0_146 (rm_can2_2 l Z a0 hw h0 n0 ar b0 b1 b2 b3 b4 P0 kd kc Sk Ak hsz Tk) (t16 hw) (t17 hw) (t18 hw) (t19 hw) (by decide) (lenOf pd1 rfl) rfl rfl (by decide) (by decide) (by decide) (by decide) rfl ?_
    rintro _ _ ⟨rfl, rfl⟩
    refine go_more (k' := 1) (n' := 5) (by decide) (by decide) ?_
    refine go_iload c0_149 rfl ?_
    refine go_icmp_ne c0_151 (fun b151 => ?_) (fun b151 => ?_)
    · exact absurd hex b151
    · refine go_push c0_154 ?_
      refine go_goto c0_155 ?_
      exact go_bret rfl c0_159 (by decide) (by decide) (by decide) ⟨_, rfl, rfl⟩
  refine go_push c0_72 ?_
  refine go_iload c0_73 rfl ?_
  refine go_iload c0_75 rfl ?_
  refine go_iload c0_77 rfl ?_
  refine go_callS1 (y := x) (W := 0) (argsL := [(.int 0), (.int 2), (.int 2), (.int b0)]) (st := []) c0_78 (rm_ok_out1 l Z a0 hw h0 n0 _ P0 0 2 2 b0 (by decide)) (t9 hw) (t10 hw) (t11 hw) (t12 hw) (by decide) (lenOf pd2 rfl) rfl rfl (by decide) (by decide) (by decide) (by decide) rfl ?_
  rintro _ _ ⟨rfl, rfl⟩
  refine go_more (k' := 1) (n' := 5) (by decide) (by decide) ?_
  refine go_if_eq c0_81 (fun q => absurd q (by decide)) (fun _ => ?_)
  refine go_push c0_84 ?_
  refine go_iload c0_85 rfl ?_
  refine go_iload c0_87 rfl ?_
  refine go_iload c0_89 rfl ?_
  refine go_callS1 (y := x) (W := 0) (argsL := [(.int 1), (.int 2), (.int 2), (.int b1)]) (st := []) c0_90 (rm_ok_out1 l Z a0 hw h0 n0 _ P0 1 2 2 b1 (by decide)) (t9 hw) (t10 hw) (t11 hw) (t12 hw) (by decide) (lenOf pd2 rfl) rfl rfl (by decide) (by decide) (by decide) (by decide) rfl ?_
  rintro _ _ ⟨rfl, rfl⟩
  refine go_more (k' := 1) (n' := 5) (by decide) (by decide) ?_
  refine go_if_eq c0_93 (fun q => absurd q (by decide)) (fun _ => ?_)
  refine go_push c0_96 ?_
  refine go_iload c0_97 rfl ?_
  refine go_iload c0_99 rfl ?_
  refine go_iload c0_101 rfl ?_
  refine go_callS1 (y := x) (W := 0) (argsL := [(.int 2), (.int 2), (.int 2), (.int b2)]) (st := []) c0_102 (rm_ok_out2 l Z a0 hw h0 n0 _ P0 2 2 2 b2 (by decide)) (t9 hw) (t10 hw) (t11 hw) (t12 hw) (by decide) (lenOf pd2 rfl) rfl rfl (by decide) (by decide) (by decide) (by decide) rfl ?_
  rintro _ _ ⟨rfl, rfl⟩
  refine go_more (k' := 1) (n' := 5) (by decide) (by decide) ?_
  refine go_if_eq c0_105 (fun q => absurd q (by decide)) (fun _ => ?_)
  refine go_push c0_108 ?_
  refine go_iload c0_109 rfl ?_
  refine go_iload c0_111 rfl ?_
  refine go_iload c0_113 rfl ?_
  refine go_callS1 (y := x) (W := 0) (argsL := [(.int 3), (.int 2), (.int 2), (.int b3)]) (st := []) c0_114 (rm_ok_out2 l Z a0 hw h0 n0 _ P0 3 2 2 b3 (by decide)) (t9 hw) (t10 hw) (t11 hw) (t12 hw) (by decide) (lenOf pd2 rfl) rfl rfl (by decide) (by decide) (by decide) (by decide) rfl ?_
  rintro _ _ ⟨rfl, rfl⟩
  refine go_more (k' := 1) (n' := 5) (by decide) (by decide) ?_
  refine go_if_eq c0_117 (fun q => absurd q (by decide)) (fun _ => ?_)
  refine go_push c0_120 ?_
  refine go_iload c0_121 rfl ?_
  refine go_iload c0_123 rfl ?_
  refine go_iload c0_125 rfl ?_
  refine go_callS1 (y := x) (W := 0) (argsL := [(.int 4), (.int 2), (.int 2), (.int b4)]) (st := []) c0_127 (rm_ok_out2 l Z a0 hw h0 n0 _ P0 4 2 2 b4 (by decide)) (t9 hw) (t10 hw) (t11 hw) (t12 hw) (by decide) (lenOf pd2 rfl) rfl rfl (by decide) (by decide) (by decide) (by decide) rfl ?_
  rintro _ _ ⟨rfl, rfl⟩
  refine go_more (k' := 1) (n' := 5) (by decide) (by decide) ?_
  refine go_if_eq c0_130 (fun q => absurd q (by decide)) (fun _ => ?_)
  refine go_push c0_133 ?_
  refine go_goto c0_134 ?_
  exact J138 _ (by simp [own_can, own_c1])
set_option maxRecDepth 65536 in
set_option maxHeartbeats 4000000 in
theorem law_2_3 (l : Launch) (Z : State) (a0 : Array Value) (hw : ∀ d ∈ tables_1, d.before a0 Z = true) (h0 : Heap) (n0 : Nat) (ar : Addr) (b0 b1 b2 b3 b4 : Int32) (rg aa cc : Int32) (P0 : Hp Z n0 h0 [(ar, (.inr (.byte, "[B", [(.int (nar .byte b0.toInt8.toInt32)), (.int (nar .byte b1.toInt8.toInt32)), (.int (nar .byte b2.toInt8.toInt32)), (.int (nar .byte b3.toInt8.toInt32)), (.int (nar .byte b4.toInt8.toInt32))])))]) (kd : Addr) (kc : Cell) (Sk : Sta Z Z.heap "com/example/bouncr/bouncr/PathPattern" "KINDS" "[B" (.ref kd)) (Ak : Arr Z Z.heap kd kc .byte) (hsz : kc.slots.size = 256) (Tk : ∀ j, j < 256 → kc.slots[j]? = some (.int (own_kd j))) :
    Go false KT l Z room_1 x code maxLocals ret n0 room_1.cells room_1.slots (R1 fun w _ => w = .int 1) h0 1 5 72 [.val (.int b0), .val (.int b1), .val (.int b2), .val (.int b3), .val (.int b4), .val (.int rg), .val (.ref ar), .val (.int aa), .val (.int cc), .val (.int 2), .val (.int 3), .unset] [] := by
  have J138 : ∀ ex : Int32, own_can 2 3 (own_saw (Int32.ofNat (own_oct b0))) (own_saw (Int32.ofNat (own_oct b1))) (own_saw (Int32.ofNat (own_oct b2))) (own_saw (Int32.ofNat (own_oct b3))) (own_saw (Int32.ofNat (own_oct b4))) = ex → Go false KT l Z room_1 x code maxLocals ret n0 room_1.cells room_1.slots (R1 fun w _ => w = .int 1) h0 1 5 138 [.val (.int b0), .val (.int b1), .val (.int b2), .val (.int b3), .val (.int b4), .val (.int rg), .val (.ref ar), .val (.int aa), .val (.int cc), .val (.int 2), .val (.int 3), .unset] [(.int ex)] := by
    intro ex hex
    refine go_istore c0_138 rfl rfl ?_
    dsimp only [setl]
    refine go_aload c0_140 rfl rfl ?_
    refine go_iload c0_142 rfl ?_
    refine go_iload c0_144 rfl ?_
    refine go_callS1 (y := x) (W := 0) (argsL := [(.ref ar), (.int 2), (.int 3)]) (st := []) c0_146 (rm_can2_3 l Z a0 hw h0 n0 ar b0 b1 b2 b3 b4 P0 kd kc Sk Ak hsz Tk) (t16 hw) (t17 hw) (t18 hw) (t19 hw) (by decide) (lenOf pd1 rfl) rfl rfl (by decide) (by decide) (by decide) (by decide) rfl ?_
    rintro _ _ ⟨rfl, rfl⟩
    refine go_more (k' := 1) (n' := 5) (by decide) (by decide) ?_
    refine go_iload c0_149 rfl ?_
    refine go_icmp_ne c0_151 (fun b151 => ?_) (fun b151 => ?_)
    · exact absurd hex b151
    · refine go_push c0_154 ?_
      refine go_goto c0_155 ?_
      exact go_bret rfl c0_159 (by decide) (by decide) (by decide) ⟨_, rfl, rfl⟩
  refine go_push c0_72 ?_
  refine go_iload c0_73 rfl ?_
  refine go_iload c0_75 rfl ?_
  refine go_iload c0_77 rfl ?_
  refine go_callS1 (y := x) (W := 0) (argsL := [(.int 0), (.int 2), (.int 3), (.int b0)]) (st := []) c0_78 (rm_ok_out1 l Z a0 hw h0 n0 _ P0 0 2 3 b0 (by decide)) (t9 hw) (t10 hw) (t11 hw) (t12 hw) (by decide) (lenOf pd2 rfl) rfl rfl (by decide) (by decide) (by decide) (by decide) rfl ?_
  rintro _ _ ⟨rfl, rfl⟩
  refine go_more (k' := 1) (n' := 5) (by decide) (by decide) ?_
  refine go_if_eq c0_81 (fun q => absurd q (by decide)) (fun _ => ?_)
  refine go_push c0_84 ?_
  refine go_iload c0_85 rfl ?_
  refine go_iload c0_87 rfl ?_
  refine go_iload c0_89 rfl ?_
  refine go_callS1 (y := x) (W := 0) (argsL := [(.int 1), (.int 2), (.int 3), (.int b1)]) (st := []) c0_90 (rm_ok_out1 l Z a0 hw h0 n0 _ P0 1 2 3 b1 (by decide)) (t9 hw) (t10 hw) (t11 hw) (t12 hw) (by decide) (lenOf pd2 rfl) rfl rfl (by decide) (by decide) (by decide) (by decide) rfl ?_
  rintro _ _ ⟨rfl, rfl⟩
  refine go_more (k' := 1) (n' := 5) (by decide) (by decide) ?_
  refine go_if_eq c0_93 (fun q => absurd q (by decide)) (fun _ => ?_)
  refine go_push c0_96 ?_
  refine go_iload c0_97 rfl ?_
  refine go_iload c0_99 rfl ?_
  refine go_iload c0_101 rfl ?_
  refine go_callS1 (y := x) (W := 0) (argsL := [(.int 2), (.int 2), (.int 3), (.int b2)]) (st := []) c0_102 (rm_ok_in l Z a0 hw h0 n0 _ P0 2 2 3 b2 (by decide)) (t9 hw) (t10 hw) (t11 hw) (t12 hw) (by decide) (lenOf pd2 rfl) rfl rfl (by decide) (by decide) (by decide) (by decide) rfl ?_
  rintro _ _ ⟨rfl, rfl⟩
  refine go_more (k' := 1) (n' := 5) (by decide) (by decide) ?_
  refine go_if_eq c0_105 (fun s2 => ?_) (fun s2 => ?_)
  · refine go_push c0_137 ?_
    exact J138 _ (by simp [own_can, own_c1, s2])
  · refine go_push c0_108 ?_
    refine go_iload c0_109 rfl ?_
    refine go_iload c0_111 rfl ?_
    refine go_iload c0_113 rfl ?_
    refine go_callS1 (y := x) (W := 0) (argsL := [(.int 3), (.int 2), (.int 3), (.int b3)]) (st := []) c0_114 (rm_ok_out2 l Z a0 hw h0 n0 _ P0 3 2 3 b3 (by decide)) (t9 hw) (t10 hw) (t11 hw) (t12 hw) (by decide) (lenOf pd2 rfl) rfl rfl (by decide) (by decide) (by decide) (by decide) rfl ?_
    rintro _ _ ⟨rfl, rfl⟩
    refine go_more (k' := 1) (n' := 5) (by decide) (by decide) ?_
    refine go_if_eq c0_117 (fun q => absurd q (by decide)) (fun _ => ?_)
    refine go_push c0_120 ?_
    refine go_iload c0_121 rfl ?_
    refine go_iload c0_123 rfl ?_
    refine go_iload c0_125 rfl ?_
    refine go_callS1 (y := x) (W := 0) (argsL := [(.int 4), (.int 2), (.int 3), (.int b4)]) (st := []) c0_127 (rm_ok_out2 l Z a0 hw h0 n0 _ P0 4 2 3 b4 (by decide)) (t9 hw) (t10 hw) (t11 hw) (t12 hw) (by decide) (lenOf pd2 rfl) rfl rfl (by decide) (by decide) (by decide) (by decide) rfl ?_
    rintro _ _ ⟨rfl, rfl⟩
    refine go_more (k' := 1) (n' := 5) (by decide) (by decide) ?_
    refine go_if_eq c0_130 (fun q => absurd q (by decide)) (fun _ => ?_)
    refine go_push c0_133 ?_
    refine go_goto c0_134 ?_
    exact J138 _ (by simp [own_can, own_c1, s2])
set_option maxRecDepth 65536 in
set_option maxHeartbeats 4000000 in
theorem law_2_4 (l : Launch) (Z : State) (a0 : Array Value) (hw : ∀ d ∈ tables_1, d.before a0 Z = true) (h0 : Heap) (n0 : Nat) (ar : Addr) (b0 b1 b2 b3 b4 : Int32) (rg aa cc : Int32) (P0 : Hp Z n0 h0 [(ar, (.inr (.byte, "[B", [(.int (nar .byte b0.toInt8.toInt32)), (.int (nar .byte b1.toInt8.toInt32)), (.int (nar .byte b2.toInt8.toInt32)), (.int (nar .byte b3.toInt8.toInt32)), (.int (nar .byte b4.toInt8.toInt32))])))]) (kd : Addr) (kc : Cell) (Sk : Sta Z Z.heap "com/example/bouncr/bouncr/PathPattern" "KINDS" "[B" (.ref kd)) (Ak : Arr Z Z.heap kd kc .byte) (hsz : kc.slots.size = 256) (Tk : ∀ j, j < 256 → kc.slots[j]? = some (.int (own_kd j))) :
    Go false KT l Z room_1 x code maxLocals ret n0 room_1.cells room_1.slots (R1 fun w _ => w = .int 1) h0 1 5 72 [.val (.int b0), .val (.int b1), .val (.int b2), .val (.int b3), .val (.int b4), .val (.int rg), .val (.ref ar), .val (.int aa), .val (.int cc), .val (.int 2), .val (.int 4), .unset] [] := by
  have J138 : ∀ ex : Int32, own_can 2 4 (own_saw (Int32.ofNat (own_oct b0))) (own_saw (Int32.ofNat (own_oct b1))) (own_saw (Int32.ofNat (own_oct b2))) (own_saw (Int32.ofNat (own_oct b3))) (own_saw (Int32.ofNat (own_oct b4))) = ex → Go false KT l Z room_1 x code maxLocals ret n0 room_1.cells room_1.slots (R1 fun w _ => w = .int 1) h0 1 5 138 [.val (.int b0), .val (.int b1), .val (.int b2), .val (.int b3), .val (.int b4), .val (.int rg), .val (.ref ar), .val (.int aa), .val (.int cc), .val (.int 2), .val (.int 4), .unset] [(.int ex)] := by
    intro ex hex
    refine go_istore c0_138 rfl rfl ?_
    dsimp only [setl]
    refine go_aload c0_140 rfl rfl ?_
    refine go_iload c0_142 rfl ?_
    refine go_iload c0_144 rfl ?_
    refine go_callS1 (y := x) (W := 0) (argsL := [(.ref ar), (.int 2), (.int 4)]) (st := []) c0_146 (rm_can2_4 l Z a0 hw h0 n0 ar b0 b1 b2 b3 b4 P0 kd kc Sk Ak hsz Tk) (t16 hw) (t17 hw) (t18 hw) (t19 hw) (by decide) (lenOf pd1 rfl) rfl rfl (by decide) (by decide) (by decide) (by decide) rfl ?_
    rintro _ _ ⟨rfl, rfl⟩
    refine go_more (k' := 1) (n' := 5) (by decide) (by decide) ?_
    refine go_iload c0_149 rfl ?_
    refine go_icmp_ne c0_151 (fun b151 => ?_) (fun b151 => ?_)
    · exact absurd hex b151
    · refine go_push c0_154 ?_
      refine go_goto c0_155 ?_
      exact go_bret rfl c0_159 (by decide) (by decide) (by decide) ⟨_, rfl, rfl⟩
  refine go_push c0_72 ?_
  refine go_iload c0_73 rfl ?_
  refine go_iload c0_75 rfl ?_
  refine go_iload c0_77 rfl ?_
  refine go_callS1 (y := x) (W := 0) (argsL := [(.int 0), (.int 2), (.int 4), (.int b0)]) (st := []) c0_78 (rm_ok_out1 l Z a0 hw h0 n0 _ P0 0 2 4 b0 (by decide)) (t9 hw) (t10 hw) (t11 hw) (t12 hw) (by decide) (lenOf pd2 rfl) rfl rfl (by decide) (by decide) (by decide) (by decide) rfl ?_
  rintro _ _ ⟨rfl, rfl⟩
  refine go_more (k' := 1) (n' := 5) (by decide) (by decide) ?_
  refine go_if_eq c0_81 (fun q => absurd q (by decide)) (fun _ => ?_)
  refine go_push c0_84 ?_
  refine go_iload c0_85 rfl ?_
  refine go_iload c0_87 rfl ?_
  refine go_iload c0_89 rfl ?_
  refine go_callS1 (y := x) (W := 0) (argsL := [(.int 1), (.int 2), (.int 4), (.int b1)]) (st := []) c0_90 (rm_ok_out1 l Z a0 hw h0 n0 _ P0 1 2 4 b1 (by decide)) (t9 hw) (t10 hw) (t11 hw) (t12 hw) (by decide) (lenOf pd2 rfl) rfl rfl (by decide) (by decide) (by decide) (by decide) rfl ?_
  rintro _ _ ⟨rfl, rfl⟩
  refine go_more (k' := 1) (n' := 5) (by decide) (by decide) ?_
  refine go_if_eq c0_93 (fun q => absurd q (by decide)) (fun _ => ?_)
  refine go_push c0_96 ?_
  refine go_iload c0_97 rfl ?_
  refine go_iload c0_99 rfl ?_
  refine go_iload c0_101 rfl ?_
  refine go_callS1 (y := x) (W := 0) (argsL := [(.int 2), (.int 2), (.int 4), (.int b2)]) (st := []) c0_102 (rm_ok_in l Z a0 hw h0 n0 _ P0 2 2 4 b2 (by decide)) (t9 hw) (t10 hw) (t11 hw) (t12 hw) (by decide) (lenOf pd2 rfl) rfl rfl (by decide) (by decide) (by decide) (by decide) rfl ?_
  rintro _ _ ⟨rfl, rfl⟩
  refine go_more (k' := 1) (n' := 5) (by decide) (by decide) ?_
  refine go_if_eq c0_105 (fun s2 => ?_) (fun s2 => ?_)
  · refine go_push c0_137 ?_
    exact J138 _ (by simp [own_can, own_c1, s2])
  · refine go_push c0_108 ?_
    refine go_iload c0_109 rfl ?_
    refine go_iload c0_111 rfl ?_
    refine go_iload c0_113 rfl ?_
    refine go_callS1 (y := x) (W := 0) (argsL := [(.int 3), (.int 2), (.int 4), (.int b3)]) (st := []) c0_114 (rm_ok_in l Z a0 hw h0 n0 _ P0 3 2 4 b3 (by decide)) (t9 hw) (t10 hw) (t11 hw) (t12 hw) (by decide) (lenOf pd2 rfl) rfl rfl (by decide) (by decide) (by decide) (by decide) rfl ?_
    rintro _ _ ⟨rfl, rfl⟩
    refine go_more (k' := 1) (n' := 5) (by decide) (by decide) ?_
    refine go_if_eq c0_117 (fun s3 => ?_) (fun s3 => ?_)
    · refine go_push c0_137 ?_
      exact J138 _ (by simp [own_can, own_c1, s2, s3])
    · refine go_push c0_120 ?_
      refine go_iload c0_121 rfl ?_
      refine go_iload c0_123 rfl ?_
      refine go_iload c0_125 rfl ?_
      refine go_callS1 (y := x) (W := 0) (argsL := [(.int 4), (.int 2), (.int 4), (.int b4)]) (st := []) c0_127 (rm_ok_out2 l Z a0 hw h0 n0 _ P0 4 2 4 b4 (by decide)) (t9 hw) (t10 hw) (t11 hw) (t12 hw) (by decide) (lenOf pd2 rfl) rfl rfl (by decide) (by decide) (by decide) (by decide) rfl ?_
      rintro _ _ ⟨rfl, rfl⟩
      refine go_more (k' := 1) (n' := 5) (by decide) (by decide) ?_
      refine go_if_eq c0_130 (fun q => absurd q (by decide)) (fun _ => ?_)
      refine go_push c0_133 ?_
      refine go_goto c0_134 ?_
      exact J138 _ (by simp [own_can, own_c1, s2, s3])
set_option maxRecDepth 65536 in
set_option maxHeartbeats 4000000 in
theorem law_2_5 (l : Launch) (Z : State) (a0 : Array Value) (hw : ∀ d ∈ tables_1, d.before a0 Z = true) (h0 : Heap) (n0 : Nat) (ar : Addr) (b0 b1 b2 b3 b4 : Int32) (rg aa cc : Int32) (P0 : Hp Z n0 h0 [(ar, (.inr (.byte, "[B", [(.int (nar .byte b0.toInt8.toInt32)), (.int (nar .byte b1.toInt8.toInt32)), (.int (nar .byte b2.toInt8.toInt32)), (.int (nar .byte b3.toInt8.toInt32)), (.int (nar .byte b4.toInt8.toInt32))])))]) (kd : Addr) (kc : Cell) (Sk : Sta Z Z.heap "com/example/bouncr/bouncr/PathPattern" "KINDS" "[B" (.ref kd)) (Ak : Arr Z Z.heap kd kc .byte) (hsz : kc.slots.size = 256) (Tk : ∀ j, j < 256 → kc.slots[j]? = some (.int (own_kd j))) :
    Go false KT l Z room_1 x code maxLocals ret n0 room_1.cells room_1.slots (R1 fun w _ => w = .int 1) h0 1 5 72 [.val (.int b0), .val (.int b1), .val (.int b2), .val (.int b3), .val (.int b4), .val (.int rg), .val (.ref ar), .val (.int aa), .val (.int cc), .val (.int 2), .val (.int 5), .unset] [] := by
  have J138 : ∀ ex : Int32, own_can 2 5 (own_saw (Int32.ofNat (own_oct b0))) (own_saw (Int32.ofNat (own_oct b1))) (own_saw (Int32.ofNat (own_oct b2))) (own_saw (Int32.ofNat (own_oct b3))) (own_saw (Int32.ofNat (own_oct b4))) = ex → Go false KT l Z room_1 x code maxLocals ret n0 room_1.cells room_1.slots (R1 fun w _ => w = .int 1) h0 1 5 138 [.val (.int b0), .val (.int b1), .val (.int b2), .val (.int b3), .val (.int b4), .val (.int rg), .val (.ref ar), .val (.int aa), .val (.int cc), .val (.int 2), .val (.int 5), .unset] [(.int ex)] := by
    intro ex hex
    refine go_istore c0_138 rfl rfl ?_
    dsimp only [setl]
    refine go_aload c0_140 rfl rfl ?_
    refine go_iload c0_142 rfl ?_
    refine go_iload c0_144 rfl ?_
    refine go_callS1 (y := x) (W := 0) (argsL := [(.ref ar), (.int 2), (.int 5)]) (st := []) c0_146 (rm_can2_5 l Z a0 hw h0 n0 ar b0 b1 b2 b3 b4 P0 kd kc Sk Ak hsz Tk) (t16 hw) (t17 hw) (t18 hw) (t19 hw) (by decide) (lenOf pd1 rfl) rfl rfl (by decide) (by decide) (by decide) (by decide) rfl ?_
    rintro _ _ ⟨rfl, rfl⟩
    refine go_more (k' := 1) (n' := 5) (by decide) (by decide) ?_
    refine go_iload c0_149 rfl ?_
    refine go_icmp_ne c0_151 (fun b151 => ?_) (fun b151 => ?_)
    · exact absurd hex b151
    · refine go_push c0_154 ?_
      refine go_goto c0_155 ?_
      exact go_bret rfl c0_159 (by decide) (by decide) (by decide) ⟨_, rfl, rfl⟩
  refine go_push c0_72 ?_
  refine go_iload c0_73 rfl ?_
  refine go_iload c0_75 rfl ?_
  refine go_iload c0_77 rfl ?_
  refine go_callS1 (y := x) (W := 0) (argsL := [(.int 0), (.int 2), (.int 5), (.int b0)]) (st := []) c0_78 (rm_ok_out1 l Z a0 hw h0 n0 _ P0 0 2 5 b0 (by decide)) (t9 hw) (t10 hw) (t11 hw) (t12 hw) (by decide) (lenOf pd2 rfl) rfl rfl (by decide) (by decide) (by decide) (by decide) rfl ?_
  rintro _ _ ⟨rfl, rfl⟩
  refine go_more (k' := 1) (n' := 5) (by decide) (by decide) ?_
  refine go_if_eq c0_81 (fun q => absurd q (by decide)) (fun _ => ?_)
  refine go_push c0_84 ?_
  refine go_iload c0_85 rfl ?_
  refine go_iload c0_87 rfl ?_
  refine go_iload c0_89 rfl ?_
  refine go_callS1 (y := x) (W := 0) (argsL := [(.int 1), (.int 2), (.int 5), (.int b1)]) (st := []) c0_90 (rm_ok_out1 l Z a0 hw h0 n0 _ P0 1 2 5 b1 (by decide)) (t9 hw) (t10 hw) (t11 hw) (t12 hw) (by decide) (lenOf pd2 rfl) rfl rfl (by decide) (by decide) (by decide) (by decide) rfl ?_
  rintro _ _ ⟨rfl, rfl⟩
  refine go_more (k' := 1) (n' := 5) (by decide) (by decide) ?_
  refine go_if_eq c0_93 (fun q => absurd q (by decide)) (fun _ => ?_)
  refine go_push c0_96 ?_
  refine go_iload c0_97 rfl ?_
  refine go_iload c0_99 rfl ?_
  refine go_iload c0_101 rfl ?_
  refine go_callS1 (y := x) (W := 0) (argsL := [(.int 2), (.int 2), (.int 5), (.int b2)]) (st := []) c0_102 (rm_ok_in l Z a0 hw h0 n0 _ P0 2 2 5 b2 (by decide)) (t9 hw) (t10 hw) (t11 hw) (t12 hw) (by decide) (lenOf pd2 rfl) rfl rfl (by decide) (by decide) (by decide) (by decide) rfl ?_
  rintro _ _ ⟨rfl, rfl⟩
  refine go_more (k' := 1) (n' := 5) (by decide) (by decide) ?_
  refine go_if_eq c0_105 (fun s2 => ?_) (fun s2 => ?_)
  · refine go_push c0_137 ?_
    exact J138 _ (by simp [own_can, own_c1, s2])
  · refine go_push c0_108 ?_
    refine go_iload c0_109 rfl ?_
    refine go_iload c0_111 rfl ?_
    refine go_iload c0_113 rfl ?_
    refine go_callS1 (y := x) (W := 0) (argsL := [(.int 3), (.int 2), (.int 5), (.int b3)]) (st := []) c0_114 (rm_ok_in l Z a0 hw h0 n0 _ P0 3 2 5 b3 (by decide)) (t9 hw) (t10 hw) (t11 hw) (t12 hw) (by decide) (lenOf pd2 rfl) rfl rfl (by decide) (by decide) (by decide) (by decide) rfl ?_
    rintro _ _ ⟨rfl, rfl⟩
    refine go_more (k' := 1) (n' := 5) (by decide) (by decide) ?_
    refine go_if_eq c0_117 (fun s3 => ?_) (fun s3 => ?_)
    · refine go_push c0_137 ?_
      exact J138 _ (by simp [own_can, own_c1, s2, s3])
    · refine go_push c0_120 ?_
      refine go_iload c0_121 rfl ?_
      refine go_iload c0_123 rfl ?_
      refine go_iload c0_125 rfl ?_
      refine go_callS1 (y := x) (W := 0) (argsL := [(.int 4), (.int 2), (.int 5), (.int b4)]) (st := []) c0_127 (rm_ok_in l Z a0 hw h0 n0 _ P0 4 2 5 b4 (by decide)) (t9 hw) (t10 hw) (t11 hw) (t12 hw) (by decide) (lenOf pd2 rfl) rfl rfl (by decide) (by decide) (by decide) (by decide) rfl ?_
      rintro _ _ ⟨rfl, rfl⟩
      refine go_more (k' := 1) (n' := 5) (by decide) (by decide) ?_
      refine go_if_eq c0_130 (fun s4 => ?_) (fun s4 => ?_)
      · refine go_push c0_137 ?_
        exact J138 _ (by simp [own_can, own_c1, s2, s3, s4])
      · refine go_push c0_133 ?_
        refine go_goto c0_134 ?_
        exact J138 _ (by simp [own_can, own_c1, s2, s3, s4])
set_option maxRecDepth 65536 in
set_option maxHeartbeats 4000000 in
theorem law_3_3 (l : Launch) (Z : State) (a0 : Array Value) (hw : ∀ d ∈ tables_1, d.before a0 Z = true) (h0 : Heap) (n0 : Nat) (ar : Addr) (b0 b1 b2 b3 b4 : Int32) (rg aa cc : Int32) (P0 : Hp Z n0 h0 [(ar, (.inr (.byte, "[B", [(.int (nar .byte b0.toInt8.toInt32)), (.int (nar .byte b1.toInt8.toInt32)), (.int (nar .byte b2.toInt8.toInt32)), (.int (nar .byte b3.toInt8.toInt32)), (.int (nar .byte b4.toInt8.toInt32))])))]) (kd : Addr) (kc : Cell) (Sk : Sta Z Z.heap "com/example/bouncr/bouncr/PathPattern" "KINDS" "[B" (.ref kd)) (Ak : Arr Z Z.heap kd kc .byte) (hsz : kc.slots.size = 256) (Tk : ∀ j, j < 256 → kc.slots[j]? = some (.int (own_kd j))) :
    Go false KT l Z room_1 x code maxLocals ret n0 room_1.cells room_1.slots (R1 fun w _ => w = .int 1) h0 1 5 72 [.val (.int b0), .val (.int b1), .val (.int b2), .val (.int b3), .val (.int b4), .val (.int rg), .val (.ref ar), .val (.int aa), .val (.int cc), .val (.int 3), .val (.int 3), .unset] [] := by
  have J138 : ∀ ex : Int32, own_can 3 3 (own_saw (Int32.ofNat (own_oct b0))) (own_saw (Int32.ofNat (own_oct b1))) (own_saw (Int32.ofNat (own_oct b2))) (own_saw (Int32.ofNat (own_oct b3))) (own_saw (Int32.ofNat (own_oct b4))) = ex → Go false KT l Z room_1 x code maxLocals ret n0 room_1.cells room_1.slots (R1 fun w _ => w = .int 1) h0 1 5 138 [.val (.int b0), .val (.int b1), .val (.int b2), .val (.int b3), .val (.int b4), .val (.int rg), .val (.ref ar), .val (.int aa), .val (.int cc), .val (.int 3), .val (.int 3), .unset] [(.int ex)] := by
    intro ex hex
    refine go_istore c0_138 rfl rfl ?_
    dsimp only [setl]
    refine go_aload c0_140 rfl rfl ?_
    refine go_iload c0_142 rfl ?_
    refine go_iload c0_144 rfl ?_
    refine go_callS1 (y := x) (W := 0) (argsL := [(.ref ar), (.int 3), (.int 3)]) (st := []) c0_146 (rm_can3_3 l Z a0 hw h0 n0 ar b0 b1 b2 b3 b4 P0 kd kc Sk Ak hsz Tk) (t16 hw) (t17 hw) (t18 hw) (t19 hw) (by decide) (lenOf pd1 rfl) rfl rfl (by decide) (by decide) (by decide) (by decide) rfl ?_
    rintro _ _ ⟨rfl, rfl⟩
    refine go_more (k' := 1) (n' := 5) (by decide) (by decide) ?_
    refine go_iload c0_149 rfl ?_
    refine go_icmp_ne c0_151 (fun b151 => ?_) (fun b151 => ?_)
    · exact absurd hex b151
    · refine go_push c0_154 ?_
      refine go_goto c0_155 ?_
      exact go_bret rfl c0_159 (by decide) (by decide) (by decide) ⟨_, rfl, rfl⟩
  refine go_push c0_72 ?_
  refine go_iload c0_73 rfl ?_
  refine go_iload c0_75 rfl ?_
  refine go_iload c0_77 rfl ?_
  refine go_callS1 (y := x) (W := 0) (argsL := [(.int 0), (.int 3), (.int 3), (.int b0)]) (st := []) c0_78 (rm_ok_out1 l Z a0 hw h0 n0 _ P0 0 3 3 b0 (by decide)) (t9 hw) (t10 hw) (t11 hw) (t12 hw) (by decide) (lenOf pd2 rfl) rfl rfl (by decide) (by decide) (by decide) (by decide) rfl ?_
  rintro _ _ ⟨rfl, rfl⟩
  refine go_more (k' := 1) (n' := 5) (by decide) (by decide) ?_
  refine go_if_eq c0_81 (fun q => absurd q (by decide)) (fun _ => ?_)
  refine go_push c0_84 ?_
  refine go_iload c0_85 rfl ?_
  refine go_iload c0_87 rfl ?_
  refine go_iload c0_89 rfl ?_
  refine go_callS1 (y := x) (W := 0) (argsL := [(.int 1), (.int 3), (.int 3), (.int b1)]) (st := []) c0_90 (rm_ok_out1 l Z a0 hw h0 n0 _ P0 1 3 3 b1 (by decide)) (t9 hw) (t10 hw) (t11 hw) (t12 hw) (by decide) (lenOf pd2 rfl) rfl rfl (by decide) (by decide) (by decide) (by decide) rfl ?_
  rintro _ _ ⟨rfl, rfl⟩
  refine go_more (k' := 1) (n' := 5) (by decide) (by decide) ?_
  refine go_if_eq c0_93 (fun q => absurd q (by decide)) (fun _ => ?_)
  refine go_push c0_96 ?_
  refine go_iload c0_97 rfl ?_
  refine go_iload c0_99 rfl ?_
  refine go_iload c0_101 rfl ?_
  refine go_callS1 (y := x) (W := 0) (argsL := [(.int 2), (.int 3), (.int 3), (.int b2)]) (st := []) c0_102 (rm_ok_out1 l Z a0 hw h0 n0 _ P0 2 3 3 b2 (by decide)) (t9 hw) (t10 hw) (t11 hw) (t12 hw) (by decide) (lenOf pd2 rfl) rfl rfl (by decide) (by decide) (by decide) (by decide) rfl ?_
  rintro _ _ ⟨rfl, rfl⟩
  refine go_more (k' := 1) (n' := 5) (by decide) (by decide) ?_
  refine go_if_eq c0_105 (fun q => absurd q (by decide)) (fun _ => ?_)
  refine go_push c0_108 ?_
  refine go_iload c0_109 rfl ?_
  refine go_iload c0_111 rfl ?_
  refine go_iload c0_113 rfl ?_
  refine go_callS1 (y := x) (W := 0) (argsL := [(.int 3), (.int 3), (.int 3), (.int b3)]) (st := []) c0_114 (rm_ok_out2 l Z a0 hw h0 n0 _ P0 3 3 3 b3 (by decide)) (t9 hw) (t10 hw) (t11 hw) (t12 hw) (by decide) (lenOf pd2 rfl) rfl rfl (by decide) (by decide) (by decide) (by decide) rfl ?_
  rintro _ _ ⟨rfl, rfl⟩
  refine go_more (k' := 1) (n' := 5) (by decide) (by decide) ?_
  refine go_if_eq c0_117 (fun q => absurd q (by decide)) (fun _ => ?_)
  refine go_push c0_120 ?_
  refine go_iload c0_121 rfl ?_
  refine go_iload c0_123 rfl ?_
  refine go_iload c0_125 rfl ?_
  refine go_callS1 (y := x) (W := 0) (argsL := [(.int 4), (.int 3), (.int 3), (.int b4)]) (st := []) c0_127 (rm_ok_out2 l Z a0 hw h0 n0 _ P0 4 3 3 b4 (by decide)) (t9 hw) (t10 hw) (t11 hw) (t12 hw) (by decide) (lenOf pd2 rfl) rfl rfl (by decide) (by decide) (by decide) (by decide) rfl ?_
  rintro _ _ ⟨rfl, rfl⟩
  refine go_more (k' := 1) (n' := 5) (by decide) (by decide) ?_
  refine go_if_eq c0_130 (fun q => absurd q (by decide)) (fun _ => ?_)
  refine go_push c0_133 ?_
  refine go_goto c0_134 ?_
  exact J138 _ (by simp [own_can, own_c1])
set_option maxRecDepth 65536 in
set_option maxHeartbeats 4000000 in
theorem law_3_4 (l : Launch) (Z : State) (a0 : Array Value) (hw : ∀ d ∈ tables_1, d.before a0 Z = true) (h0 : Heap) (n0 : Nat) (ar : Addr) (b0 b1 b2 b3 b4 : Int32) (rg aa cc : Int32) (P0 : Hp Z n0 h0 [(ar, (.inr (.byte, "[B", [(.int (nar .byte b0.toInt8.toInt32)), (.int (nar .byte b1.toInt8.toInt32)), (.int (nar .byte b2.toInt8.toInt32)), (.int (nar .byte b3.toInt8.toInt32)), (.int (nar .byte b4.toInt8.toInt32))])))]) (kd : Addr) (kc : Cell) (Sk : Sta Z Z.heap "com/example/bouncr/bouncr/PathPattern" "KINDS" "[B" (.ref kd)) (Ak : Arr Z Z.heap kd kc .byte) (hsz : kc.slots.size = 256) (Tk : ∀ j, j < 256 → kc.slots[j]? = some (.int (own_kd j))) :
    Go false KT l Z room_1 x code maxLocals ret n0 room_1.cells room_1.slots (R1 fun w _ => w = .int 1) h0 1 5 72 [.val (.int b0), .val (.int b1), .val (.int b2), .val (.int b3), .val (.int b4), .val (.int rg), .val (.ref ar), .val (.int aa), .val (.int cc), .val (.int 3), .val (.int 4), .unset] [] := by
  have J138 : ∀ ex : Int32, own_can 3 4 (own_saw (Int32.ofNat (own_oct b0))) (own_saw (Int32.ofNat (own_oct b1))) (own_saw (Int32.ofNat (own_oct b2))) (own_saw (Int32.ofNat (own_oct b3))) (own_saw (Int32.ofNat (own_oct b4))) = ex → Go false KT l Z room_1 x code maxLocals ret n0 room_1.cells room_1.slots (R1 fun w _ => w = .int 1) h0 1 5 138 [.val (.int b0), .val (.int b1), .val (.int b2), .val (.int b3), .val (.int b4), .val (.int rg), .val (.ref ar), .val (.int aa), .val (.int cc), .val (.int 3), .val (.int 4), .unset] [(.int ex)] := by
    intro ex hex
    refine go_istore c0_138 rfl rfl ?_
    dsimp only [setl]
    refine go_aload c0_140 rfl rfl ?_
    refine go_iload c0_142 rfl ?_
    refine go_iload c0_144 rfl ?_
    refine go_callS1 (y := x) (W := 0) (argsL := [(.ref ar), (.int 3), (.int 4)]) (st := []) c0_146 (rm_can3_4 l Z a0 hw h0 n0 ar b0 b1 b2 b3 b4 P0 kd kc Sk Ak hsz Tk) (t16 hw) (t17 hw) (t18 hw) (t19 hw) (by decide) (lenOf pd1 rfl) rfl rfl (by decide) (by decide) (by decide) (by decide) rfl ?_
    rintro _ _ ⟨rfl, rfl⟩
    refine go_more (k' := 1) (n' := 5) (by decide) (by decide) ?_
    refine go_iload c0_149 rfl ?_
    refine go_icmp_ne c0_151 (fun b151 => ?_) (fun b151 => ?_)
    · exact absurd hex b151
    · refine go_push c0_154 ?_
      refine go_goto c0_155 ?_
      exact go_bret rfl c0_159 (by decide) (by decide) (by decide) ⟨_, rfl, rfl⟩
  refine go_push c0_72 ?_
  refine go_iload c0_73 rfl ?_
  refine go_iload c0_75 rfl ?_
  refine go_iload c0_77 rfl ?_
  refine go_callS1 (y := x) (W := 0) (argsL := [(.int 0), (.int 3), (.int 4), (.int b0)]) (st := []) c0_78 (rm_ok_out1 l Z a0 hw h0 n0 _ P0 0 3 4 b0 (by decide)) (t9 hw) (t10 hw) (t11 hw) (t12 hw) (by decide) (lenOf pd2 rfl) rfl rfl (by decide) (by decide) (by decide) (by decide) rfl ?_
  rintro _ _ ⟨rfl, rfl⟩
  refine go_more (k' := 1) (n' := 5) (by decide) (by decide) ?_
  refine go_if_eq c0_81 (fun q => absurd q (by decide)) (fun _ => ?_)
  refine go_push c0_84 ?_
  refine go_iload c0_85 rfl ?_
  refine go_iload c0_87 rfl ?_
  refine go_iload c0_89 rfl ?_
  refine go_callS1 (y := x) (W := 0) (argsL := [(.int 1), (.int 3), (.int 4), (.int b1)]) (st := []) c0_90 (rm_ok_out1 l Z a0 hw h0 n0 _ P0 1 3 4 b1 (by decide)) (t9 hw) (t10 hw) (t11 hw) (t12 hw) (by decide) (lenOf pd2 rfl) rfl rfl (by decide) (by decide) (by decide) (by decide) rfl ?_
  rintro _ _ ⟨rfl, rfl⟩
  refine go_more (k' := 1) (n' := 5) (by decide) (by decide) ?_
  refine go_if_eq c0_93 (fun q => absurd q (by decide)) (fun _ => ?_)
  refine go_push c0_96 ?_
  refine go_iload c0_97 rfl ?_
  refine go_iload c0_99 rfl ?_
  refine go_iload c0_101 rfl ?_
  refine go_callS1 (y := x) (W := 0) (argsL := [(.int 2), (.int 3), (.int 4), (.int b2)]) (st := []) c0_102 (rm_ok_out1 l Z a0 hw h0 n0 _ P0 2 3 4 b2 (by decide)) (t9 hw) (t10 hw) (t11 hw) (t12 hw) (by decide) (lenOf pd2 rfl) rfl rfl (by decide) (by decide) (by decide) (by decide) rfl ?_
  rintro _ _ ⟨rfl, rfl⟩
  refine go_more (k' := 1) (n' := 5) (by decide) (by decide) ?_
  refine go_if_eq c0_105 (fun q => absurd q (by decide)) (fun _ => ?_)
  refine go_push c0_108 ?_
  refine go_iload c0_109 rfl ?_
  refine go_iload c0_111 rfl ?_
  refine go_iload c0_113 rfl ?_
  refine go_callS1 (y := x) (W := 0) (argsL := [(.int 3), (.int 3), (.int 4), (.int b3)]) (st := []) c0_114 (rm_ok_in l Z a0 hw h0 n0 _ P0 3 3 4 b3 (by decide)) (t9 hw) (t10 hw) (t11 hw) (t12 hw) (by decide) (lenOf pd2 rfl) rfl rfl (by decide) (by decide) (by decide) (by decide) rfl ?_
  rintro _ _ ⟨rfl, rfl⟩
  refine go_more (k' := 1) (n' := 5) (by decide) (by decide) ?_
  refine go_if_eq c0_117 (fun s3 => ?_) (fun s3 => ?_)
  · refine go_push c0_137 ?_
    exact J138 _ (by simp [own_can, own_c1, s3])
  · refine go_push c0_120 ?_
    refine go_iload c0_121 rfl ?_
    refine go_iload c0_123 rfl ?_
    refine go_iload c0_125 rfl ?_
    refine go_callS1 (y := x) (W := 0) (argsL := [(.int 4), (.int 3), (.int 4), (.int b4)]) (st := []) c0_127 (rm_ok_out2 l Z a0 hw h0 n0 _ P0 4 3 4 b4 (by decide)) (t9 hw) (t10 hw) (t11 hw) (t12 hw) (by decide) (lenOf pd2 rfl) rfl rfl (by decide) (by decide) (by decide) (by decide) rfl ?_
    rintro _ _ ⟨rfl, rfl⟩
    refine go_more (k' := 1) (n' := 5) (by decide) (by decide) ?_
    refine go_if_eq c0_130 (fun q => absurd q (by decide)) (fun _ => ?_)
    refine go_push c0_133 ?_
    refine go_goto c0_134 ?_
    exact J138 _ (by simp [own_can, own_c1, s3])
set_option maxRecDepth 65536 in
set_option maxHeartbeats 4000000 in
theorem law_3_5 (l : Launch) (Z : State) (a0 : Array Value) (hw : ∀ d ∈ tables_1, d.before a0 Z = true) (h0 : Heap) (n0 : Nat) (ar : Addr) (b0 b1 b2 b3 b4 : Int32) (rg aa cc : Int32) (P0 : Hp Z n0 h0 [(ar, (.inr (.byte, "[B", [(.int (nar .byte b0.toInt8.toInt32)), (.int (nar .byte b1.toInt8.toInt32)), (.int (nar .byte b2.toInt8.toInt32)), (.int (nar .byte b3.toInt8.toInt32)), (.int (nar .byte b4.toInt8.toInt32))])))]) (kd : Addr) (kc : Cell) (Sk : Sta Z Z.heap "com/example/bouncr/bouncr/PathPattern" "KINDS" "[B" (.ref kd)) (Ak : Arr Z Z.heap kd kc .byte) (hsz : kc.slots.size = 256) (Tk : ∀ j, j < 256 → kc.slots[j]? = some (.int (own_kd j))) :
    Go false KT l Z room_1 x code maxLocals ret n0 room_1.cells room_1.slots (R1 fun w _ => w = .int 1) h0 1 5 72 [.val (.int b0), .val (.int b1), .val (.int b2), .val (.int b3), .val (.int b4), .val (.int rg), .val (.ref ar), .val (.int aa), .val (.int cc), .val (.int 3), .val (.int 5), .unset] [] := by
  have J138 : ∀ ex : Int32, own_can 3 5 (own_saw (Int32.ofNat (own_oct b0))) (own_saw (Int32.ofNat (own_oct b1))) (own_saw (Int32.ofNat (own_oct b2))) (own_saw (Int32.ofNat (own_oct b3))) (own_saw (Int32.ofNat (own_oct b4))) = ex → Go false KT l Z room_1 x code maxLocals ret n0 room_1.cells room_1.slots (R1 fun w _ => w = .int 1) h0 1 5 138 [.val (.int b0), .val (.int b1), .val (.int b2), .val (.int b3), .val (.int b4), .val (.int rg), .val (.ref ar), .val (.int aa), .val (.int cc), .val (.int 3), .val (.int 5), .unset] [(.int ex)] := by
    intro ex hex
    refine go_istore c0_138 rfl rfl ?_
    dsimp only [setl]
    refine go_aload c0_140 rfl rfl ?_
    refine go_iload c0_142 rfl ?_
    refine go_iload c0_144 rfl ?_
    refine go_callS1 (y := x) (W := 0) (argsL := [(.ref ar), (.int 3), (.int 5)]) (st := []) c0_146 (rm_can3_5 l Z a0 hw h0 n0 ar b0 b1 b2 b3 b4 P0 kd kc Sk Ak hsz Tk) (t16 hw) (t17 hw) (t18 hw) (t19 hw) (by decide) (lenOf pd1 rfl) rfl rfl (by decide) (by decide) (by decide) (by decide) rfl ?_
    rintro _ _ ⟨rfl, rfl⟩
    refine go_more (k' := 1) (n' := 5) (by decide) (by decide) ?_
    refine go_iload c0_149 rfl ?_
    refine go_icmp_ne c0_151 (fun b151 => ?_) (fun b151 => ?_)
    · exact absurd hex b151
    · refine go_push c0_154 ?_
      refine go_goto c0_155 ?_
      exact go_bret rfl c0_159 (by decide) (by decide) (by decide) ⟨_, rfl, rfl⟩
  refine go_push c0_72 ?_
  refine go_iload c0_73 rfl ?_
  refine go_iload c0_75 rfl ?_
  refine go_iload c0_77 rfl ?_
  refine go_callS1 (y := x) (W := 0) (argsL := [(.int 0), (.int 3), (.int 5), (.int b0)]) (st := []) c0_78 (rm_ok_out1 l Z a0 hw h0 n0 _ P0 0 3 5 b0 (by decide)) (t9 hw) (t10 hw) (t11 hw) (t12 hw) (by decide) (lenOf pd2 rfl) rfl rfl (by decide) (by decide) (by decide) (by decide) rfl ?_
  rintro _ _ ⟨rfl, rfl⟩
  refine go_more (k' := 1) (n' := 5) (by decide) (by decide) ?_
  refine go_if_eq c0_81 (fun q => absurd q (by decide)) (fun _ => ?_)
  refine go_push c0_84 ?_
  refine go_iload c0_85 rfl ?_
  refine go_iload c0_87 rfl ?_
  refine go_iload c0_89 rfl ?_
  refine go_callS1 (y := x) (W := 0) (argsL := [(.int 1), (.int 3), (.int 5), (.int b1)]) (st := []) c0_90 (rm_ok_out1 l Z a0 hw h0 n0 _ P0 1 3 5 b1 (by decide)) (t9 hw) (t10 hw) (t11 hw) (t12 hw) (by decide) (lenOf pd2 rfl) rfl rfl (by decide) (by decide) (by decide) (by decide) rfl ?_
  rintro _ _ ⟨rfl, rfl⟩
  refine go_more (k' := 1) (n' := 5) (by decide) (by decide) ?_
  refine go_if_eq c0_93 (fun q => absurd q (by decide)) (fun _ => ?_)
  refine go_push c0_96 ?_
  refine go_iload c0_97 rfl ?_
  refine go_iload c0_99 rfl ?_
  refine go_iload c0_101 rfl ?_
  refine go_callS1 (y := x) (W := 0) (argsL := [(.int 2), (.int 3), (.int 5), (.int b2)]) (st := []) c0_102 (rm_ok_out1 l Z a0 hw h0 n0 _ P0 2 3 5 b2 (by decide)) (t9 hw) (t10 hw) (t11 hw) (t12 hw) (by decide) (lenOf pd2 rfl) rfl rfl (by decide) (by decide) (by decide) (by decide) rfl ?_
  rintro _ _ ⟨rfl, rfl⟩
  refine go_more (k' := 1) (n' := 5) (by decide) (by decide) ?_
  refine go_if_eq c0_105 (fun q => absurd q (by decide)) (fun _ => ?_)
  refine go_push c0_108 ?_
  refine go_iload c0_109 rfl ?_
  refine go_iload c0_111 rfl ?_
  refine go_iload c0_113 rfl ?_
  refine go_callS1 (y := x) (W := 0) (argsL := [(.int 3), (.int 3), (.int 5), (.int b3)]) (st := []) c0_114 (rm_ok_in l Z a0 hw h0 n0 _ P0 3 3 5 b3 (by decide)) (t9 hw) (t10 hw) (t11 hw) (t12 hw) (by decide) (lenOf pd2 rfl) rfl rfl (by decide) (by decide) (by decide) (by decide) rfl ?_
  rintro _ _ ⟨rfl, rfl⟩
  refine go_more (k' := 1) (n' := 5) (by decide) (by decide) ?_
  refine go_if_eq c0_117 (fun s3 => ?_) (fun s3 => ?_)
  · refine go_push c0_137 ?_
    exact J138 _ (by simp [own_can, own_c1, s3])
  · refine go_push c0_120 ?_
    refine go_iload c0_121 rfl ?_
    refine go_iload c0_123 rfl ?_
    refine go_iload c0_125 rfl ?_
    refine go_callS1 (y := x) (W := 0) (argsL := [(.int 4), (.int 3), (.int 5), (.int b4)]) (st := []) c0_127 (rm_ok_in l Z a0 hw h0 n0 _ P0 4 3 5 b4 (by decide)) (t9 hw) (t10 hw) (t11 hw) (t12 hw) (by decide) (lenOf pd2 rfl) rfl rfl (by decide) (by decide) (by decide) (by decide) rfl ?_
    rintro _ _ ⟨rfl, rfl⟩
    refine go_more (k' := 1) (n' := 5) (by decide) (by decide) ?_
    refine go_if_eq c0_130 (fun s4 => ?_) (fun s4 => ?_)
    · refine go_push c0_137 ?_
      exact J138 _ (by simp [own_can, own_c1, s3, s4])
    · refine go_push c0_133 ?_
      refine go_goto c0_134 ?_
      exact J138 _ (by simp [own_can, own_c1, s3, s4])
set_option maxRecDepth 65536 in
set_option maxHeartbeats 4000000 in
theorem law_4_4 (l : Launch) (Z : State) (a0 : Array Value) (hw : ∀ d ∈ tables_1, d.before a0 Z = true) (h0 : Heap) (n0 : Nat) (ar : Addr) (b0 b1 b2 b3 b4 : Int32) (rg aa cc : Int32) (P0 : Hp Z n0 h0 [(ar, (.inr (.byte, "[B", [(.int (nar .byte b0.toInt8.toInt32)), (.int (nar .byte b1.toInt8.toInt32)), (.int (nar .byte b2.toInt8.toInt32)), (.int (nar .byte b3.toInt8.toInt32)), (.int (nar .byte b4.toInt8.toInt32))])))]) (kd : Addr) (kc : Cell) (Sk : Sta Z Z.heap "com/example/bouncr/bouncr/PathPattern" "KINDS" "[B" (.ref kd)) (Ak : Arr Z Z.heap kd kc .byte) (hsz : kc.slots.size = 256) (Tk : ∀ j, j < 256 → kc.slots[j]? = some (.int (own_kd j))) :
    Go false KT l Z room_1 x code maxLocals ret n0 room_1.cells room_1.slots (R1 fun w _ => w = .int 1) h0 1 5 72 [.val (.int b0), .val (.int b1), .val (.int b2), .val (.int b3), .val (.int b4), .val (.int rg), .val (.ref ar), .val (.int aa), .val (.int cc), .val (.int 4), .val (.int 4), .unset] [] := by
  have J138 : ∀ ex : Int32, own_can 4 4 (own_saw (Int32.ofNat (own_oct b0))) (own_saw (Int32.ofNat (own_oct b1))) (own_saw (Int32.ofNat (own_oct b2))) (own_saw (Int32.ofNat (own_oct b3))) (own_saw (Int32.ofNat (own_oct b4))) = ex → Go false KT l Z room_1 x code maxLocals ret n0 room_1.cells room_1.slots (R1 fun w _ => w = .int 1) h0 1 5 138 [.val (.int b0), .val (.int b1), .val (.int b2), .val (.int b3), .val (.int b4), .val (.int rg), .val (.ref ar), .val (.int aa), .val (.int cc), .val (.int 4), .val (.int 4), .unset] [(.int ex)] := by
    intro ex hex
    refine go_istore c0_138 rfl rfl ?_
    dsimp only [setl]
    refine go_aload c0_140 rfl rfl ?_
    refine go_iload c0_142 rfl ?_
    refine go_iload c0_144 rfl ?_
    refine go_callS1 (y := x) (W := 0) (argsL := [(.ref ar), (.int 4), (.int 4)]) (st := []) c0_146 (rm_can4_4 l Z a0 hw h0 n0 ar b0 b1 b2 b3 b4 P0 kd kc Sk Ak hsz Tk) (t16 hw) (t17 hw) (t18 hw) (t19 hw) (by decide) (lenOf pd1 rfl) rfl rfl (by decide) (by decide) (by decide) (by decide) rfl ?_
    rintro _ _ ⟨rfl, rfl⟩
    refine go_more (k' := 1) (n' := 5) (by decide) (by decide) ?_
    refine go_iload c0_149 rfl ?_
    refine go_icmp_ne c0_151 (fun b151 => ?_) (fun b151 => ?_)
    · exact absurd hex b151
    · refine go_push c0_154 ?_
      refine go_goto c0_155 ?_
      exact go_bret rfl c0_159 (by decide) (by decide) (by decide) ⟨_, rfl, rfl⟩
  refine go_push c0_72 ?_
  refine go_iload c0_73 rfl ?_
  refine go_iload c0_75 rfl ?_
  refine go_iload c0_77 rfl ?_
  refine go_callS1 (y := x) (W := 0) (argsL := [(.int 0), (.int 4), (.int 4), (.int b0)]) (st := []) c0_78 (rm_ok_out1 l Z a0 hw h0 n0 _ P0 0 4 4 b0 (by decide)) (t9 hw) (t10 hw) (t11 hw) (t12 hw) (by decide) (lenOf pd2 rfl) rfl rfl (by decide) (by decide) (by decide) (by decide) rfl ?_
  rintro _ _ ⟨rfl, rfl⟩
  refine go_more (k' := 1) (n' := 5) (by decide) (by decide) ?_
  refine go_if_eq c0_81 (fun q => absurd q (by decide)) (fun _ => ?_)
  refine go_push c0_84 ?_
  refine go_iload c0_85 rfl ?_
  refine go_iload c0_87 rfl ?_
  refine go_iload c0_89 rfl ?_
  refine go_callS1 (y := x) (W := 0) (argsL := [(.int 1), (.int 4), (.int 4), (.int b1)]) (st := []) c0_90 (rm_ok_out1 l Z a0 hw h0 n0 _ P0 1 4 4 b1 (by decide)) (t9 hw) (t10 hw) (t11 hw) (t12 hw) (by decide) (lenOf pd2 rfl) rfl rfl (by decide) (by decide) (by decide) (by decide) rfl ?_
  rintro _ _ ⟨rfl, rfl⟩
  refine go_more (k' := 1) (n' := 5) (by decide) (by decide) ?_
  refine go_if_eq c0_93 (fun q => absurd q (by decide)) (fun _ => ?_)
  refine go_push c0_96 ?_
  refine go_iload c0_97 rfl ?_
  refine go_iload c0_99 rfl ?_
  refine go_iload c0_101 rfl ?_
  refine go_callS1 (y := x) (W := 0) (argsL := [(.int 2), (.int 4), (.int 4), (.int b2)]) (st := []) c0_102 (rm_ok_out1 l Z a0 hw h0 n0 _ P0 2 4 4 b2 (by decide)) (t9 hw) (t10 hw) (t11 hw) (t12 hw) (by decide) (lenOf pd2 rfl) rfl rfl (by decide) (by decide) (by decide) (by decide) rfl ?_
  rintro _ _ ⟨rfl, rfl⟩
  refine go_more (k' := 1) (n' := 5) (by decide) (by decide) ?_
  refine go_if_eq c0_105 (fun q => absurd q (by decide)) (fun _ => ?_)
  refine go_push c0_108 ?_
  refine go_iload c0_109 rfl ?_
  refine go_iload c0_111 rfl ?_
  refine go_iload c0_113 rfl ?_
  refine go_callS1 (y := x) (W := 0) (argsL := [(.int 3), (.int 4), (.int 4), (.int b3)]) (st := []) c0_114 (rm_ok_out1 l Z a0 hw h0 n0 _ P0 3 4 4 b3 (by decide)) (t9 hw) (t10 hw) (t11 hw) (t12 hw) (by decide) (lenOf pd2 rfl) rfl rfl (by decide) (by decide) (by decide) (by decide) rfl ?_
  rintro _ _ ⟨rfl, rfl⟩
  refine go_more (k' := 1) (n' := 5) (by decide) (by decide) ?_
  refine go_if_eq c0_117 (fun q => absurd q (by decide)) (fun _ => ?_)
  refine go_push c0_120 ?_
  refine go_iload c0_121 rfl ?_
  refine go_iload c0_123 rfl ?_
  refine go_iload c0_125 rfl ?_
  refine go_callS1 (y := x) (W := 0) (argsL := [(.int 4), (.int 4), (.int 4), (.int b4)]) (st := []) c0_127 (rm_ok_out2 l Z a0 hw h0 n0 _ P0 4 4 4 b4 (by decide)) (t9 hw) (t10 hw) (t11 hw) (t12 hw) (by decide) (lenOf pd2 rfl) rfl rfl (by decide) (by decide) (by decide) (by decide) rfl ?_
  rintro _ _ ⟨rfl, rfl⟩
  refine go_more (k' := 1) (n' := 5) (by decide) (by decide) ?_
  refine go_if_eq c0_130 (fun q => absurd q (by decide)) (fun _ => ?_)
  refine go_push c0_133 ?_
  refine go_goto c0_134 ?_
  exact J138 _ (by simp [own_can, own_c1])
set_option maxRecDepth 65536 in
set_option maxHeartbeats 4000000 in
theorem law_4_5 (l : Launch) (Z : State) (a0 : Array Value) (hw : ∀ d ∈ tables_1, d.before a0 Z = true) (h0 : Heap) (n0 : Nat) (ar : Addr) (b0 b1 b2 b3 b4 : Int32) (rg aa cc : Int32) (P0 : Hp Z n0 h0 [(ar, (.inr (.byte, "[B", [(.int (nar .byte b0.toInt8.toInt32)), (.int (nar .byte b1.toInt8.toInt32)), (.int (nar .byte b2.toInt8.toInt32)), (.int (nar .byte b3.toInt8.toInt32)), (.int (nar .byte b4.toInt8.toInt32))])))]) (kd : Addr) (kc : Cell) (Sk : Sta Z Z.heap "com/example/bouncr/bouncr/PathPattern" "KINDS" "[B" (.ref kd)) (Ak : Arr Z Z.heap kd kc .byte) (hsz : kc.slots.size = 256) (Tk : ∀ j, j < 256 → kc.slots[j]? = some (.int (own_kd j))) :
    Go false KT l Z room_1 x code maxLocals ret n0 room_1.cells room_1.slots (R1 fun w _ => w = .int 1) h0 1 5 72 [.val (.int b0), .val (.int b1), .val (.int b2), .val (.int b3), .val (.int b4), .val (.int rg), .val (.ref ar), .val (.int aa), .val (.int cc), .val (.int 4), .val (.int 5), .unset] [] := by
  have J138 : ∀ ex : Int32, own_can 4 5 (own_saw (Int32.ofNat (own_oct b0))) (own_saw (Int32.ofNat (own_oct b1))) (own_saw (Int32.ofNat (own_oct b2))) (own_saw (Int32.ofNat (own_oct b3))) (own_saw (Int32.ofNat (own_oct b4))) = ex → Go false KT l Z room_1 x code maxLocals ret n0 room_1.cells room_1.slots (R1 fun w _ => w = .int 1) h0 1 5 138 [.val (.int b0), .val (.int b1), .val (.int b2), .val (.int b3), .val (.int b4), .val (.int rg), .val (.ref ar), .val (.int aa), .val (.int cc), .val (.int 4), .val (.int 5), .unset] [(.int ex)] := by
    intro ex hex
    refine go_istore c0_138 rfl rfl ?_
    dsimp only [setl]
    refine go_aload c0_140 rfl rfl ?_
    refine go_iload c0_142 rfl ?_
    refine go_iload c0_144 rfl ?_
    refine go_callS1 (y := x) (W := 0) (argsL := [(.ref ar), (.int 4), (.int 5)]) (st := []) c0_146 (rm_can4_5 l Z a0 hw h0 n0 ar b0 b1 b2 b3 b4 P0 kd kc Sk Ak hsz Tk) (t16 hw) (t17 hw) (t18 hw) (t19 hw) (by decide) (lenOf pd1 rfl) rfl rfl (by decide) (by decide) (by decide) (by decide) rfl ?_
    rintro _ _ ⟨rfl, rfl⟩
    refine go_more (k' := 1) (n' := 5) (by decide) (by decide) ?_
    refine go_iload c0_149 rfl ?_
    refine go_icmp_ne c0_151 (fun b151 => ?_) (fun b151 => ?_)
    · exact absurd hex b151
    · refine go_push c0_154 ?_
      refine go_goto c0_155 ?_
      exact go_bret rfl c0_159 (by decide) (by decide) (by decide) ⟨_, rfl, rfl⟩
  refine go_push c0_72 ?_
  refine go_iload c0_73 rfl ?_
  refine go_iload c0_75 rfl ?_
  refine go_iload c0_77 rfl ?_
  refine go_callS1 (y := x) (W := 0) (argsL := [(.int 0), (.int 4), (.int 5), (.int b0)]) (st := []) c0_78 (rm_ok_out1 l Z a0 hw h0 n0 _ P0 0 4 5 b0 (by decide)) (t9 hw) (t10 hw) (t11 hw) (t12 hw) (by decide) (lenOf pd2 rfl) rfl rfl (by decide) (by decide) (by decide) (by decide) rfl ?_
  rintro _ _ ⟨rfl, rfl⟩
  refine go_more (k' := 1) (n' := 5) (by decide) (by decide) ?_
  refine go_if_eq c0_81 (fun q => absurd q (by decide)) (fun _ => ?_)
  refine go_push c0_84 ?_
  refine go_iload c0_85 rfl ?_
  refine go_iload c0_87 rfl ?_
  refine go_iload c0_89 rfl ?_
  refine go_callS1 (y := x) (W := 0) (argsL := [(.int 1), (.int 4), (.int 5), (.int b1)]) (st := []) c0_90 (rm_ok_out1 l Z a0 hw h0 n0 _ P0 1 4 5 b1 (by decide)) (t9 hw) (t10 hw) (t11 hw) (t12 hw) (by decide) (lenOf pd2 rfl) rfl rfl (by decide) (by decide) (by decide) (by decide) rfl ?_
  rintro _ _ ⟨rfl, rfl⟩
  refine go_more (k' := 1) (n' := 5) (by decide) (by decide) ?_
  refine go_if_eq c0_93 (fun q => absurd q (by decide)) (fun _ => ?_)
  refine go_push c0_96 ?_
  refine go_iload c0_97 rfl ?_
  refine go_iload c0_99 rfl ?_
  refine go_iload c0_101 rfl ?_
  refine go_callS1 (y := x) (W := 0) (argsL := [(.int 2), (.int 4), (.int 5), (.int b2)]) (st := []) c0_102 (rm_ok_out1 l Z a0 hw h0 n0 _ P0 2 4 5 b2 (by decide)) (t9 hw) (t10 hw) (t11 hw) (t12 hw) (by decide) (lenOf pd2 rfl) rfl rfl (by decide) (by decide) (by decide) (by decide) rfl ?_
  rintro _ _ ⟨rfl, rfl⟩
  refine go_more (k' := 1) (n' := 5) (by decide) (by decide) ?_
  refine go_if_eq c0_105 (fun q => absurd q (by decide)) (fun _ => ?_)
  refine go_push c0_108 ?_
  refine go_iload c0_109 rfl ?_
  refine go_iload c0_111 rfl ?_
  refine go_iload c0_113 rfl ?_
  refine go_callS1 (y := x) (W := 0) (argsL := [(.int 3), (.int 4), (.int 5), (.int b3)]) (st := []) c0_114 (rm_ok_out1 l Z a0 hw h0 n0 _ P0 3 4 5 b3 (by decide)) (t9 hw) (t10 hw) (t11 hw) (t12 hw) (by decide) (lenOf pd2 rfl) rfl rfl (by decide) (by decide) (by decide) (by decide) rfl ?_
  rintro _ _ ⟨rfl, rfl⟩
  refine go_more (k' := 1) (n' := 5) (by decide) (by decide) ?_
  refine go_if_eq c0_117 (fun q => absurd q (by decide)) (fun _ => ?_)
  refine go_push c0_120 ?_
  refine go_iload c0_121 rfl ?_
  refine go_iload c0_123 rfl ?_
  refine go_iload c0_125 rfl ?_
  refine go_callS1 (y := x) (W := 0) (argsL := [(.int 4), (.int 4), (.int 5), (.int b4)]) (st := []) c0_127 (rm_ok_in l Z a0 hw h0 n0 _ P0 4 4 5 b4 (by decide)) (t9 hw) (t10 hw) (t11 hw) (t12 hw) (by decide) (lenOf pd2 rfl) rfl rfl (by decide) (by decide) (by decide) (by decide) rfl ?_
  rintro _ _ ⟨rfl, rfl⟩
  refine go_more (k' := 1) (n' := 5) (by decide) (by decide) ?_
  refine go_if_eq c0_130 (fun s4 => ?_) (fun s4 => ?_)
  · refine go_push c0_137 ?_
    exact J138 _ (by simp [own_can, own_c1, s4])
  · refine go_push c0_133 ?_
    refine go_goto c0_134 ?_
    exact J138 _ (by simp [own_can, own_c1, s4])
set_option maxRecDepth 65536 in
set_option maxHeartbeats 4000000 in
theorem law_5_5 (l : Launch) (Z : State) (a0 : Array Value) (hw : ∀ d ∈ tables_1, d.before a0 Z = true) (h0 : Heap) (n0 : Nat) (ar : Addr) (b0 b1 b2 b3 b4 : Int32) (rg aa cc : Int32) (P0 : Hp Z n0 h0 [(ar, (.inr (.byte, "[B", [(.int (nar .byte b0.toInt8.toInt32)), (.int (nar .byte b1.toInt8.toInt32)), (.int (nar .byte b2.toInt8.toInt32)), (.int (nar .byte b3.toInt8.toInt32)), (.int (nar .byte b4.toInt8.toInt32))])))]) (kd : Addr) (kc : Cell) (Sk : Sta Z Z.heap "com/example/bouncr/bouncr/PathPattern" "KINDS" "[B" (.ref kd)) (Ak : Arr Z Z.heap kd kc .byte) (hsz : kc.slots.size = 256) (Tk : ∀ j, j < 256 → kc.slots[j]? = some (.int (own_kd j))) :
    Go false KT l Z room_1 x code maxLocals ret n0 room_1.cells room_1.slots (R1 fun w _ => w = .int 1) h0 1 5 72 [.val (.int b0), .val (.int b1), .val (.int b2), .val (.int b3), .val (.int b4), .val (.int rg), .val (.ref ar), .val (.int aa), .val (.int cc), .val (.int 5), .val (.int 5), .unset] [] := by
  have J138 : ∀ ex : Int32, own_can 5 5 (own_saw (Int32.ofNat (own_oct b0))) (own_saw (Int32.ofNat (own_oct b1))) (own_saw (Int32.ofNat (own_oct b2))) (own_saw (Int32.ofNat (own_oct b3))) (own_saw (Int32.ofNat (own_oct b4))) = ex → Go false KT l Z room_1 x code maxLocals ret n0 room_1.cells room_1.slots (R1 fun w _ => w = .int 1) h0 1 5 138 [.val (.int b0), .val (.int b1), .val (.int b2), .val (.int b3), .val (.int b4), .val (.int rg), .val (.ref ar), .val (.int aa), .val (.int cc), .val (.int 5), .val (.int 5), .unset] [(.int ex)] := by
    intro ex hex
    refine go_istore c0_138 rfl rfl ?_
    dsimp only [setl]
    refine go_aload c0_140 rfl rfl ?_
    refine go_iload c0_142 rfl ?_
    refine go_iload c0_144 rfl ?_
    refine go_callS1 (y := x) (W := 0) (argsL := [(.ref ar), (.int 5), (.int 5)]) (st := []) c0_146 (rm_can5_5 l Z a0 hw h0 n0 ar b0 b1 b2 b3 b4 P0 kd kc Sk Ak hsz Tk) (t16 hw) (t17 hw) (t18 hw) (t19 hw) (by decide) (lenOf pd1 rfl) rfl rfl (by decide) (by decide) (by decide) (by decide) rfl ?_
    rintro _ _ ⟨rfl, rfl⟩
    refine go_more (k' := 1) (n' := 5) (by decide) (by decide) ?_
    refine go_iload c0_149 rfl ?_
    refine go_icmp_ne c0_151 (fun b151 => ?_) (fun b151 => ?_)
    · exact absurd hex b151
    · refine go_push c0_154 ?_
      refine go_goto c0_155 ?_
      exact go_bret rfl c0_159 (by decide) (by decide) (by decide) ⟨_, rfl, rfl⟩
  refine go_push c0_72 ?_
  refine go_iload c0_73 rfl ?_
  refine go_iload c0_75 rfl ?_
  refine go_iload c0_77 rfl ?_
  refine go_callS1 (y := x) (W := 0) (argsL := [(.int 0), (.int 5), (.int 5), (.int b0)]) (st := []) c0_78 (rm_ok_out1 l Z a0 hw h0 n0 _ P0 0 5 5 b0 (by decide)) (t9 hw) (t10 hw) (t11 hw) (t12 hw) (by decide) (lenOf pd2 rfl) rfl rfl (by decide) (by decide) (by decide) (by decide) rfl ?_
  rintro _ _ ⟨rfl, rfl⟩
  refine go_more (k' := 1) (n' := 5) (by decide) (by decide) ?_
  refine go_if_eq c0_81 (fun q => absurd q (by decide)) (fun _ => ?_)
  refine go_push c0_84 ?_
  refine go_iload c0_85 rfl ?_
  refine go_iload c0_87 rfl ?_
  refine go_iload c0_89 rfl ?_
  refine go_callS1 (y := x) (W := 0) (argsL := [(.int 1), (.int 5), (.int 5), (.int b1)]) (st := []) c0_90 (rm_ok_out1 l Z a0 hw h0 n0 _ P0 1 5 5 b1 (by decide)) (t9 hw) (t10 hw) (t11 hw) (t12 hw) (by decide) (lenOf pd2 rfl) rfl rfl (by decide) (by decide) (by decide) (by decide) rfl ?_
  rintro _ _ ⟨rfl, rfl⟩
  refine go_more (k' := 1) (n' := 5) (by decide) (by decide) ?_
  refine go_if_eq c0_93 (fun q => absurd q (by decide)) (fun _ => ?_)
  refine go_push c0_96 ?_
  refine go_iload c0_97 rfl ?_
  refine go_iload c0_99 rfl ?_
  refine go_iload c0_101 rfl ?_
  refine go_callS1 (y := x) (W := 0) (argsL := [(.int 2), (.int 5), (.int 5), (.int b2)]) (st := []) c0_102 (rm_ok_out1 l Z a0 hw h0 n0 _ P0 2 5 5 b2 (by decide)) (t9 hw) (t10 hw) (t11 hw) (t12 hw) (by decide) (lenOf pd2 rfl) rfl rfl (by decide) (by decide) (by decide) (by decide) rfl ?_
  rintro _ _ ⟨rfl, rfl⟩
  refine go_more (k' := 1) (n' := 5) (by decide) (by decide) ?_
  refine go_if_eq c0_105 (fun q => absurd q (by decide)) (fun _ => ?_)
  refine go_push c0_108 ?_
  refine go_iload c0_109 rfl ?_
  refine go_iload c0_111 rfl ?_
  refine go_iload c0_113 rfl ?_
  refine go_callS1 (y := x) (W := 0) (argsL := [(.int 3), (.int 5), (.int 5), (.int b3)]) (st := []) c0_114 (rm_ok_out1 l Z a0 hw h0 n0 _ P0 3 5 5 b3 (by decide)) (t9 hw) (t10 hw) (t11 hw) (t12 hw) (by decide) (lenOf pd2 rfl) rfl rfl (by decide) (by decide) (by decide) (by decide) rfl ?_
  rintro _ _ ⟨rfl, rfl⟩
  refine go_more (k' := 1) (n' := 5) (by decide) (by decide) ?_
  refine go_if_eq c0_117 (fun q => absurd q (by decide)) (fun _ => ?_)
  refine go_push c0_120 ?_
  refine go_iload c0_121 rfl ?_
  refine go_iload c0_123 rfl ?_
  refine go_iload c0_125 rfl ?_
  refine go_callS1 (y := x) (W := 0) (argsL := [(.int 4), (.int 5), (.int 5), (.int b4)]) (st := []) c0_127 (rm_ok_out1 l Z a0 hw h0 n0 _ P0 4 5 5 b4 (by decide)) (t9 hw) (t10 hw) (t11 hw) (t12 hw) (by decide) (lenOf pd2 rfl) rfl rfl (by decide) (by decide) (by decide) (by decide) rfl ?_
  rintro _ _ ⟨rfl, rfl⟩
  refine go_more (k' := 1) (n' := 5) (by decide) (by decide) ?_
  refine go_if_eq c0_130 (fun q => absurd q (by decide)) (fun _ => ?_)
  refine go_push c0_133 ?_
  refine go_goto c0_134 ?_
  exact J138 _ (by simp [own_can, own_c1])
set_option maxRecDepth 65536 in
set_option maxHeartbeats 4000000 in
theorem rm0 (l : Launch) (Z : State) (a0 : Array Value) (hw : ∀ d ∈ tables_1, d.before a0 Z = true) (h0 : Heap) (n0 : Nat) (P0 : Hp Z n0 h0 []) (b0 b1 b2 b3 b4 rg : Int32) (kd : Addr) (kc : Cell) (Sk : Sta Z Z.heap "com/example/bouncr/bouncr/PathPattern" "KINDS" "[B" (.ref kd)) (Ak : Arr Z Z.heap kd kc .byte) (hsz : kc.slots.size = 256) (Tk : ∀ j, j < 256 → kc.slots[j]? = some (.int (own_kd j))) :
    Con false l Z x code maxLocals ret room_1 #[(.int b0), (.int b1), (.int b2), (.int b3), (.int b4), (.int rg)] h0 n0 (R1 fun w _ => w = .int 1) := by
  refine con_of (ls := [.val (.int b0), .val (.int b1), .val (.int b2), .val (.int b3), .val (.int b4), .val (.int rg), .unset, .unset, .unset, .unset, .unset, .unset]) (plainFor_of_name pn0) rfl ?_
  refine go_push c0_0 ?_
  refine go_newarr (y := x) P0 "[B" [(.int 0), (.int 0), (.int 0), (.int 0), (.int 0)] 5 c0_1 (t0 hw) (by decide) (by decide) (by decide) (by decide) rfl rfl (by decide) (by decide) ?_
  intro h1 a3 P2
  refine go_more (k' := 1) (n' := 5) (by decide) (by decide) ?_
  refine go_dup c0_3 rfl ?_
  refine go_push c0_4 ?_
  refine go_iload c0_5 rfl ?_
  refine go_i2b c0_6 ?_
  refine go_bastoreH P2 0 c0_7 rfl (by decide) (Nat.le_of_ble_eq_true rfl) ?_
  intro h4 P5
  dsimp only [lupd] at P5
  refine go_dup c0_8 rfl ?_
  refine go_push c0_9 ?_
  refine go_iload c0_10 rfl ?_
  refine go_i2b c0_11 ?_
  refine go_bastoreH P5 0 c0_12 rfl (by decide) (Nat.le_of_ble_eq_true rfl) ?_
  intro h6 P7
  dsimp only [lupd] at P7
  refine go_dup c0_13 rfl ?_
  refine go_push c0_14 ?_
  refine go_iload c0_15 rfl ?_
  refine go_i2b c0_16 ?_
  refine go_bastoreH P7 0 c0_17 rfl (by decide) (Nat.le_of_ble_eq_true rfl) ?_
  intro h8 P9
  dsimp only [lupd] at P9
  refine go_dup c0_18 rfl ?_
  refine go_push c0_19 ?_
  refine go_iload c0_20 rfl ?_
  refine go_i2b c0_21 ?_
  refine go_bastoreH P9 0 c0_22 rfl (by decide) (Nat.le_of_ble_eq_true rfl) ?_
  intro h10 P11
  dsimp only [lupd] at P11
  refine go_dup c0_23 rfl ?_
  refine go_push c0_24 ?_
  refine go_iload c0_25 rfl ?_
  refine go_i2b c0_27 ?_
  refine go_bastoreH P11 0 c0_28 rfl (by decide) (Nat.le_of_ble_eq_true rfl) ?_
  intro h12 P13
  dsimp only [lupd] at P13
  refine go_astore c0_29 rfl rfl rfl ?_
  dsimp only [setl]
  refine go_iload c0_31 rfl ?_
  refine go_ldcI (y := x) c0_33 (t1 hw) ?_
  refine go_iand c0_35 ?_
  refine go_push c0_36 ?_
  refine go_irem c0_38 (by decide) ?_
  rcases own_m6 rg with hA | hA | hA | hA | hA | hA
  · refine go_isI 0 hA ?_
    refine go_istore c0_39 rfl rfl ?_
    dsimp only [setl]
    refine go_iload c0_41 rfl ?_
    refine go_push c0_43 ?_
    refine go_iushr c0_45 ?_
    refine go_ldcI (y := x) c0_46 (t1 hw) ?_
    refine go_iand c0_48 ?_
    refine go_push c0_49 ?_
    refine go_irem c0_51 (by decide) ?_
    rcases own_m6 (XT.ushr rg 8) with hC | hC | hC | hC | hC | hC
    · refine go_isI 0 hC ?_
      refine go_istore c0_52 rfl rfl ?_
      dsimp only [setl]
      refine go_iload c0_54 rfl ?_
      refine go_iload c0_56 rfl ?_
      refine go_callS1 (y := x) (W := 0) (argsL := [(.int 0), (.int 0)]) (st := []) c0_58 (rm_min l Z a0 hw h12 n0 0 0) (t2 hw) (t3 hw) (t4 hw) (t5 hw) (by decide) (lenOf pd3 rfl) rfl rfl (by decide) (by decide) (by decide) (by decide) rfl ?_
      rintro _ _ ⟨rfl, rfl⟩
      refine go_more (k' := 1) (n' := 5) (by decide) (by decide) ?_
      refine go_isI 0 (by decide) ?_
      refine go_istore c0_61 rfl rfl ?_
      dsimp only [setl]
      refine go_iload c0_63 rfl ?_
      refine go_iload c0_65 rfl ?_
      refine go_callS1 (y := x) (W := 0) (argsL := [(.int 0), (.int 0)]) (st := []) c0_67 (rm_max l Z a0 hw h12 n0 0 0) (t6 hw) (t7 hw) (t4 hw) (t8 hw) (by decide) (lenOf pd3 rfl) rfl rfl (by decide) (by decide) (by decide) (by decide) rfl ?_
      rintro _ _ ⟨rfl, rfl⟩
      refine go_more (k' := 1) (n' := 5) (by decide) (by decide) ?_
      refine go_isI 0 (by decide) ?_
      refine go_istore c0_70 rfl rfl ?_
      dsimp only [setl]
      exact law_0_0 l Z a0 hw _ n0 a3 b0 b1 b2 b3 b4 rg 0 0 P13 kd kc Sk Ak hsz Tk
    · refine go_isI 1 hC ?_
      refine go_istore c0_52 rfl rfl ?_
      dsimp only [setl]
      refine go_iload c0_54 rfl ?_
      refine go_iload c0_56 rfl ?_
      refine go_callS1 (y := x) (W := 0) (argsL := [(.int 0), (.int 1)]) (st := []) c0_58 (rm_min l Z a0 hw h12 n0 0 1) (t2 hw) (t3 hw) (t4 hw) (t5 hw) (by decide) (lenOf pd3 rfl) rfl rfl (by decide) (by decide) (by decide) (by decide) rfl ?_
      rintro _ _ ⟨rfl, rfl⟩
      refine go_more (k' := 1) (n' := 5) (by decide) (by decide) ?_
      refine go_isI 0 (by decide) ?_
      refine go_istore c0_61 rfl rfl ?_
      dsimp only [setl]
      refine go_iload c0_63 rfl ?_
      refine go_iload c0_65 rfl ?_
      refine go_callS1 (y := x) (W := 0) (argsL := [(.int 0), (.int 1)]) (st := []) c0_67 (rm_max l Z a0 hw h12 n0 0 1) (t6 hw) (t7 hw) (t4 hw) (t8 hw) (by decide) (lenOf pd3 rfl) rfl rfl (by decide) (by decide) (by decide) (by decide) rfl ?_
      rintro _ _ ⟨rfl, rfl⟩
      refine go_more (k' := 1) (n' := 5) (by decide) (by decide) ?_
      refine go_isI 1 (by decide) ?_
      refine go_istore c0_70 rfl rfl ?_
      dsimp only [setl]
      exact law_0_1 l Z a0 hw _ n0 a3 b0 b1 b2 b3 b4 rg 0 1 P13 kd kc Sk Ak hsz Tk
    · refine go_isI 2 hC ?_
      refine go_istore c0_52 rfl rfl ?_
      dsimp only [setl]
      refine go_iload c0_54 rfl ?_
      refine go_iload c0_56 rfl ?_
      refine go_callS1 (y := x) (W := 0) (argsL := [(.int 0), (.int 2)]) (st := []) c0_58 (rm_min l Z a0 hw h12 n0 0 2) (t2 hw) (t3 hw) (t4 hw) (t5 hw) (by decide) (lenOf pd3 rfl) rfl rfl (by decide) (by decide) (by decide) (by decide) rfl ?_
      rintro _ _ ⟨rfl, rfl⟩
      refine go_more (k' := 1) (n' := 5) (by decide) (by decide) ?_
      refine go_isI 0 (by decide) ?_
      refine go_istore c0_61 rfl rfl ?_
      dsimp only [setl]
      refine go_iload c0_63 rfl ?_
      refine go_iload c0_65 rfl ?_
      refine go_callS1 (y := x) (W := 0) (argsL := [(.int 0), (.int 2)]) (st := []) c0_67 (rm_max l Z a0 hw h12 n0 0 2) (t6 hw) (t7 hw) (t4 hw) (t8 hw) (by decide) (lenOf pd3 rfl) rfl rfl (by decide) (by decide) (by decide) (by decide) rfl ?_
      rintro _ _ ⟨rfl, rfl⟩
      refine go_more (k' := 1) (n' := 5) (by decide) (by decide) ?_
      refine go_isI 2 (by decide) ?_
      refine go_istore c0_70 rfl rfl ?_
      dsimp only [setl]
      exact law_0_2 l Z a0 hw _ n0 a3 b0 b1 b2 b3 b4 rg 0 2 P13 kd kc Sk Ak hsz Tk
    · refine go_isI 3 hC ?_
      refine go_istore c0_52 rfl rfl ?_
      dsimp only [setl]
      refine go_iload c0_54 rfl ?_
      refine go_iload c0_56 rfl ?_
      refine go_callS1 (y := x) (W := 0) (argsL := [(.int 0), (.int 3)]) (st := []) c0_58 (rm_min l Z a0 hw h12 n0 0 3) (t2 hw) (t3 hw) (t4 hw) (t5 hw) (by decide) (lenOf pd3 rfl) rfl rfl (by decide) (by decide) (by decide) (by decide) rfl ?_
      rintro _ _ ⟨rfl, rfl⟩
      refine go_more (k' := 1) (n' := 5) (by decide) (by decide) ?_
      refine go_isI 0 (by decide) ?_
      refine go_istore c0_61 rfl rfl ?_
      dsimp only [setl]
      refine go_iload c0_63 rfl ?_
      refine go_iload c0_65 rfl ?_
      refine go_callS1 (y := x) (W := 0) (argsL := [(.int 0), (.int 3)]) (st := []) c0_67 (rm_max l Z a0 hw h12 n0 0 3) (t6 hw) (t7 hw) (t4 hw) (t8 hw) (by decide) (lenOf pd3 rfl) rfl rfl (by decide) (by decide) (by decide) (by decide) rfl ?_
      rintro _ _ ⟨rfl, rfl⟩
      refine go_more (k' := 1) (n' := 5) (by decide) (by decide) ?_
      refine go_isI 3 (by decide) ?_
      refine go_istore c0_70 rfl rfl ?_
      dsimp only [setl]
      exact law_0_3 l Z a0 hw _ n0 a3 b0 b1 b2 b3 b4 rg 0 3 P13 kd kc Sk Ak hsz Tk
    · refine go_isI 4 hC ?_
      refine go_istore c0_52 rfl rfl ?_
      dsimp only [setl]
      refine go_iload c0_54 rfl ?_
      refine go_iload c0_56 rfl ?_
      refine go_callS1 (y := x) (W := 0) (argsL := [(.int 0), (.int 4)]) (st := []) c0_58 (rm_min l Z a0 hw h12 n0 0 4) (t2 hw) (t3 hw) (t4 hw) (t5 hw) (by decide) (lenOf pd3 rfl) rfl rfl (by decide) (by decide) (by decide) (by decide) rfl ?_
      rintro _ _ ⟨rfl, rfl⟩
      refine go_more (k' := 1) (n' := 5) (by decide) (by decide) ?_
      refine go_isI 0 (by decide) ?_
      refine go_istore c0_61 rfl rfl ?_
      dsimp only [setl]
      refine go_iload c0_63 rfl ?_
      refine go_iload c0_65 rfl ?_
      refine go_callS1 (y := x) (W := 0) (argsL := [(.int 0), (.int 4)]) (st := []) c0_67 (rm_max l Z a0 hw h12 n0 0 4) (t6 hw) (t7 hw) (t4 hw) (t8 hw) (by decide) (lenOf pd3 rfl) rfl rfl (by decide) (by decide) (by decide) (by decide) rfl ?_
      rintro _ _ ⟨rfl, rfl⟩
      refine go_more (k' := 1) (n' := 5) (by decide) (by decide) ?_
      refine go_isI 4 (by decide) ?_
      refine go_istore c0_70 rfl rfl ?_
      dsimp only [setl]
      exact law_0_4 l Z a0 hw _ n0 a3 b0 b1 b2 b3 b4 rg 0 4 P13 kd kc Sk Ak hsz Tk
    · refine go_isI 5 hC ?_
      refine go_istore c0_52 rfl rfl ?_
      dsimp only [setl]
      refine go_iload c0_54 rfl ?_
      refine go_iload c0_56 rfl ?_
      refine go_callS1 (y := x) (W := 0) (argsL := [(.int 0), (.int 5)]) (st := []) c0_58 (rm_min l Z a0 hw h12 n0 0 5) (t2 hw) (t3 hw) (t4 hw) (t5 hw) (by decide) (lenOf pd3 rfl) rfl rfl (by decide) (by decide) (by decide) (by decide) rfl ?_
      rintro _ _ ⟨rfl, rfl⟩
      refine go_more (k' := 1) (n' := 5) (by decide) (by decide) ?_
      refine go_isI 0 (by decide) ?_
      refine go_istore c0_61 rfl rfl ?_
      dsimp only [setl]
      refine go_iload c0_63 rfl ?_
      refine go_iload c0_65 rfl ?_
      refine go_callS1 (y := x) (W := 0) (argsL := [(.int 0), (.int 5)]) (st := []) c0_67 (rm_max l Z a0 hw h12 n0 0 5) (t6 hw) (t7 hw) (t4 hw) (t8 hw) (by decide) (lenOf pd3 rfl) rfl rfl (by decide) (by decide) (by decide) (by decide) rfl ?_
      rintro _ _ ⟨rfl, rfl⟩
      refine go_more (k' := 1) (n' := 5) (by decide) (by decide) ?_
      refine go_isI 5 (by decide) ?_
      refine go_istore c0_70 rfl rfl ?_
      dsimp only [setl]
      exact law_0_5 l Z a0 hw _ n0 a3 b0 b1 b2 b3 b4 rg 0 5 P13 kd kc Sk Ak hsz Tk
  · refine go_isI 1 hA ?_
    refine go_istore c0_39 rfl rfl ?_
    dsimp only [setl]
    refine go_iload c0_41 rfl ?_
    refine go_push c0_43 ?_
    refine go_iushr c0_45 ?_
    refine go_ldcI (y := x) c0_46 (t1 hw) ?_
    refine go_iand c0_48 ?_
    refine go_push c0_49 ?_
    refine go_irem c0_51 (by decide) ?_
    rcases own_m6 (XT.ushr rg 8) with hC | hC | hC | hC | hC | hC
    · refine go_isI 0 hC ?_
      refine go_istore c0_52 rfl rfl ?_
      dsimp only [setl]
      refine go_iload c0_54 rfl ?_
      refine go_iload c0_56 rfl ?_
      refine go_callS1 (y := x) (W := 0) (argsL := [(.int 1), (.int 0)]) (st := []) c0_58 (rm_min l Z a0 hw h12 n0 1 0) (t2 hw) (t3 hw) (t4 hw) (t5 hw) (by decide) (lenOf pd3 rfl) rfl rfl (by decide) (by decide) (by decide) (by decide) rfl ?_
      rintro _ _ ⟨rfl, rfl⟩
      refine go_more (k' := 1) (n' := 5) (by decide) (by decide) ?_
      refine go_isI 0 (by decide) ?_
      refine go_istore c0_61 rfl rfl ?_
      dsimp only [setl]
      refine go_iload c0_63 rfl ?_
      refine go_iload c0_65 rfl ?_
      refine go_callS1 (y := x) (W := 0) (argsL := [(.int 1), (.int 0)]) (st := []) c0_67 (rm_max l Z a0 hw h12 n0 1 0) (t6 hw) (t7 hw) (t4 hw) (t8 hw) (by decide) (lenOf pd3 rfl) rfl rfl (by decide) (by decide) (by decide) (by decide) rfl ?_
      rintro _ _ ⟨rfl, rfl⟩
      refine go_more (k' := 1) (n' := 5) (by decide) (by decide) ?_
      refine go_isI 1 (by decide) ?_
      refine go_istore c0_70 rfl rfl ?_
      dsimp only [setl]
      exact law_0_1 l Z a0 hw _ n0 a3 b0 b1 b2 b3 b4 rg 1 0 P13 kd kc Sk Ak hsz Tk
    · refine go_isI 1 hC ?_
      refine go_istore c0_52 rfl rfl ?_
      dsimp only [setl]
      refine go_iload c0_54 rfl ?_
      refine go_iload c0_56 rfl ?_
      refine go_callS1 (y := x) (W := 0) (argsL := [(.int 1), (.int 1)]) (st := []) c0_58 (rm_min l Z a0 hw h12 n0 1 1) (t2 hw) (t3 hw) (t4 hw) (t5 hw) (by decide) (lenOf pd3 rfl) rfl rfl (by decide) (by decide) (by decide) (by decide) rfl ?_
      rintro _ _ ⟨rfl, rfl⟩
      refine go_more (k' := 1) (n' := 5) (by decide) (by decide) ?_
      refine go_isI 1 (by decide) ?_
      refine go_istore c0_61 rfl rfl ?_
      dsimp only [setl]
      refine go_iload c0_63 rfl ?_
      refine go_iload c0_65 rfl ?_
      refine go_callS1 (y := x) (W := 0) (argsL := [(.int 1), (.int 1)]) (st := []) c0_67 (rm_max l Z a0 hw h12 n0 1 1) (t6 hw) (t7 hw) (t4 hw) (t8 hw) (by decide) (lenOf pd3 rfl) rfl rfl (by decide) (by decide) (by decide) (by decide) rfl ?_
      rintro _ _ ⟨rfl, rfl⟩
      refine go_more (k' := 1) (n' := 5) (by decide) (by decide) ?_
      refine go_isI 1 (by decide) ?_
      refine go_istore c0_70 rfl rfl ?_
      dsimp only [setl]
      exact law_1_1 l Z a0 hw _ n0 a3 b0 b1 b2 b3 b4 rg 1 1 P13 kd kc Sk Ak hsz Tk
    · refine go_isI 2 hC ?_
      refine go_istore c0_52 rfl rfl ?_
      dsimp only [setl]
      refine go_iload c0_54 rfl ?_
      refine go_iload c0_56 rfl ?_
      refine go_callS1 (y := x) (W := 0) (argsL := [(.int 1), (.int 2)]) (st := []) c0_58 (rm_min l Z a0 hw h12 n0 1 2) (t2 hw) (t3 hw) (t4 hw) (t5 hw) (by decide) (lenOf pd3 rfl) rfl rfl (by decide) (by decide) (by decide) (by decide) rfl ?_
      rintro _ _ ⟨rfl, rfl⟩
      refine go_more (k' := 1) (n' := 5) (by decide) (by decide) ?_
      refine go_isI 1 (by decide) ?_
      refine go_istore c0_61 rfl rfl ?_
      dsimp only [setl]
      refine go_iload c0_63 rfl ?_
      refine go_iload c0_65 rfl ?_
      refine go_callS1 (y := x) (W := 0) (argsL := [(.int 1), (.int 2)]) (st := []) c0_67 (rm_max l Z a0 hw h12 n0 1 2) (t6 hw) (t7 hw) (t4 hw) (t8 hw) (by decide) (lenOf pd3 rfl) rfl rfl (by decide) (by decide) (by decide) (by decide) rfl ?_
      rintro _ _ ⟨rfl, rfl⟩
      refine go_more (k' := 1) (n' := 5) (by decide) (by decide) ?_
      refine go_isI 2 (by decide) ?_
      refine go_istore c0_70 rfl rfl ?_
      dsimp only [setl]
      exact law_1_2 l Z a0 hw _ n0 a3 b0 b1 b2 b3 b4 rg 1 2 P13 kd kc Sk Ak hsz Tk
    · refine go_isI 3 hC ?_
      refine go_istore c0_52 rfl rfl ?_
      dsimp only [setl]
      refine go_iload c0_54 rfl ?_
      refine go_iload c0_56 rfl ?_
      refine go_callS1 (y := x) (W := 0) (argsL := [(.int 1), (.int 3)]) (st := []) c0_58 (rm_min l Z a0 hw h12 n0 1 3) (t2 hw) (t3 hw) (t4 hw) (t5 hw) (by decide) (lenOf pd3 rfl) rfl rfl (by decide) (by decide) (by decide) (by decide) rfl ?_
      rintro _ _ ⟨rfl, rfl⟩
      refine go_more (k' := 1) (n' := 5) (by decide) (by decide) ?_
      refine go_isI 1 (by decide) ?_
      refine go_istore c0_61 rfl rfl ?_
      dsimp only [setl]
      refine go_iload c0_63 rfl ?_
      refine go_iload c0_65 rfl ?_
      refine go_callS1 (y := x) (W := 0) (argsL := [(.int 1), (.int 3)]) (st := []) c0_67 (rm_max l Z a0 hw h12 n0 1 3) (t6 hw) (t7 hw) (t4 hw) (t8 hw) (by decide) (lenOf pd3 rfl) rfl rfl (by decide) (by decide) (by decide) (by decide) rfl ?_
      rintro _ _ ⟨rfl, rfl⟩
      refine go_more (k' := 1) (n' := 5) (by decide) (by decide) ?_
      refine go_isI 3 (by decide) ?_
      refine go_istore c0_70 rfl rfl ?_
      dsimp only [setl]
      exact law_1_3 l Z a0 hw _ n0 a3 b0 b1 b2 b3 b4 rg 1 3 P13 kd kc Sk Ak hsz Tk
    · refine go_isI 4 hC ?_
      refine go_istore c0_52 rfl rfl ?_
      dsimp only [setl]
      refine go_iload c0_54 rfl ?_
      refine go_iload c0_56 rfl ?_
      refine go_callS1 (y := x) (W := 0) (argsL := [(.int 1), (.int 4)]) (st := []) c0_58 (rm_min l Z a0 hw h12 n0 1 4) (t2 hw) (t3 hw) (t4 hw) (t5 hw) (by decide) (lenOf pd3 rfl) rfl rfl (by decide) (by decide) (by decide) (by decide) rfl ?_
      rintro _ _ ⟨rfl, rfl⟩
      refine go_more (k' := 1) (n' := 5) (by decide) (by decide) ?_
      refine go_isI 1 (by decide) ?_
      refine go_istore c0_61 rfl rfl ?_
      dsimp only [setl]
      refine go_iload c0_63 rfl ?_
      refine go_iload c0_65 rfl ?_
      refine go_callS1 (y := x) (W := 0) (argsL := [(.int 1), (.int 4)]) (st := []) c0_67 (rm_max l Z a0 hw h12 n0 1 4) (t6 hw) (t7 hw) (t4 hw) (t8 hw) (by decide) (lenOf pd3 rfl) rfl rfl (by decide) (by decide) (by decide) (by decide) rfl ?_
      rintro _ _ ⟨rfl, rfl⟩
      refine go_more (k' := 1) (n' := 5) (by decide) (by decide) ?_
      refine go_isI 4 (by decide) ?_
      refine go_istore c0_70 rfl rfl ?_
      dsimp only [setl]
      exact law_1_4 l Z a0 hw _ n0 a3 b0 b1 b2 b3 b4 rg 1 4 P13 kd kc Sk Ak hsz Tk
    · refine go_isI 5 hC ?_
      refine go_istore c0_52 rfl rfl ?_
      dsimp only [setl]
      refine go_iload c0_54 rfl ?_
      refine go_iload c0_56 rfl ?_
      refine go_callS1 (y := x) (W := 0) (argsL := [(.int 1), (.int 5)]) (st := []) c0_58 (rm_min l Z a0 hw h12 n0 1 5) (t2 hw) (t3 hw) (t4 hw) (t5 hw) (by decide) (lenOf pd3 rfl) rfl rfl (by decide) (by decide) (by decide) (by decide) rfl ?_
      rintro _ _ ⟨rfl, rfl⟩
      refine go_more (k' := 1) (n' := 5) (by decide) (by decide) ?_
      refine go_isI 1 (by decide) ?_
      refine go_istore c0_61 rfl rfl ?_
      dsimp only [setl]
      refine go_iload c0_63 rfl ?_
      refine go_iload c0_65 rfl ?_
      refine go_callS1 (y := x) (W := 0) (argsL := [(.int 1), (.int 5)]) (st := []) c0_67 (rm_max l Z a0 hw h12 n0 1 5) (t6 hw) (t7 hw) (t4 hw) (t8 hw) (by decide) (lenOf pd3 rfl) rfl rfl (by decide) (by decide) (by decide) (by decide) rfl ?_
      rintro _ _ ⟨rfl, rfl⟩
      refine go_more (k' := 1) (n' := 5) (by decide) (by decide) ?_
      refine go_isI 5 (by decide) ?_
      refine go_istore c0_70 rfl rfl ?_
      dsimp only [setl]
      exact law_1_5 l Z a0 hw _ n0 a3 b0 b1 b2 b3 b4 rg 1 5 P13 kd kc Sk Ak hsz Tk
  · refine go_isI 2 hA ?_
    refine go_istore c0_39 rfl rfl ?_
    dsimp only [setl]
    refine go_iload c0_41 rfl ?_
    refine go_push c0_43 ?_
    refine go_iushr c0_45 ?_
    refine go_ldcI (y := x) c0_46 (t1 hw) ?_
    refine go_iand c0_48 ?_
    refine go_push c0_49 ?_
    refine go_irem c0_51 (by decide) ?_
    rcases own_m6 (XT.ushr rg 8) with hC | hC | hC | hC | hC | hC
    · refine go_isI 0 hC ?_
      refine go_istore c0_52 rfl rfl ?_
      dsimp only [setl]
      refine go_iload c0_54 rfl ?_
      refine go_iload c0_56 rfl ?_
      refine go_callS1 (y := x) (W := 0) (argsL := [(.int 2), (.int 0)]) (st := []) c0_58 (rm_min l Z a0 hw h12 n0 2 0) (t2 hw) (t3 hw) (t4 hw) (t5 hw) (by decide) (lenOf pd3 rfl) rfl rfl (by decide) (by decide) (by decide) (by decide) rfl ?_
      rintro _ _ ⟨rfl, rfl⟩
      refine go_more (k' := 1) (n' := 5) (by decide) (by decide) ?_
      refine go_isI 0 (by decide) ?_
      refine go_istore c0_61 rfl rfl ?_
      dsimp only [setl]
      refine go_iload c0_63 rfl ?_
      refine go_iload c0_65 rfl ?_
      refine go_callS1 (y := x) (W := 0) (argsL := [(.int 2), (.int 0)]) (st := []) c0_67 (rm_max l Z a0 hw h12 n0 2 0) (t6 hw) (t7 hw) (t4 hw) (t8 hw) (by decide) (lenOf pd3 rfl) rfl rfl (by decide) (by decide) (by decide) (by decide) rfl ?_
      rintro _ _ ⟨rfl, rfl⟩
      refine go_more (k' := 1) (n' := 5) (by decide) (by decide) ?_
      refine go_isI 2 (by decide) ?_
      refine go_istore c0_70 rfl rfl ?_
      dsimp only [setl]
      exact law_0_2 l Z a0 hw _ n0 a3 b0 b1 b2 b3 b4 rg 2 0 P13 kd kc Sk Ak hsz Tk
    · refine go_isI 1 hC ?_
      refine go_istore c0_52 rfl rfl ?_
      dsimp only [setl]
      refine go_iload c0_54 rfl ?_
      refine go_iload c0_56 rfl ?_
      refine go_callS1 (y := x) (W := 0) (argsL := [(.int 2), (.int 1)]) (st := []) c0_58 (rm_min l Z a0 hw h12 n0 2 1) (t2 hw) (t3 hw) (t4 hw) (t5 hw) (by decide) (lenOf pd3 rfl) rfl rfl (by decide) (by decide) (by decide) (by decide) rfl ?_
      rintro _ _ ⟨rfl, rfl⟩
      refine go_more (k' := 1) (n' := 5) (by decide) (by decide) ?_
      refine go_isI 1 (by decide) ?_
      refine go_istore c0_61 rfl rfl ?_
      dsimp only [setl]
      refine go_iload c0_63 rfl ?_
      refine go_iload c0_65 rfl ?_
      refine go_callS1 (y := x) (W := 0) (argsL := [(.int 2), (.int 1)]) (st := []) c0_67 (rm_max l Z a0 hw h12 n0 2 1) (t6 hw) (t7 hw) (t4 hw) (t8 hw) (by decide) (lenOf pd3 rfl) rfl rfl (by decide) (by decide) (by decide) (by decide) rfl ?_
      rintro _ _ ⟨rfl, rfl⟩
      refine go_more (k' := 1) (n' := 5) (by decide) (by decide) ?_
      refine go_isI 2 (by decide) ?_
      refine go_istore c0_70 rfl rfl ?_
      dsimp only [setl]
      exact law_1_2 l Z a0 hw _ n0 a3 b0 b1 b2 b3 b4 rg 2 1 P13 kd kc Sk Ak hsz Tk
    · refine go_isI 2 hC ?_
      refine go_istore c0_52 rfl rfl ?_
      dsimp only [setl]
      refine go_iload c0_54 rfl ?_
      refine go_iload c0_56 rfl ?_
      refine go_callS1 (y := x) (W := 0) (argsL := [(.int 2), (.int 2)]) (st := []) c0_58 (rm_min l Z a0 hw h12 n0 2 2) (t2 hw) (t3 hw) (t4 hw) (t5 hw) (by decide) (lenOf pd3 rfl) rfl rfl (by decide) (by decide) (by decide) (by decide) rfl ?_
      rintro _ _ ⟨rfl, rfl⟩
      refine go_more (k' := 1) (n' := 5) (by decide) (by decide) ?_
      refine go_isI 2 (by decide) ?_
      refine go_istore c0_61 rfl rfl ?_
      dsimp only [setl]
      refine go_iload c0_63 rfl ?_
      refine go_iload c0_65 rfl ?_
      refine go_callS1 (y := x) (W := 0) (argsL := [(.int 2), (.int 2)]) (st := []) c0_67 (rm_max l Z a0 hw h12 n0 2 2) (t6 hw) (t7 hw) (t4 hw) (t8 hw) (by decide) (lenOf pd3 rfl) rfl rfl (by decide) (by decide) (by decide) (by decide) rfl ?_
      rintro _ _ ⟨rfl, rfl⟩
      refine go_more (k' := 1) (n' := 5) (by decide) (by decide) ?_
      refine go_isI 2 (by decide) ?_
      refine go_istore c0_70 rfl rfl ?_
      dsimp only [setl]
      exact law_2_2 l Z a0 hw _ n0 a3 b0 b1 b2 b3 b4 rg 2 2 P13 kd kc Sk Ak hsz Tk
    · refine go_isI 3 hC ?_
      refine go_istore c0_52 rfl rfl ?_
      dsimp only [setl]
      refine go_iload c0_54 rfl ?_
      refine go_iload c0_56 rfl ?_
      refine go_callS1 (y := x) (W := 0) (argsL := [(.int 2), (.int 3)]) (st := []) c0_58 (rm_min l Z a0 hw h12 n0 2 3) (t2 hw) (t3 hw) (t4 hw) (t5 hw) (by decide) (lenOf pd3 rfl) rfl rfl (by decide) (by decide) (by decide) (by decide) rfl ?_
      rintro _ _ ⟨rfl, rfl⟩
      refine go_more (k' := 1) (n' := 5) (by decide) (by decide) ?_
      refine go_isI 2 (by decide) ?_
      refine go_istore c0_61 rfl rfl ?_
      dsimp only [setl]
      refine go_iload c0_63 rfl ?_
      refine go_iload c0_65 rfl ?_
      refine go_callS1 (y := x) (W := 0) (argsL := [(.int 2), (.int 3)]) (st := []) c0_67 (rm_max l Z a0 hw h12 n0 2 3) (t6 hw) (t7 hw) (t4 hw) (t8 hw) (by decide) (lenOf pd3 rfl) rfl rfl (by decide) (by decide) (by decide) (by decide) rfl ?_
      rintro _ _ ⟨rfl, rfl⟩
      refine go_more (k' := 1) (n' := 5) (by decide) (by decide) ?_
      refine go_isI 3 (by decide) ?_
      refine go_istore c0_70 rfl rfl ?_
      dsimp only [setl]
      exact law_2_3 l Z a0 hw _ n0 a3 b0 b1 b2 b3 b4 rg 2 3 P13 kd kc Sk Ak hsz Tk
    · refine go_isI 4 hC ?_
      refine go_istore c0_52 rfl rfl ?_
      dsimp only [setl]
      refine go_iload c0_54 rfl ?_
      refine go_iload c0_56 rfl ?_
      refine go_callS1 (y := x) (W := 0) (argsL := [(.int 2), (.int 4)]) (st := []) c0_58 (rm_min l Z a0 hw h12 n0 2 4) (t2 hw) (t3 hw) (t4 hw) (t5 hw) (by decide) (lenOf pd3 rfl) rfl rfl (by decide) (by decide) (by decide) (by decide) rfl ?_
      rintro _ _ ⟨rfl, rfl⟩
      refine go_more (k' := 1) (n' := 5) (by decide) (by decide) ?_
      refine go_isI 2 (by decide) ?_
      refine go_istore c0_61 rfl rfl ?_
      dsimp only [setl]
      refine go_iload c0_63 rfl ?_
      refine go_iload c0_65 rfl ?_
      refine go_callS1 (y := x) (W := 0) (argsL := [(.int 2), (.int 4)]) (st := []) c0_67 (rm_max l Z a0 hw h12 n0 2 4) (t6 hw) (t7 hw) (t4 hw) (t8 hw) (by decide) (lenOf pd3 rfl) rfl rfl (by decide) (by decide) (by decide) (by decide) rfl ?_
      rintro _ _ ⟨rfl, rfl⟩
      refine go_more (k' := 1) (n' := 5) (by decide) (by decide) ?_
      refine go_isI 4 (by decide) ?_
      refine go_istore c0_70 rfl rfl ?_
      dsimp only [setl]
      exact law_2_4 l Z a0 hw _ n0 a3 b0 b1 b2 b3 b4 rg 2 4 P13 kd kc Sk Ak hsz Tk
    · refine go_isI 5 hC ?_
      refine go_istore c0_52 rfl rfl ?_
      dsimp only [setl]
      refine go_iload c0_54 rfl ?_
      refine go_iload c0_56 rfl ?_
      refine go_callS1 (y := x) (W := 0) (argsL := [(.int 2), (.int 5)]) (st := []) c0_58 (rm_min l Z a0 hw h12 n0 2 5) (t2 hw) (t3 hw) (t4 hw) (t5 hw) (by decide) (lenOf pd3 rfl) rfl rfl (by decide) (by decide) (by decide) (by decide) rfl ?_
      rintro _ _ ⟨rfl, rfl⟩
      refine go_more (k' := 1) (n' := 5) (by decide) (by decide) ?_
      refine go_isI 2 (by decide) ?_
      refine go_istore c0_61 rfl rfl ?_
      dsimp only [setl]
      refine go_iload c0_63 rfl ?_
      refine go_iload c0_65 rfl ?_
      refine go_callS1 (y := x) (W := 0) (argsL := [(.int 2), (.int 5)]) (st := []) c0_67 (rm_max l Z a0 hw h12 n0 2 5) (t6 hw) (t7 hw) (t4 hw) (t8 hw) (by decide) (lenOf pd3 rfl) rfl rfl (by decide) (by decide) (by decide) (by decide) rfl ?_
      rintro _ _ ⟨rfl, rfl⟩
      refine go_more (k' := 1) (n' := 5) (by decide) (by decide) ?_
      refine go_isI 5 (by decide) ?_
      refine go_istore c0_70 rfl rfl ?_
      dsimp only [setl]
      exact law_2_5 l Z a0 hw _ n0 a3 b0 b1 b2 b3 b4 rg 2 5 P13 kd kc Sk Ak hsz Tk
  · refine go_isI 3 hA ?_
    refine go_istore c0_39 rfl rfl ?_
    dsimp only [setl]
    refine go_iload c0_41 rfl ?_
    refine go_push c0_43 ?_
    refine go_iushr c0_45 ?_
    refine go_ldcI (y := x) c0_46 (t1 hw) ?_
    refine go_iand c0_48 ?_
    refine go_push c0_49 ?_
    refine go_irem c0_51 (by decide) ?_
    rcases own_m6 (XT.ushr rg 8) with hC | hC | hC | hC | hC | hC
    · refine go_isI 0 hC ?_
      refine go_istore c0_52 rfl rfl ?_
      dsimp only [setl]
      refine go_iload c0_54 rfl ?_
      refine go_iload c0_56 rfl ?_
      refine go_callS1 (y := x) (W := 0) (argsL := [(.int 3), (.int 0)]) (st := []) c0_58 (rm_min l Z a0 hw h12 n0 3 0) (t2 hw) (t3 hw) (t4 hw) (t5 hw) (by decide) (lenOf pd3 rfl) rfl rfl (by decide) (by decide) (by decide) (by decide) rfl ?_
      rintro _ _ ⟨rfl, rfl⟩
      refine go_more (k' := 1) (n' := 5) (by decide) (by decide) ?_
      refine go_isI 0 (by decide) ?_
      refine go_istore c0_61 rfl rfl ?_
      dsimp only [setl]
      refine go_iload c0_63 rfl ?_
      refine go_iload c0_65 rfl ?_
      refine go_callS1 (y := x) (W := 0) (argsL := [(.int 3), (.int 0)]) (st := []) c0_67 (rm_max l Z a0 hw h12 n0 3 0) (t6 hw) (t7 hw) (t4 hw) (t8 hw) (by decide) (lenOf pd3 rfl) rfl rfl (by decide) (by decide) (by decide) (by decide) rfl ?_
      rintro _ _ ⟨rfl, rfl⟩
      refine go_more (k' := 1) (n' := 5) (by decide) (by decide) ?_
      refine go_isI 3 (by decide) ?_
      refine go_istore c0_70 rfl rfl ?_
      dsimp only [setl]
      exact law_0_3 l Z a0 hw _ n0 a3 b0 b1 b2 b3 b4 rg 3 0 P13 kd kc Sk Ak hsz Tk
    · refine go_isI 1 hC ?_
      refine go_istore c0_52 rfl rfl ?_
      dsimp only [setl]
      refine go_iload c0_54 rfl ?_
      refine go_iload c0_56 rfl ?_
      refine go_callS1 (y := x) (W := 0) (argsL := [(.int 3), (.int 1)]) (st := []) c0_58 (rm_min l Z a0 hw h12 n0 3 1) (t2 hw) (t3 hw) (t4 hw) (t5 hw) (by decide) (lenOf pd3 rfl) rfl rfl (by decide) (by decide) (by decide) (by decide) rfl ?_
      rintro _ _ ⟨rfl, rfl⟩
      refine go_more (k' := 1) (n' := 5) (by decide) (by decide) ?_
      refine go_isI 1 (by decide) ?_
      refine go_istore c0_61 rfl rfl ?_
      dsimp only [setl]
      refine go_iload c0_63 rfl ?_
      refine go_iload c0_65 rfl ?_
      refine go_callS1 (y := x) (W := 0) (argsL := [(.int 3), (.int 1)]) (st := []) c0_67 (rm_max l Z a0 hw h12 n0 3 1) (t6 hw) (t7 hw) (t4 hw) (t8 hw) (by decide) (lenOf pd3 rfl) rfl rfl (by decide) (by decide) (by decide) (by decide) rfl ?_
      rintro _ _ ⟨rfl, rfl⟩
      refine go_more (k' := 1) (n' := 5) (by decide) (by decide) ?_
      refine go_isI 3 (by decide) ?_
      refine go_istore c0_70 rfl rfl ?_
      dsimp only [setl]
      exact law_1_3 l Z a0 hw _ n0 a3 b0 b1 b2 b3 b4 rg 3 1 P13 kd kc Sk Ak hsz Tk
    · refine go_isI 2 hC ?_
      refine go_istore c0_52 rfl rfl ?_
      dsimp only [setl]
      refine go_iload c0_54 rfl ?_
      refine go_iload c0_56 rfl ?_
      refine go_callS1 (y := x) (W := 0) (argsL := [(.int 3), (.int 2)]) (st := []) c0_58 (rm_min l Z a0 hw h12 n0 3 2) (t2 hw) (t3 hw) (t4 hw) (t5 hw) (by decide) (lenOf pd3 rfl) rfl rfl (by decide) (by decide) (by decide) (by decide) rfl ?_
      rintro _ _ ⟨rfl, rfl⟩
      refine go_more (k' := 1) (n' := 5) (by decide) (by decide) ?_
      refine go_isI 2 (by decide) ?_
      refine go_istore c0_61 rfl rfl ?_
      dsimp only [setl]
      refine go_iload c0_63 rfl ?_
      refine go_iload c0_65 rfl ?_
      refine go_callS1 (y := x) (W := 0) (argsL := [(.int 3), (.int 2)]) (st := []) c0_67 (rm_max l Z a0 hw h12 n0 3 2) (t6 hw) (t7 hw) (t4 hw) (t8 hw) (by decide) (lenOf pd3 rfl) rfl rfl (by decide) (by decide) (by decide) (by decide) rfl ?_
      rintro _ _ ⟨rfl, rfl⟩
      refine go_more (k' := 1) (n' := 5) (by decide) (by decide) ?_
      refine go_isI 3 (by decide) ?_
      refine go_istore c0_70 rfl rfl ?_
      dsimp only [setl]
      exact law_2_3 l Z a0 hw _ n0 a3 b0 b1 b2 b3 b4 rg 3 2 P13 kd kc Sk Ak hsz Tk
    · refine go_isI 3 hC ?_
      refine go_istore c0_52 rfl rfl ?_
      dsimp only [setl]
      refine go_iload c0_54 rfl ?_
      refine go_iload c0_56 rfl ?_
      refine go_callS1 (y := x) (W := 0) (argsL := [(.int 3), (.int 3)]) (st := []) c0_58 (rm_min l Z a0 hw h12 n0 3 3) (t2 hw) (t3 hw) (t4 hw) (t5 hw) (by decide) (lenOf pd3 rfl) rfl rfl (by decide) (by decide) (by decide) (by decide) rfl ?_
      rintro _ _ ⟨rfl, rfl⟩
      refine go_more (k' := 1) (n' := 5) (by decide) (by decide) ?_
      refine go_isI 3 (by decide) ?_
      refine go_istore c0_61 rfl rfl ?_
      dsimp only [setl]
      refine go_iload c0_63 rfl ?_
      refine go_iload c0_65 rfl ?_
      refine go_callS1 (y := x) (W := 0) (argsL := [(.int 3), (.int 3)]) (st := []) c0_67 (rm_max l Z a0 hw h12 n0 3 3) (t6 hw) (t7 hw) (t4 hw) (t8 hw) (by decide) (lenOf pd3 rfl) rfl rfl (by decide) (by decide) (by decide) (by decide) rfl ?_
      rintro _ _ ⟨rfl, rfl⟩
      refine go_more (k' := 1) (n' := 5) (by decide) (by decide) ?_
      refine go_isI 3 (by decide) ?_
      refine go_istore c0_70 rfl rfl ?_
      dsimp only [setl]
      exact law_3_3 l Z a0 hw _ n0 a3 b0 b1 b2 b3 b4 rg 3 3 P13 kd kc Sk Ak hsz Tk
    · refine go_isI 4 hC ?_
      refine go_istore c0_52 rfl rfl ?_
      dsimp only [setl]
      refine go_iload c0_54 rfl ?_
      refine go_iload c0_56 rfl ?_
      refine go_callS1 (y := x) (W := 0) (argsL := [(.int 3), (.int 4)]) (st := []) c0_58 (rm_min l Z a0 hw h12 n0 3 4) (t2 hw) (t3 hw) (t4 hw) (t5 hw) (by decide) (lenOf pd3 rfl) rfl rfl (by decide) (by decide) (by decide) (by decide) rfl ?_
      rintro _ _ ⟨rfl, rfl⟩
      refine go_more (k' := 1) (n' := 5) (by decide) (by decide) ?_
      refine go_isI 3 (by decide) ?_
      refine go_istore c0_61 rfl rfl ?_
      dsimp only [setl]
      refine go_iload c0_63 rfl ?_
      refine go_iload c0_65 rfl ?_
      refine go_callS1 (y := x) (W := 0) (argsL := [(.int 3), (.int 4)]) (st := []) c0_67 (rm_max l Z a0 hw h12 n0 3 4) (t6 hw) (t7 hw) (t4 hw) (t8 hw) (by decide) (lenOf pd3 rfl) rfl rfl (by decide) (by decide) (by decide) (by decide) rfl ?_
      rintro _ _ ⟨rfl, rfl⟩
      refine go_more (k' := 1) (n' := 5) (by decide) (by decide) ?_
      refine go_isI 4 (by decide) ?_
      refine go_istore c0_70 rfl rfl ?_
      dsimp only [setl]
      exact law_3_4 l Z a0 hw _ n0 a3 b0 b1 b2 b3 b4 rg 3 4 P13 kd kc Sk Ak hsz Tk
    · refine go_isI 5 hC ?_
      refine go_istore c0_52 rfl rfl ?_
      dsimp only [setl]
      refine go_iload c0_54 rfl ?_
      refine go_iload c0_56 rfl ?_
      refine go_callS1 (y := x) (W := 0) (argsL := [(.int 3), (.int 5)]) (st := []) c0_58 (rm_min l Z a0 hw h12 n0 3 5) (t2 hw) (t3 hw) (t4 hw) (t5 hw) (by decide) (lenOf pd3 rfl) rfl rfl (by decide) (by decide) (by decide) (by decide) rfl ?_
      rintro _ _ ⟨rfl, rfl⟩
      refine go_more (k' := 1) (n' := 5) (by decide) (by decide) ?_
      refine go_isI 3 (by decide) ?_
      refine go_istore c0_61 rfl rfl ?_
      dsimp only [setl]
      refine go_iload c0_63 rfl ?_
      refine go_iload c0_65 rfl ?_
      refine go_callS1 (y := x) (W := 0) (argsL := [(.int 3), (.int 5)]) (st := []) c0_67 (rm_max l Z a0 hw h12 n0 3 5) (t6 hw) (t7 hw) (t4 hw) (t8 hw) (by decide) (lenOf pd3 rfl) rfl rfl (by decide) (by decide) (by decide) (by decide) rfl ?_
      rintro _ _ ⟨rfl, rfl⟩
      refine go_more (k' := 1) (n' := 5) (by decide) (by decide) ?_
      refine go_isI 5 (by decide) ?_
      refine go_istore c0_70 rfl rfl ?_
      dsimp only [setl]
      exact law_3_5 l Z a0 hw _ n0 a3 b0 b1 b2 b3 b4 rg 3 5 P13 kd kc Sk Ak hsz Tk
  · refine go_isI 4 hA ?_
    refine go_istore c0_39 rfl rfl ?_
    dsimp only [setl]
    refine go_iload c0_41 rfl ?_
    refine go_push c0_43 ?_
    refine go_iushr c0_45 ?_
    refine go_ldcI (y := x) c0_46 (t1 hw) ?_
    refine go_iand c0_48 ?_
    refine go_push c0_49 ?_
    refine go_irem c0_51 (by decide) ?_
    rcases own_m6 (XT.ushr rg 8) with hC | hC | hC | hC | hC | hC
    · refine go_isI 0 hC ?_
      refine go_istore c0_52 rfl rfl ?_
      dsimp only [setl]
      refine go_iload c0_54 rfl ?_
      refine go_iload c0_56 rfl ?_
      refine go_callS1 (y := x) (W := 0) (argsL := [(.int 4), (.int 0)]) (st := []) c0_58 (rm_min l Z a0 hw h12 n0 4 0) (t2 hw) (t3 hw) (t4 hw) (t5 hw) (by decide) (lenOf pd3 rfl) rfl rfl (by decide) (by decide) (by decide) (by decide) rfl ?_
      rintro _ _ ⟨rfl, rfl⟩
      refine go_more (k' := 1) (n' := 5) (by decide) (by decide) ?_
      refine go_isI 0 (by decide) ?_
      refine go_istore c0_61 rfl rfl ?_
      dsimp only [setl]
      refine go_iload c0_63 rfl ?_
      refine go_iload c0_65 rfl ?_
      refine go_callS1 (y := x) (W := 0) (argsL := [(.int 4), (.int 0)]) (st := []) c0_67 (rm_max l Z a0 hw h12 n0 4 0) (t6 hw) (t7 hw) (t4 hw) (t8 hw) (by decide) (lenOf pd3 rfl) rfl rfl (by decide) (by decide) (by decide) (by decide) rfl ?_
      rintro _ _ ⟨rfl, rfl⟩
      refine go_more (k' := 1) (n' := 5) (by decide) (by decide) ?_
      refine go_isI 4 (by decide) ?_
      refine go_istore c0_70 rfl rfl ?_
      dsimp only [setl]
      exact law_0_4 l Z a0 hw _ n0 a3 b0 b1 b2 b3 b4 rg 4 0 P13 kd kc Sk Ak hsz Tk
    · refine go_isI 1 hC ?_
      refine go_istore c0_52 rfl rfl ?_
      dsimp only [setl]
      refine go_iload c0_54 rfl ?_
      refine go_iload c0_56 rfl ?_
      refine go_callS1 (y := x) (W := 0) (argsL := [(.int 4), (.int 1)]) (st := []) c0_58 (rm_min l Z a0 hw h12 n0 4 1) (t2 hw) (t3 hw) (t4 hw) (t5 hw) (by decide) (lenOf pd3 rfl) rfl rfl (by decide) (by decide) (by decide) (by decide) rfl ?_
      rintro _ _ ⟨rfl, rfl⟩
      refine go_more (k' := 1) (n' := 5) (by decide) (by decide) ?_
      refine go_isI 1 (by decide) ?_
      refine go_istore c0_61 rfl rfl ?_
      dsimp only [setl]
      refine go_iload c0_63 rfl ?_
      refine go_iload c0_65 rfl ?_
      refine go_callS1 (y := x) (W := 0) (argsL := [(.int 4), (.int 1)]) (st := []) c0_67 (rm_max l Z a0 hw h12 n0 4 1) (t6 hw) (t7 hw) (t4 hw) (t8 hw) (by decide) (lenOf pd3 rfl) rfl rfl (by decide) (by decide) (by decide) (by decide) rfl ?_
      rintro _ _ ⟨rfl, rfl⟩
      refine go_more (k' := 1) (n' := 5) (by decide) (by decide) ?_
      refine go_isI 4 (by decide) ?_
      refine go_istore c0_70 rfl rfl ?_
      dsimp only [setl]
      exact law_1_4 l Z a0 hw _ n0 a3 b0 b1 b2 b3 b4 rg 4 1 P13 kd kc Sk Ak hsz Tk
    · refine go_isI 2 hC ?_
      refine go_istore c0_52 rfl rfl ?_
      dsimp only [setl]
      refine go_iload c0_54 rfl ?_
      refine go_iload c0_56 rfl ?_
      refine go_callS1 (y := x) (W := 0) (argsL := [(.int 4), (.int 2)]) (st := []) c0_58 (rm_min l Z a0 hw h12 n0 4 2) (t2 hw) (t3 hw) (t4 hw) (t5 hw) (by decide) (lenOf pd3 rfl) rfl rfl (by decide) (by decide) (by decide) (by decide) rfl ?_
      rintro _ _ ⟨rfl, rfl⟩
      refine go_more (k' := 1) (n' := 5) (by decide) (by decide) ?_
      refine go_isI 2 (by decide) ?_
      refine go_istore c0_61 rfl rfl ?_
      dsimp only [setl]
      refine go_iload c0_63 rfl ?_
      refine go_iload c0_65 rfl ?_
      refine go_callS1 (y := x) (W := 0) (argsL := [(.int 4), (.int 2)]) (st := []) c0_67 (rm_max l Z a0 hw h12 n0 4 2) (t6 hw) (t7 hw) (t4 hw) (t8 hw) (by decide) (lenOf pd3 rfl) rfl rfl (by decide) (by decide) (by decide) (by decide) rfl ?_
      rintro _ _ ⟨rfl, rfl⟩
      refine go_more (k' := 1) (n' := 5) (by decide) (by decide) ?_
      refine go_isI 4 (by decide) ?_
      refine go_istore c0_70 rfl rfl ?_
      dsimp only [setl]
      exact law_2_4 l Z a0 hw _ n0 a3 b0 b1 b2 b3 b4 rg 4 2 P13 kd kc Sk Ak hsz Tk
    · refine go_isI 3 hC ?_
      refine go_istore c0_52 rfl rfl ?_
      dsimp only [setl]
      refine go_iload c0_54 rfl ?_
      refine go_iload c0_56 rfl ?_
      refine go_callS1 (y := x) (W := 0) (argsL := [(.int 4), (.int 3)]) (st := []) c0_58 (rm_min l Z a0 hw h12 n0 4 3) (t2 hw) (t3 hw) (t4 hw) (t5 hw) (by decide) (lenOf pd3 rfl) rfl rfl (by decide) (by decide) (by decide) (by decide) rfl ?_
      rintro _ _ ⟨rfl, rfl⟩
      refine go_more (k' := 1) (n' := 5) (by decide) (by decide) ?_
      refine go_isI 3 (by decide) ?_
      refine go_istore c0_61 rfl rfl ?_
      dsimp only [setl]
      refine go_iload c0_63 rfl ?_
      refine go_iload c0_65 rfl ?_
      refine go_callS1 (y := x) (W := 0) (argsL := [(.int 4), (.int 3)]) (st := []) c0_67 (rm_max l Z a0 hw h12 n0 4 3) (t6 hw) (t7 hw) (t4 hw) (t8 hw) (by decide) (lenOf pd3 rfl) rfl rfl (by decide) (by decide) (by decide) (by decide) rfl ?_
      rintro _ _ ⟨rfl, rfl⟩
      refine go_more (k' := 1) (n' := 5) (by decide) (by decide) ?_
      refine go_isI 4 (by decide) ?_
      refine go_istore c0_70 rfl rfl ?_
      dsimp only [setl]
      exact law_3_4 l Z a0 hw _ n0 a3 b0 b1 b2 b3 b4 rg 4 3 P13 kd kc Sk Ak hsz Tk
    · refine go_isI 4 hC ?_
      refine go_istore c0_52 rfl rfl ?_
      dsimp only [setl]
      refine go_iload c0_54 rfl ?_
      refine go_iload c0_56 rfl ?_
      refine go_callS1 (y := x) (W := 0) (argsL := [(.int 4), (.int 4)]) (st := []) c0_58 (rm_min l Z a0 hw h12 n0 4 4) (t2 hw) (t3 hw) (t4 hw) (t5 hw) (by decide) (lenOf pd3 rfl) rfl rfl (by decide) (by decide) (by decide) (by decide) rfl ?_
      rintro _ _ ⟨rfl, rfl⟩
      refine go_more (k' := 1) (n' := 5) (by decide) (by decide) ?_
      refine go_isI 4 (by decide) ?_
      refine go_istore c0_61 rfl rfl ?_
      dsimp only [setl]
      refine go_iload c0_63 rfl ?_
      refine go_iload c0_65 rfl ?_
      refine go_callS1 (y := x) (W := 0) (argsL := [(.int 4), (.int 4)]) (st := []) c0_67 (rm_max l Z a0 hw h12 n0 4 4) (t6 hw) (t7 hw) (t4 hw) (t8 hw) (by decide) (lenOf pd3 rfl) rfl rfl (by decide) (by decide) (by decide) (by decide) rfl ?_
      rintro _ _ ⟨rfl, rfl⟩
      refine go_more (k' := 1) (n' := 5) (by decide) (by decide) ?_
      refine go_isI 4 (by decide) ?_
      refine go_istore c0_70 rfl rfl ?_
      dsimp only [setl]
      exact law_4_4 l Z a0 hw _ n0 a3 b0 b1 b2 b3 b4 rg 4 4 P13 kd kc Sk Ak hsz Tk
    · refine go_isI 5 hC ?_
      refine go_istore c0_52 rfl rfl ?_
      dsimp only [setl]
      refine go_iload c0_54 rfl ?_
      refine go_iload c0_56 rfl ?_
      refine go_callS1 (y := x) (W := 0) (argsL := [(.int 4), (.int 5)]) (st := []) c0_58 (rm_min l Z a0 hw h12 n0 4 5) (t2 hw) (t3 hw) (t4 hw) (t5 hw) (by decide) (lenOf pd3 rfl) rfl rfl (by decide) (by decide) (by decide) (by decide) rfl ?_
      rintro _ _ ⟨rfl, rfl⟩
      refine go_more (k' := 1) (n' := 5) (by decide) (by decide) ?_
      refine go_isI 4 (by decide) ?_
      refine go_istore c0_61 rfl rfl ?_
      dsimp only [setl]
      refine go_iload c0_63 rfl ?_
      refine go_iload c0_65 rfl ?_
      refine go_callS1 (y := x) (W := 0) (argsL := [(.int 4), (.int 5)]) (st := []) c0_67 (rm_max l Z a0 hw h12 n0 4 5) (t6 hw) (t7 hw) (t4 hw) (t8 hw) (by decide) (lenOf pd3 rfl) rfl rfl (by decide) (by decide) (by decide) (by decide) rfl ?_
      rintro _ _ ⟨rfl, rfl⟩
      refine go_more (k' := 1) (n' := 5) (by decide) (by decide) ?_
      refine go_isI 5 (by decide) ?_
      refine go_istore c0_70 rfl rfl ?_
      dsimp only [setl]
      exact law_4_5 l Z a0 hw _ n0 a3 b0 b1 b2 b3 b4 rg 4 5 P13 kd kc Sk Ak hsz Tk
  · refine go_isI 5 hA ?_
    refine go_istore c0_39 rfl rfl ?_
    dsimp only [setl]
    refine go_iload c0_41 rfl ?_
    refine go_push c0_43 ?_
    refine go_iushr c0_45 ?_
    refine go_ldcI (y := x) c0_46 (t1 hw) ?_
    refine go_iand c0_48 ?_
    refine go_push c0_49 ?_
    refine go_irem c0_51 (by decide) ?_
    rcases own_m6 (XT.ushr rg 8) with hC | hC | hC | hC | hC | hC
    · refine go_isI 0 hC ?_
      refine go_istore c0_52 rfl rfl ?_
      dsimp only [setl]
      refine go_iload c0_54 rfl ?_
      refine go_iload c0_56 rfl ?_
      refine go_callS1 (y := x) (W := 0) (argsL := [(.int 5), (.int 0)]) (st := []) c0_58 (rm_min l Z a0 hw h12 n0 5 0) (t2 hw) (t3 hw) (t4 hw) (t5 hw) (by decide) (lenOf pd3 rfl) rfl rfl (by decide) (by decide) (by decide) (by decide) rfl ?_
      rintro _ _ ⟨rfl, rfl⟩
      refine go_more (k' := 1) (n' := 5) (by decide) (by decide) ?_
      refine go_isI 0 (by decide) ?_
      refine go_istore c0_61 rfl rfl ?_
      dsimp only [setl]
      refine go_iload c0_63 rfl ?_
      refine go_iload c0_65 rfl ?_
      refine go_callS1 (y := x) (W := 0) (argsL := [(.int 5), (.int 0)]) (st := []) c0_67 (rm_max l Z a0 hw h12 n0 5 0) (t6 hw) (t7 hw) (t4 hw) (t8 hw) (by decide) (lenOf pd3 rfl) rfl rfl (by decide) (by decide) (by decide) (by decide) rfl ?_
      rintro _ _ ⟨rfl, rfl⟩
      refine go_more (k' := 1) (n' := 5) (by decide) (by decide) ?_
      refine go_isI 5 (by decide) ?_
      refine go_istore c0_70 rfl rfl ?_
      dsimp only [setl]
      exact law_0_5 l Z a0 hw _ n0 a3 b0 b1 b2 b3 b4 rg 5 0 P13 kd kc Sk Ak hsz Tk
    · refine go_isI 1 hC ?_
      refine go_istore c0_52 rfl rfl ?_
      dsimp only [setl]
      refine go_iload c0_54 rfl ?_
      refine go_iload c0_56 rfl ?_
      refine go_callS1 (y := x) (W := 0) (argsL := [(.int 5), (.int 1)]) (st := []) c0_58 (rm_min l Z a0 hw h12 n0 5 1) (t2 hw) (t3 hw) (t4 hw) (t5 hw) (by decide) (lenOf pd3 rfl) rfl rfl (by decide) (by decide) (by decide) (by decide) rfl ?_
      rintro _ _ ⟨rfl, rfl⟩
      refine go_more (k' := 1) (n' := 5) (by decide) (by decide) ?_
      refine go_isI 1 (by decide) ?_
      refine go_istore c0_61 rfl rfl ?_
      dsimp only [setl]
      refine go_iload c0_63 rfl ?_
      refine go_iload c0_65 rfl ?_
      refine go_callS1 (y := x) (W := 0) (argsL := [(.int 5), (.int 1)]) (st := []) c0_67 (rm_max l Z a0 hw h12 n0 5 1) (t6 hw) (t7 hw) (t4 hw) (t8 hw) (by decide) (lenOf pd3 rfl) rfl rfl (by decide) (by decide) (by decide) (by decide) rfl ?_
      rintro _ _ ⟨rfl, rfl⟩
      refine go_more (k' := 1) (n' := 5) (by decide) (by decide) ?_
      refine go_isI 5 (by decide) ?_
      refine go_istore c0_70 rfl rfl ?_
      dsimp only [setl]
      exact law_1_5 l Z a0 hw _ n0 a3 b0 b1 b2 b3 b4 rg 5 1 P13 kd kc Sk Ak hsz Tk
    · refine go_isI 2 hC ?_
      refine go_istore c0_52 rfl rfl ?_
      dsimp only [setl]
      refine go_iload c0_54 rfl ?_
      refine go_iload c0_56 rfl ?_
      refine go_callS1 (y := x) (W := 0) (argsL := [(.int 5), (.int 2)]) (st := []) c0_58 (rm_min l Z a0 hw h12 n0 5 2) (t2 hw) (t3 hw) (t4 hw) (t5 hw) (by decide) (lenOf pd3 rfl) rfl rfl (by decide) (by decide) (by decide) (by decide) rfl ?_
      rintro _ _ ⟨rfl, rfl⟩
      refine go_more (k' := 1) (n' := 5) (by decide) (by decide) ?_
      refine go_isI 2 (by decide) ?_
      refine go_istore c0_61 rfl rfl ?_
      dsimp only [setl]
      refine go_iload c0_63 rfl ?_
      refine go_iload c0_65 rfl ?_
      refine go_callS1 (y := x) (W := 0) (argsL := [(.int 5), (.int 2)]) (st := []) c0_67 (rm_max l Z a0 hw h12 n0 5 2) (t6 hw) (t7 hw) (t4 hw) (t8 hw) (by decide) (lenOf pd3 rfl) rfl rfl (by decide) (by decide) (by decide) (by decide) rfl ?_
      rintro _ _ ⟨rfl, rfl⟩
      refine go_more (k' := 1) (n' := 5) (by decide) (by decide) ?_
      refine go_isI 5 (by decide) ?_
      refine go_istore c0_70 rfl rfl ?_
      dsimp only [setl]
      exact law_2_5 l Z a0 hw _ n0 a3 b0 b1 b2 b3 b4 rg 5 2 P13 kd kc Sk Ak hsz Tk
    · refine go_isI 3 hC ?_
      refine go_istore c0_52 rfl rfl ?_
      dsimp only [setl]
      refine go_iload c0_54 rfl ?_
      refine go_iload c0_56 rfl ?_
      refine go_callS1 (y := x) (W := 0) (argsL := [(.int 5), (.int 3)]) (st := []) c0_58 (rm_min l Z a0 hw h12 n0 5 3) (t2 hw) (t3 hw) (t4 hw) (t5 hw) (by decide) (lenOf pd3 rfl) rfl rfl (by decide) (by decide) (by decide) (by decide) rfl ?_
      rintro _ _ ⟨rfl, rfl⟩
      refine go_more (k' := 1) (n' := 5) (by decide) (by decide) ?_
      refine go_isI 3 (by decide) ?_
      refine go_istore c0_61 rfl rfl ?_
      dsimp only [setl]
      refine go_iload c0_63 rfl ?_
      refine go_iload c0_65 rfl ?_
      refine go_callS1 (y := x) (W := 0) (argsL := [(.int 5), (.int 3)]) (st := []) c0_67 (rm_max l Z a0 hw h12 n0 5 3) (t6 hw) (t7 hw) (t4 hw) (t8 hw) (by decide) (lenOf pd3 rfl) rfl rfl (by decide) (by decide) (by decide) (by decide) rfl ?_
      rintro _ _ ⟨rfl, rfl⟩
      refine go_more (k' := 1) (n' := 5) (by decide) (by decide) ?_
      refine go_isI 5 (by decide) ?_
      refine go_istore c0_70 rfl rfl ?_
      dsimp only [setl]
      exact law_3_5 l Z a0 hw _ n0 a3 b0 b1 b2 b3 b4 rg 5 3 P13 kd kc Sk Ak hsz Tk
    · refine go_isI 4 hC ?_
      refine go_istore c0_52 rfl rfl ?_
      dsimp only [setl]
      refine go_iload c0_54 rfl ?_
      refine go_iload c0_56 rfl ?_
      refine go_callS1 (y := x) (W := 0) (argsL := [(.int 5), (.int 4)]) (st := []) c0_58 (rm_min l Z a0 hw h12 n0 5 4) (t2 hw) (t3 hw) (t4 hw) (t5 hw) (by decide) (lenOf pd3 rfl) rfl rfl (by decide) (by decide) (by decide) (by decide) rfl ?_
      rintro _ _ ⟨rfl, rfl⟩
      refine go_more (k' := 1) (n' := 5) (by decide) (by decide) ?_
      refine go_isI 4 (by decide) ?_
      refine go_istore c0_61 rfl rfl ?_
      dsimp only [setl]
      refine go_iload c0_63 rfl ?_
      refine go_iload c0_65 rfl ?_
      refine go_callS1 (y := x) (W := 0) (argsL := [(.int 5), (.int 4)]) (st := []) c0_67 (rm_max l Z a0 hw h12 n0 5 4) (t6 hw) (t7 hw) (t4 hw) (t8 hw) (by decide) (lenOf pd3 rfl) rfl rfl (by decide) (by decide) (by decide) (by decide) rfl ?_
      rintro _ _ ⟨rfl, rfl⟩
      refine go_more (k' := 1) (n' := 5) (by decide) (by decide) ?_
      refine go_isI 5 (by decide) ?_
      refine go_istore c0_70 rfl rfl ?_
      dsimp only [setl]
      exact law_4_5 l Z a0 hw _ n0 a3 b0 b1 b2 b3 b4 rg 5 4 P13 kd kc Sk Ak hsz Tk
    · refine go_isI 5 hC ?_
      refine go_istore c0_52 rfl rfl ?_
      dsimp only [setl]
      refine go_iload c0_54 rfl ?_
      refine go_iload c0_56 rfl ?_
      refine go_callS1 (y := x) (W := 0) (argsL := [(.int 5), (.int 5)]) (st := []) c0_58 (rm_min l Z a0 hw h12 n0 5 5) (t2 hw) (t3 hw) (t4 hw) (t5 hw) (by decide) (lenOf pd3 rfl) rfl rfl (by decide) (by decide) (by decide) (by decide) rfl ?_
      rintro _ _ ⟨rfl, rfl⟩
      refine go_more (k' := 1) (n' := 5) (by decide) (by decide) ?_
      refine go_isI 5 (by decide) ?_
      refine go_istore c0_61 rfl rfl ?_
      dsimp only [setl]
      refine go_iload c0_63 rfl ?_
      refine go_iload c0_65 rfl ?_
      refine go_callS1 (y := x) (W := 0) (argsL := [(.int 5), (.int 5)]) (st := []) c0_67 (rm_max l Z a0 hw h12 n0 5 5) (t6 hw) (t7 hw) (t4 hw) (t8 hw) (by decide) (lenOf pd3 rfl) rfl rfl (by decide) (by decide) (by decide) (by decide) rfl ?_
      rintro _ _ ⟨rfl, rfl⟩
      refine go_more (k' := 1) (n' := 5) (by decide) (by decide) ?_
      refine go_isI 5 (by decide) ?_
      refine go_istore c0_70 rfl rfl ?_
      dsimp only [setl]
      exact law_5_5 l Z a0 hw _ n0 a3 b0 b1 b2 b3 b4 rg 5 5 P13 kd kc Sk Ak hsz Tk
set_option maxRecDepth 65536 in
set_option maxHeartbeats 4000000 in
theorem comes_1 {Post : Tables → Env → Array Value → State → Outcome → State → Prop} (hpost : ∀ tb e args s v u, (limb_1_1.after args s (.returned v) u = true ∧ limb_1_2.after args s (.returned v) u = true ∧ True) → FrameEnd s (.returned v) u (Jvm.fieldLocs frame_1_writes args s ++ Jvm.arrayLocs frame_1_arrays args s ++ Jvm.staticLocs frame_1_statics s) 16 128 → Post tb e args s (.returned v) u) :
    ArmFor flags0 classFile x code maxLocals ret World_1 tables_1 room_1 Calls_1 rest_1 Pre_1 Post := by
  intro l hfl _ _ p e ha hc hk s m args below hf hA hF happ hP
  obtain ⟨hcalls, hrest, hpre⟩ := hP
  obtain ⟨-, -, -, hnamed, -, -, -, hat⟩ := (Spec.applies_iff hf).mp happ
  obtain ⟨hg, hn⟩ := and_e (Cond.before_iff.mp (show (Jvm.Cond.and given_1 narrow_1).before args s = true from hpre))
  obtain ⟨hct, hg0⟩ := and_e hg
  obtain ⟨ga0, hg1⟩ := and_e hg0
  obtain ⟨ga1, hg2⟩ := and_e hg1
  obtain ⟨ga2, hg3⟩ := and_e hg2
  obtain ⟨ga3, hg4⟩ := and_e hg3
  obtain ⟨ga4, hg5⟩ := and_e hg4
  have ga5 := hg5
  obtain ⟨w0, w1, w2, w3, w4, w5, rfl⟩ : ∃ w0 w1 w2 w3 w4 w5 : Value, args = #[w0, w1, w2, w3, w4, w5] := by
    have hs : args.size = 6 := by simpa [Cond.value, given_1] using hct
    obtain ⟨L⟩ := args
    match L, hs with
    | [w0, w1, w2, w3, w4, w5], _ => exact ⟨w0, w1, w2, w3, w4, w5, rfl⟩
  have hw := fun d (hd : d ∈ tables_1) => atoms_spec (ws := Jvm.Cond.code x code maxLocals ret :: tables_1) hat d (List.mem_cons_of_mem _ hd)
  have hfit : Fit s := fun {y c} hc i hi => by
    obtain ⟨ha, rfl⟩ := Array.getElem?_eq_some_iff.mp hc
    have q := List.all_eq_true.mp ((Array.all_eq_true_iff_forall_mem.mp hF) _ (Array.getElem_mem ha)) i (List.mem_range.mpr hi)
    simpa [Array.getElem?_eq_getElem hi] using q
  obtain ⟨i0, ei0⟩ := is_v ga0
  obtain rfl : w0 = (.int i0) := Option.some.inj ei0
  obtain ⟨i1, ei1⟩ := is_v ga1
  obtain rfl : w1 = (.int i1) := Option.some.inj ei1
  obtain ⟨i2, ei2⟩ := is_v ga2
  obtain rfl : w2 = (.int i2) := Option.some.inj ei2
  obtain ⟨i3, ei3⟩ := is_v ga3
  obtain rfl : w3 = (.int i3) := Option.some.inj ei3
  obtain ⟨i4, ei4⟩ := is_v ga4
  obtain rfl : w4 = (.int i4) := Option.some.inj ei4
  obtain ⟨i5, ei5⟩ := is_v ga5
  obtain rfl : w5 = (.int i5) := Option.some.inj ei5
  obtain ⟨ha_, hn1⟩ := and_e hn
  obtain ⟨hl_, hn2⟩ := and_e hn1
  obtain ⟨f0, hn3⟩ := and_e hn2
  obtain ⟨f1, hn4⟩ := and_e hn3
  obtain ⟨f2, hn5⟩ := and_e hn4
  obtain ⟨f3, hn6⟩ := and_e hn5
  obtain ⟨f4, hn7⟩ := and_e hn6
  obtain ⟨f5, hn8⟩ := and_e hn7
  obtain ⟨f6, hn9⟩ := and_e hn8
  obtain ⟨f7, hn10⟩ := and_e hn9
  obtain ⟨f8, hn11⟩ := and_e hn10
  obtain ⟨f9, hn12⟩ := and_e hn11
  obtain ⟨f10, hn13⟩ := and_e hn12
  obtain ⟨f11, hn14⟩ := and_e hn13
  obtain ⟨f12, hn15⟩ := and_e hn14
  obtain ⟨f13, hn16⟩ := and_e hn15
  obtain ⟨f14, hn17⟩ := and_e hn16
  obtain ⟨f15, hn18⟩ := and_e hn17
  obtain ⟨f16, hn19⟩ := and_e hn18
  obtain ⟨f17, hn20⟩ := and_e hn19
  obtain ⟨f18, hn21⟩ := and_e hn20
  obtain ⟨f19, hn22⟩ := and_e hn21
  obtain ⟨f20, hn23⟩ := and_e hn22
  obtain ⟨f21, hn24⟩ := and_e hn23
  obtain ⟨f22, hn25⟩ := and_e hn24
  obtain ⟨f23, hn26⟩ := and_e hn25
  obtain ⟨f24, hn27⟩ := and_e hn26
  obtain ⟨f25, hn28⟩ := and_e hn27
  obtain ⟨f26, hn29⟩ := and_e hn28
  obtain ⟨f27, hn30⟩ := and_e hn29
  obtain ⟨f28, hn31⟩ := and_e hn30
  obtain ⟨f29, hn32⟩ := and_e hn31
  have f30 := hn32
  obtain ⟨kd, ev⟩ := arr_v ha_
  obtain ⟨kc, Ak⟩ := Arr.start ev ha_
  have evi : ∀ idx : List Nat, (Term.static "com/example/bouncr/bouncr/PathPattern" "KINDS" "[B").eval #[.int i0, .int i1, .int i2, .int i3, .int i4, .int i5] s none idx s = some (.ref kd) := fun idx => by first | exact ev | simpa [Term.eval] using ev
  have hsz := own_len ev Ak hl_
  have Tk : ∀ j, j < 256 → kc.slots[j]? = some (.int (own_kd j)) := by
    intro j hj
    unfold own_kd
    by_cases z0 : j < 33
    · rw [if_pos z0]
      exact own_t1 33 (by decide) evi Ak hsz f0 (by omega)
    rw [if_neg z0]
    by_cases z1 : j < 34
    · rw [if_pos z1]
      exact (by obtain rfl : j = 33 := (by omega); exact own_t0 33 (by decide) evi Ak f1)
    rw [if_neg z1]
    by_cases z2 : j < 35
    · rw [if_pos z2]
      exact (by obtain rfl : j = 34 := (by omega); exact own_t0 34 (by decide) evi Ak f2)
    rw [if_neg z2]
    by_cases z3 : j < 36
    · rw [if_pos z3]
      exact (by obtain rfl : j = 35 := (by omega); exact own_t0 35 (by decide) evi Ak f3)
    rw [if_neg z3]
    by_cases z4 : j < 37
    · rw [if_pos z4]
      exact (by obtain rfl : j = 36 := (by omega); exact own_t0 36 (by decide) evi Ak f4)
    rw [if_neg z4]
    by_cases z5 : j < 38
    · rw [if_pos z5]
      exact (by obtain rfl : j = 37 := (by omega); exact own_t0 37 (by decide) evi Ak f5)
    rw [if_neg z5]
    by_cases z6 : j < 45
    · rw [if_pos z6]
      exact own_t2 38 45 (by decide) (by decide) evi Ak hsz f6 (by omega) (by omega)
    rw [if_neg z6]
    by_cases z7 : j < 46
    · rw [if_pos z7]
      exact (by obtain rfl : j = 45 := (by omega); exact own_t0 45 (by decide) evi Ak f7)
    rw [if_neg z7]
    by_cases z8 : j < 47
    · rw [if_pos z8]
      exact (by obtain rfl : j = 46 := (by omega); exact own_t0 46 (by decide) evi Ak f8)
    rw [if_neg z8]
    by_cases z9 : j < 48
    · rw [if_pos z9]
      exact (by obtain rfl : j = 47 := (by omega); exact own_t0 47 (by decide) evi Ak f9)
    rw [if_neg z9]
    by_cases z10 : j < 58
    · rw [if_pos z10]
      exact own_t2 48 58 (by decide) (by decide) evi Ak hsz f10 (by omega) (by omega)
    rw [if_neg z10]
    by_cases z11 : j < 59
    · rw [if_pos z11]
      exact (by obtain rfl : j = 58 := (by omega); exact own_t0 58 (by decide) evi Ak f11)
    rw [if_neg z11]
    by_cases z12 : j < 60
    · rw [if_pos z12]
      exact (by obtain rfl : j = 59 := (by omega); exact own_t0 59 (by decide) evi Ak f12)
    rw [if_neg z12]
    by_cases z13 : j < 61
    · rw [if_pos z13]
      exact (by obtain rfl : j = 60 := (by omega); exact own_t0 60 (by decide) evi Ak f13)
    rw [if_neg z13]
    by_cases z14 : j < 62
    · rw [if_pos z14]
      exact (by obtain rfl : j = 61 := (by omega); exact own_t0 61 (by decide) evi Ak f14)
    rw [if_neg z14]
    by_cases z15 : j < 63
    · rw [if_pos z15]
      exact (by obtain rfl : j = 62 := (by omega); exact own_t0 62 (by decide) evi Ak f15)
    rw [if_neg z15]
    by_cases z16 : j < 64
    · rw [if_pos z16]
      exact (by obtain rfl : j = 63 := (by omega); exact own_t0 63 (by decide) evi Ak f16)
    rw [if_neg z16]
    by_cases z17 : j < 65
    · rw [if_pos z17]
      exact (by obtain rfl : j = 64 := (by omega); exact own_t0 64 (by decide) evi Ak f17)
    rw [if_neg z17]
    by_cases z18 : j < 91
    · rw [if_pos z18]
      exact own_t2 65 91 (by decide) (by decide) evi Ak hsz f18 (by omega) (by omega)
    rw [if_neg z18]
    by_cases z19 : j < 92
    · rw [if_pos z19]
      exact (by obtain rfl : j = 91 := (by omega); exact own_t0 91 (by decide) evi Ak f19)
    rw [if_neg z19]
    by_cases z20 : j < 93
    · rw [if_pos z20]
      exact (by obtain rfl : j = 92 := (by omega); exact own_t0 92 (by decide) evi Ak f20)
    rw [if_neg z20]
    by_cases z21 : j < 94
    · rw [if_pos z21]
      exact (by obtain rfl : j = 93 := (by omega); exact own_t0 93 (by decide) evi Ak f21)
    rw [if_neg z21]
    by_cases z22 : j < 95
    · rw [if_pos z22]
      exact (by obtain rfl : j = 94 := (by omega); exact own_t0 94 (by decide) evi Ak f22)
    rw [if_neg z22]
    by_cases z23 : j < 96
    · rw [if_pos z23]
      exact (by obtain rfl : j = 95 := (by omega); exact own_t0 95 (by decide) evi Ak f23)
    rw [if_neg z23]
    by_cases z24 : j < 97
    · rw [if_pos z24]
      exact (by obtain rfl : j = 96 := (by omega); exact own_t0 96 (by decide) evi Ak f24)
    rw [if_neg z24]
    by_cases z25 : j < 123
    · rw [if_pos z25]
      exact own_t2 97 123 (by decide) (by decide) evi Ak hsz f25 (by omega) (by omega)
    rw [if_neg z25]
    by_cases z26 : j < 124
    · rw [if_pos z26]
      exact (by obtain rfl : j = 123 := (by omega); exact own_t0 123 (by decide) evi Ak f26)
    rw [if_neg z26]
    by_cases z27 : j < 125
    · rw [if_pos z27]
      exact (by obtain rfl : j = 124 := (by omega); exact own_t0 124 (by decide) evi Ak f27)
    rw [if_neg z27]
    by_cases z28 : j < 126
    · rw [if_pos z28]
      exact (by obtain rfl : j = 125 := (by omega); exact own_t0 125 (by decide) evi Ak f28)
    rw [if_neg z28]
    by_cases z29 : j < 127
    · rw [if_pos z29]
      exact (by obtain rfl : j = 126 := (by omega); exact own_t0 126 (by decide) evi Ak f29)
    rw [if_neg z29]
    exact own_t3 127 (by decide) evi Ak hsz f30 (by omega) hj
  have K := rm0 l s _ hw s.heap s.heap.size (Hp.start s) i0 i1 i2 i3 i4 i5 kd kc (Sta.start ev (Or.inr ⟨(t18 hw), (t24 hw)⟩)) Ak hsz Tk
  obtain ⟨n, o, h1, h2, h3, v, L, rfl, ⟨⟨⟨w, rfl, rfl⟩, -⟩, N⟩, hq⟩ := K tables_1 p e ha hc hk s m _ below hf ((Spec.applies_iff_loose hf).mp happ).1 ⟨rfl, State.Warmed39.refl s, rfl⟩ trivial
  refine ⟨n, _, h1, h2, h3, hpost _ _ _ _ _ _ ⟨Cond.after_iff.mpr rfl, Cond.after_iff.mpr (eq_i res_at (Term.int_eval (1)) rfl), trivial⟩ ⟨hq.1, hq.2.1, (hq.2.2.sift fun y hy => Or.inr (N y hy)).mono (by decide) (by decide)⟩⟩
theorem main_1_1 : Claimed_1_1 := comes_1 fun _ _ _ _ _ _ h hF => ⟨h.1, hF⟩
theorem main_1_2 : Claimed_1_2 := comes_1 fun _ _ _ _ _ _ h hF => ⟨h.2.1, hF⟩
end Jvm.Pilot.@@N@@
namespace Jvm.Pilot.@@N@@
open Jvm Jvm.ClassFile Sem Op Lib Jvm.Free Jvm.Stand Jvm.Pilot.@@N@@.Jvm.D
/-! MADE BY PROGRAM (witnessworld.py) out of the Statement's table words and the real class files: 10 classes; the members and pool entries that the words name. The judged class is class 1, her method 1. -/
namespace start1
open Jvm.ClassFile
def u (s : String) : CpInfo := .utf8 (stringToUtf16 s)
/-- a pool by its gaps: so many unusable entries, then the entry; so many at the end -/
def gap : Nat → List CpInfo → List CpInfo
  | 0, r => r
  | n + 1, r => .unusable :: gap n r
def poolList (es : List (Nat × CpInfo)) (last : Nat) : List CpInfo := es.foldr (fun e r => gap e.1 (e.2 :: r)) (gap last [])
def pool (es : List (Nat × CpInfo)) (last : Nat) : Array CpInfo := ⟨poolList es last⟩
def fileOf (pool : Array CpInfo) (this : Nat) (attrs : Array Attribute := #[]) (ms : Array MethodInfo := #[]) (fl : Nat := 33) (sup : Nat := 0) (ifs : Array Nat := #[]) (fds : Array FieldInfo := #[]) : ClassFile where
  minorVersion := 0
  majorVersion := 65
  constantPool := pool
  accessFlags := fl
  thisClass := this
  superClass := sup
  interfaces := ifs
  fields := fds
  methods := ms
  attributes := attrs
def plain (name : String) (sup : Option ClassId) : Class where
  name := name
  kind := .ordinary
  loader := none
  accessFlags := 33
  super := sup
  interfaces := #[]
  cf := none
  fields := #[]
  methods := #[]
  instanceTypes := #[]
  staticTypes := #[]
  resolved := #[]
  callSites := []
  init := .initialized
  statics := none
  mirror := none

def pool0 : Array CpInfo := pool [(5, u "<init>"), (0, u "()V"), (1, .class_ 10), (1, u "java/lang/Object")] 113

def k0m0 : Method := { name := "<init>", desc := "()V", sig := { parameters := [], returnType := none }, accessFlags := 1, code := none }
/-- java/lang/Object -/
def k0 : Class := { plain "java/lang/Object" none with
  accessFlags := 33
  interfaces := #[]
  cf := some (fileOf pool0 8 #[] #[{ accessFlags := 1, nameIndex := 5, descriptorIndex := 6, attributes := #[] }] 33 0 #[] #[])
  fields := #[]
  methods := #[k0m0]
  instanceTypes := #[]
  staticTypes := #[]
  resolved := Array.replicate 124 none
  statics := none }

def pool1 : Array CpInfo := pool [(2, .class_ 4), (1, u "java/lang/Object"), (0, u "<init>"), (0, u "()V"), (0, .integer 2147483647), (0, .methodref 9 10), (0, .class_ 11), (0, .nameAndType 12 13), (0, u "java/lang/Math"), (0, u "min"), (0, u "(II)I"), (0, .methodref 9 15), (0, .nameAndType 16 13), (0, u "max"), (0, .methodref 18 19), (0, .class_ 20), (0, .nameAndType 21 22), (0, u "com/example/bouncr/bouncr/PathPatternIsCanonicalPinLaw"), (0, u "okAt"), (0, u "(IIII)Z"), (0, .methodref 24 25), (0, .class_ 26), (0, .nameAndType 27 28), (0, u "com/example/bouncr/bouncr/PathPattern"), (0, u "isCanonical"), (0, u "([BII)Z"), (0, .methodref 18 30), (0, .nameAndType 31 32), (0, u "standsAsWritten"), (0, u "(I)Z"), (2, u "law"), (0, u "(IIIIII)Z")] 5

def k1m0 : Method := { name := "<init>", desc := "()V", sig := { parameters := [], returnType := none }, accessFlags := 1, code := none }
def k1c1 : Code := { maxStack := 4, maxLocals := 12, code := code, exceptionTable := #[], attributes := #[] }
def k1m1 : Method := { name := "law", desc := "(IIIIII)Z", sig := { parameters := [.int, .int, .int, .int, .int, .int], returnType := some .boolean }, accessFlags := 9, code := some k1c1 }
def k1c2 : Code := { maxStack := 2, maxLocals := 4, code := method_3_code, exceptionTable := #[], attributes := #[] }
def k1m2 : Method := { name := "okAt", desc := "(IIII)Z", sig := { parameters := [.int, .int, .int, .int], returnType := some .boolean }, accessFlags := 10, code := some k1c2 }
def k1c3 : Code := { maxStack := 2, maxLocals := 1, code := method_4_code, exceptionTable := #[], attributes := #[] }
def k1m3 : Method := { name := "standsAsWritten", desc := "(I)Z", sig := { parameters := [.int], returnType := some .boolean }, accessFlags := 10, code := some k1c3 }
/-- com/example/bouncr/bouncr/PathPatternIsCanonicalPinLaw -/
def k1 : Class := { plain "com/example/bouncr/bouncr/PathPatternIsCanonicalPinLaw" (some 0) with
  accessFlags := 49
  interfaces := #[]
  cf := some (fileOf pool1 18 #[] #[{ accessFlags := 1, nameIndex := 5, descriptorIndex := 6, attributes := #[] }, { accessFlags := 9, nameIndex := 35, descriptorIndex := 36, attributes := #[] }, { accessFlags := 10, nameIndex := 21, descriptorIndex := 22, attributes := #[] }, { accessFlags := 10, nameIndex := 31, descriptorIndex := 32, attributes := #[] }] 49 2 #[] #[])
  fields := #[]
  methods := #[k1m0, k1m1, k1m2, k1m3]
  instanceTypes := #[]
  staticTypes := #[]
  resolved := Array.replicate 42 none
  statics := none }

def pool2 : Array CpInfo := pool [(1, .class_ 2), (0, u "java/lang/Math"), (1, .class_ 6), (1, u "java/lang/Object"), (0, u "<init>"), (0, u "()V"), (89, .class_ 100), (1, u "java/lang/Math$RandomNumberGeneratorHolder"), (71, u "negativeZeroFloatBits"), (0, u "J"), (2, u "negativeZeroDoubleBits"), (21, u "max"), (2, u "min"), (43, u "$assertionsDisabled"), (0, u "Z"), (88, u "(II)I"), (2, u "twoToTheDoubleScaleDown"), (0, u "D"), (4, u "twoToTheDoubleScaleUp"), (9, u "E"), (3, u "PI"), (2, u "TAU"), (2, u "DEGREES_TO_RADIANS"), (0, u "RADIANS_TO_DEGREES")] 94

def k2m0 : Method := { name := "<init>", desc := "()V", sig := { parameters := [], returnType := none }, accessFlags := 2, code := none }
def k2c1 : Code := { maxStack := 2, maxLocals := 2, code := jdk_29_method_65_code, exceptionTable := #[], attributes := #[] }
def k2m1 : Method := { name := "max", desc := "(II)I", sig := { parameters := [.int, .int], returnType := some .int }, accessFlags := 9, code := some k2c1 }
def k2c2 : Code := { maxStack := 2, maxLocals := 2, code := jdk_29_method_69_code, exceptionTable := #[], attributes := #[] }
def k2m2 : Method := { name := "min", desc := "(II)I", sig := { parameters := [.int, .int], returnType := some .int }, accessFlags := 9, code := some k2c2 }
/-- java/lang/Math -/
def k2 : Class := { plain "java/lang/Math" (some 0) with
  accessFlags := 49
  interfaces := #[]
  cf := some (fileOf pool2 1 #[.nestMembers #[98]] #[{ accessFlags := 2, nameIndex := 7, descriptorIndex := 8, attributes := #[] }, { accessFlags := 9, nameIndex := 198, descriptorIndex := 335, attributes := #[] }, { accessFlags := 9, nameIndex := 201, descriptorIndex := 335, attributes := #[] }] 49 4 #[] #[{ accessFlags := 25, nameIndex := 354, descriptorIndex := 339, attributes := #[] }, { accessFlags := 25, nameIndex := 358, descriptorIndex := 339, attributes := #[] }, { accessFlags := 25, nameIndex := 361, descriptorIndex := 339, attributes := #[] }, { accessFlags := 26, nameIndex := 364, descriptorIndex := 339, attributes := #[] }, { accessFlags := 26, nameIndex := 365, descriptorIndex := 339, attributes := #[] }, { accessFlags := 26, nameIndex := 172, descriptorIndex := 173, attributes := #[] }, { accessFlags := 26, nameIndex := 176, descriptorIndex := 173, attributes := #[] }, { accessFlags := 8, nameIndex := 344, descriptorIndex := 339, attributes := #[] }, { accessFlags := 8, nameIndex := 338, descriptorIndex := 339, attributes := #[] }, { accessFlags := 4120, nameIndex := 245, descriptorIndex := 246, attributes := #[] }])
  fields := #[{ name := "E", type := .double, accessFlags := 25, slot := 0, constantValue := 0 }, { name := "PI", type := .double, accessFlags := 25, slot := 1, constantValue := 0 }, { name := "TAU", type := .double, accessFlags := 25, slot := 2, constantValue := 0 }, { name := "DEGREES_TO_RADIANS", type := .double, accessFlags := 26, slot := 3, constantValue := 0 }, { name := "RADIANS_TO_DEGREES", type := .double, accessFlags := 26, slot := 4, constantValue := 0 }, { name := "negativeZeroFloatBits", type := .long, accessFlags := 26, slot := 5, constantValue := 0 }, { name := "negativeZeroDoubleBits", type := .long, accessFlags := 26, slot := 6, constantValue := 0 }, { name := "twoToTheDoubleScaleUp", type := .double, accessFlags := 8, slot := 7, constantValue := 0 }, { name := "twoToTheDoubleScaleDown", type := .double, accessFlags := 8, slot := 8, constantValue := 0 }, { name := "$assertionsDisabled", type := .boolean, accessFlags := 4120, slot := 9, constantValue := 0 }]
  methods := #[k2m0, k2m1, k2m2]
  instanceTypes := #[]
  staticTypes := #[.double, .double, .double, .double, .double, .long, .long, .double, .double, .boolean]
  resolved := Array.replicate 460 none
  statics := none }

def pool3 : Array CpInfo := pool [(4, .class_ 6), (1, u "java/lang/Object"), (0, u "<init>"), (0, u "()V"), (0, .methodref 10 11), (0, .class_ 12), (0, .nameAndType 13 14), (0, u "com/example/bouncr/bouncr/PathPattern"), (0, u "standsAsWritten"), (0, u "(I)Z"), (2, u "HEX_VALUES"), (0, u "[B"), (22, u "isCanonical"), (54, .fieldref 10 97), (0, .nameAndType 98 18), (0, u "KINDS"), (14, u "UNRESERVED"), (0, u "Ljava/lang/String;"), (1, u "RESERVED"), (0, u "HEX_DIGITS"), (0, u "WILDCARD"), (0, u "C"), (1, u "END_ANCHOR"), (1, u "ESCAPE_LENGTH"), (0, u "I"), (1, u "IS_UNRESERVED"), (0, u "B"), (1, u "IS_RESERVED"), (1, u "LEAD_LENGTH"), (3, u "([BII)Z")] 14

def k3m0 : Method := { name := "<init>", desc := "()V", sig := { parameters := [], returnType := none }, accessFlags := 2, code := none }
def k3c1 : Code := { maxStack := 2, maxLocals := 4, code := prog_12_method_2_code, exceptionTable := #[], attributes := #[] }
def k3m1 : Method := { name := "isCanonical", desc := "([BII)Z", sig := { parameters := [(.array .byte), .int, .int], returnType := some .boolean }, accessFlags := 8, code := some k3c1 }
def k3c2 : Code := { maxStack := 2, maxLocals := 1, code := prog_12_method_14_code, exceptionTable := #[], attributes := #[] }
def k3m2 : Method := { name := "standsAsWritten", desc := "(I)Z", sig := { parameters := [.int], returnType := some .boolean }, accessFlags := 10, code := some k3c2 }
/-- com/example/bouncr/bouncr/PathPattern -/
def k3 : Class := { plain "com/example/bouncr/bouncr/PathPattern" (some 0) with
  accessFlags := 48
  interfaces := #[]
  cf := some (fileOf pool3 10 #[] #[{ accessFlags := 2, nameIndex := 7, descriptorIndex := 8, attributes := #[] }, { accessFlags := 8, nameIndex := 41, descriptorIndex := 135, attributes := #[] }, { accessFlags := 10, nameIndex := 13, descriptorIndex := 14, attributes := #[] }] 48 4 #[] #[{ accessFlags := 26, nameIndex := 113, descriptorIndex := 114, attributes := #[] }, { accessFlags := 26, nameIndex := 116, descriptorIndex := 114, attributes := #[] }, { accessFlags := 26, nameIndex := 117, descriptorIndex := 114, attributes := #[] }, { accessFlags := 26, nameIndex := 118, descriptorIndex := 119, attributes := #[] }, { accessFlags := 26, nameIndex := 121, descriptorIndex := 119, attributes := #[] }, { accessFlags := 26, nameIndex := 123, descriptorIndex := 124, attributes := #[] }, { accessFlags := 26, nameIndex := 98, descriptorIndex := 18, attributes := #[] }, { accessFlags := 26, nameIndex := 126, descriptorIndex := 127, attributes := #[] }, { accessFlags := 26, nameIndex := 129, descriptorIndex := 127, attributes := #[] }, { accessFlags := 26, nameIndex := 17, descriptorIndex := 18, attributes := #[] }, { accessFlags := 26, nameIndex := 131, descriptorIndex := 124, attributes := #[] }])
  fields := #[{ name := "UNRESERVED", type := (.object "java/lang/String"), accessFlags := 26, slot := 0, constantValue := 0 }, { name := "RESERVED", type := (.object "java/lang/String"), accessFlags := 26, slot := 1, constantValue := 0 }, { name := "HEX_DIGITS", type := (.object "java/lang/String"), accessFlags := 26, slot := 2, constantValue := 0 }, { name := "WILDCARD", type := .char, accessFlags := 26, slot := 3, constantValue := 0 }, { name := "END_ANCHOR", type := .char, accessFlags := 26, slot := 4, constantValue := 0 }, { name := "ESCAPE_LENGTH", type := .int, accessFlags := 26, slot := 5, constantValue := 0 }, { name := "KINDS", type := (.array .byte), accessFlags := 26, slot := 6, constantValue := 0 }, { name := "IS_UNRESERVED", type := .byte, accessFlags := 26, slot := 7, constantValue := 0 }, { name := "IS_RESERVED", type := .byte, accessFlags := 26, slot := 8, constantValue := 0 }, { name := "HEX_VALUES", type := (.array .byte), accessFlags := 26, slot := 9, constantValue := 0 }, { name := "LEAD_LENGTH", type := .int, accessFlags := 26, slot := 10, constantValue := 0 }]
  methods := #[k3m0, k3m1, k3m2]
  instanceTypes := #[]
  staticTypes := #[(.object "java/lang/String"), (.object "java/lang/String"), (.object "java/lang/String"), .char, .char, .int, (.array .byte), .byte, .byte, (.array .byte), .int]
  resolved := Array.replicate 150 none
  statics := some 0 }

def pool4 : Array CpInfo := pool [(1, u "java/lang/Cloneable"), (0, .class_ 1), (0, u "java/lang/Object"), (0, .class_ 3)] 3

/-- java/lang/Cloneable -/
def k4 : Class := { plain "java/lang/Cloneable" (some 0) with
  accessFlags := 1537
  interfaces := #[]
  cf := some (fileOf pool4 2 #[] #[] 1537 4 #[] #[])
  fields := #[]
  methods := #[]
  instanceTypes := #[]
  staticTypes := #[]
  resolved := Array.replicate 8 none
  statics := none }

def pool5 : Array CpInfo := pool [(1, u "java/io/Serializable"), (0, .class_ 1), (0, u "java/lang/Object"), (0, .class_ 3)] 3

/-- java/io/Serializable -/
def k5 : Class := { plain "java/io/Serializable" (some 0) with
  accessFlags := 1537
  interfaces := #[]
  cf := some (fileOf pool5 2 #[] #[] 1537 4 #[] #[])
  fields := #[]
  methods := #[]
  instanceTypes := #[]
  staticTypes := #[]
  resolved := Array.replicate 8 none
  statics := none }

/-- the primitive byte -/
def k6 : Class := { plain "byte" none with kind := .primitive 'B', accessFlags := 0x411 }
/-- [B -/
def k7 : Class := { plain "[B" (some 0) with kind := .array 6 .byte, interfaces := #[4, 5], accessFlags := 1041 }

/-- the primitive int -/
def k8 : Class := { plain "int" none with kind := .primitive 'I', accessFlags := 0x411 }
/-- [I -/
def k9 : Class := { plain "[I" (some 0) with kind := .array 8 .int, interfaces := #[4, 5], accessFlags := 1041 }

def heap : Heap := #[{ cls := 3, slots := #[.null, .null, .null, .int 0, .int 0, .int 0, .ref 1, .int 0, .int 0, .null, .int 0], vm := .statics 3 },
  { cls := 7, slots := #[.int 0, .int 0, .int 0, .int 0, .int 0, .int 0, .int 0, .int 0, .int 0, .int 0, .int 0, .int 0, .int 0, .int 0, .int 0, .int 0, .int 0, .int 0, .int 0, .int 0, .int 0, .int 0, .int 0, .int 0, .int 0, .int 0, .int 0, .int 0, .int 0, .int 0, .int 0, .int 0, .int 0, .int 2, .int 0, .int 2, .int 2, .int 0, .int 2, .int 2, .int 2, .int 2, .int 2, .int 2, .int 2, .int 1, .int 1, .int 2, .int 1, .int 1, .int 1, .int 1, .int 1, .int 1, .int 1, .int 1, .int 1, .int 1, .int 2, .int 2, .int 0, .int 2, .int 0, .int 2, .int 2, .int 1, .int 1, .int 1, .int 1, .int 1, .int 1, .int 1, .int 1, .int 1, .int 1, .int 1, .int 1, .int 1, .int 1, .int 1, .int 1, .int 1, .int 1, .int 1, .int 1, .int 1, .int 1, .int 1, .int 1, .int 1, .int 1, .int 2, .int 0, .int 2, .int 0, .int 1, .int 0, .int 1, .int 1, .int 1, .int 1, .int 1, .int 1, .int 1, .int 1, .int 1, .int 1, .int 1, .int 1, .int 1, .int 1, .int 1, .int 1, .int 1, .int 1, .int 1, .int 1, .int 1, .int 1, .int 1, .int 1, .int 1, .int 1, .int 0, .int 0, .int 0, .int 1, .int 0, .int 0, .int 0, .int 0, .int 0, .int 0, .int 0, .int 0, .int 0, .int 0, .int 0, .int 0, .int 0, .int 0, .int 0, .int 0, .int 0, .int 0, .int 0, .int 0, .int 0, .int 0, .int 0, .int 0, .int 0, .int 0, .int 0, .int 0, .int 0, .int 0, .int 0, .int 0, .int 0, .int 0, .int 0, .int 0, .int 0, .int 0, .int 0, .int 0, .int 0, .int 0, .int 0, .int 0, .int 0, .int 0, .int 0, .int 0, .int 0, .int 0, .int 0, .int 0, .int 0, .int 0, .int 0, .int 0, .int 0, .int 0, .int 0, .int 0, .int 0, .int 0, .int 0, .int 0, .int 0, .int 0, .int 0, .int 0, .int 0, .int 0, .int 0, .int 0, .int 0, .int 0, .int 0, .int 0, .int 0, .int 0, .int 0, .int 0, .int 0, .int 0, .int 0, .int 0, .int 0, .int 0, .int 0, .int 0, .int 0, .int 0, .int 0, .int 0, .int 0, .int 0, .int 0, .int 0, .int 0, .int 0, .int 0, .int 0, .int 0, .int 0, .int 0, .int 0, .int 0, .int 0, .int 0, .int 0, .int 0, .int 0, .int 0, .int 0, .int 0, .int 0, .int 0, .int 0, .int 0, .int 0, .int 0, .int 0, .int 0, .int 0, .int 0, .int 0, .int 0, .int 0, .int 0, .int 0, .int 0], vm := .none }]
def classes : Array Class := #[k0, k1, k2, k3, k4, k5, k6, k7, k8, k9]
def interned : List (Array UInt16 × Addr) := []
def slotsUsed : Nat := 267
def theMethod : MethodId := ⟨1, 1⟩
def args0 : Array Value := #[.int 5, .int 5, .int 5, .int 5, .int 5, .int 5]
def aboutOver (below : List Frame) : State where
  vm := { classes := classes, interned := interned.toArray }
  heap := heap
  slotsUsed := slotsUsed
  threads := #[{ frames := .invoking theMethod args0 :: below }]
def below0 : List Frame := [.native { method := ⟨0, 0⟩, args := #[] }]
def about1 : State := aboutOver below0
def p0 : Program := .bare "" "" ""
def e0 : Env := launch0.env 0 0 0
theorem w_frames : about1.frames = Frame.invoking theMethod args0 :: below0 := rfl
set_option maxRecDepth 65536 in
theorem w_args : argsFit about1.vm theMethod args0 = true := by decide +kernel
set_option maxRecDepth 65536 in
theorem w_heap : heapFits about1 = true := by decide +kernel
set_option maxRecDepth 65536 in
theorem w_runnable : about1.curStatus? = some .runnable := by decide +kernel
set_option maxRecDepth 65536 in
theorem w_alone : about1.alone = true := by decide +kernel
set_option maxRecDepth 65536 in
theorem w_named : about1.methodNamed? x = some theMethod := by decide +kernel
set_option maxRecDepth 65536 in
theorem w_hears : about1.hears theMethod below0 = true := by decide +kernel
set_option maxRecDepth 65536 in
theorem w_ripe : about1.ripe theMethod args0 below0 = true := by decide +kernel
theorem w_running : about1.status = .running := rfl
set_option maxRecDepth 65536 in
theorem w_room : about1.hasRoom e0.platform room_1 = true :=
  launch0.hasRoom_least _ room_1 (by decide +kernel) (by decide +kernel) (by decide +kernel) (by decide +kernel) (by decide +kernel) (by decide +kernel)
theorem allAtoms_all (ts : List Jvm.Cond) (a : Array Jvm.Value) (st : Jvm.State) : (allAtoms ts).before a st = ts.all (fun c => c.before a st) := by
  induction ts with
  | nil => rfl
  | cons c t ih =>
    show (Jvm.Cond.and c (allAtoms t)).before a st = _
    rw [Jvm.Cond.before_and, ih, List.all_cons]
def words1 : List Jvm.Cond := Jvm.Cond.code x code maxLocals ret :: tables_1
/-- a 'code' word, met by the world's own term for the bytes: nothing is compared byte by byte -/
theorem code_word {y : MethodName} {bytes : ByteArray} {mx : Nat} {rt : Option FieldType} {a : Array Value} {s : State} {m : MethodId} {meth : Method} {c : Code} (h1 : s.methodNamed? y = some m) (h2 : s.vm.method? m = some meth) (h3 : meth.code = some c) (h4 : c.code = bytes)
    (h5 : (c.maxLocals == mx && c.exceptionTable.isEmpty && decide (c.maxStack ≤ mostOperands) && decide (meth.sig.returnType = rt) && !meth.locks && decide (parseMethodDescriptor y.desc = some meth.sig)) = true) : (Jvm.Cond.code y bytes mx rt).before a s = true := by
  simp only [Bool.and_eq_true, beq_iff_eq, Bool.not_eq_true', decide_eq_true_eq] at h5
  obtain ⟨⟨⟨⟨⟨g1, g2⟩, g3⟩, g4⟩, g5⟩, g6⟩ := h5
  simp [Cond.before, Cond.holds, Cond.value, h1, h2, h3, h4, g1, g2, g3, g4, g5, g6]
def isCode : Jvm.Cond → Bool
  | .code _ _ _ _ => true
  | _ => false
theorem all_split {L : List Jvm.Cond} {P : Jvm.Cond → Bool} (h1 : L.all (fun c => isCode c || P c) = true) (h2 : ∀ c ∈ L.filter isCode, P c = true) : L.all P = true := by
  refine List.all_eq_true.mpr fun c hc => ?_
  have h := List.all_eq_true.mp h1 c hc
  rcases Bool.eq_false_or_eq_true (isCode c) with hi | hi
  · exact h2 c (List.mem_filter.mpr ⟨hc, hi⟩)
  · simpa [hi] using h
set_option maxRecDepth 65536 in
theorem w_c0 : (Jvm.Cond.code x code maxLocals ret).before args0 about1 = true := code_word (m := ⟨1, 1⟩) (meth := k1m1) (c := k1c1) (by decide +kernel) rfl rfl rfl (by decide +kernel)
set_option maxRecDepth 65536 in
theorem w_c1 : (Jvm.Cond.code ({ cls := "java/lang/Math", name := "min", desc := "(II)I" } : Jvm.MethodName) jdk_29_method_69_code (2 : Nat) (Option.some Jvm.ClassFile.FieldType.int)).before args0 about1 = true := code_word (m := ⟨2, 2⟩) (meth := k2m2) (c := k2c2) (by decide +kernel) rfl rfl rfl (by decide +kernel)
set_option maxRecDepth 65536 in
theorem w_c2 : (Jvm.Cond.code ({ cls := "java/lang/Math", name := "max", desc := "(II)I" } : Jvm.MethodName) jdk_29_method_65_code (2 : Nat) (Option.some Jvm.ClassFile.FieldType.int)).before args0 about1 = true := code_word (m := ⟨2, 1⟩) (meth := k2m1) (c := k2c1) (by decide +kernel) rfl rfl rfl (by decide +kernel)
set_option maxRecDepth 65536 in
theorem w_c3 : (Jvm.Cond.code ({ cls := "com/example/bouncr/bouncr/PathPatternIsCanonicalPinLaw", name := "okAt", desc := "(IIII)Z" } : Jvm.MethodName) method_3_code (4 : Nat) (Option.some Jvm.ClassFile.FieldType.boolean)).before args0 about1 = true := code_word (m := ⟨1, 2⟩) (meth := k1m2) (c := k1c2) (by decide +kernel) rfl rfl rfl (by decide +kernel)
set_option maxRecDepth 65536 in
theorem w_c4 : (Jvm.Cond.code ({ cls := "com/example/bouncr/bouncr/PathPatternIsCanonicalPinLaw", name := "standsAsWritten", desc := "(I)Z" } : Jvm.MethodName) method_4_code (1 : Nat) (Option.some Jvm.ClassFile.FieldType.boolean)).before args0 about1 = true := code_word (m := ⟨1, 3⟩) (meth := k1m3) (c := k1c3) (by decide +kernel) rfl rfl rfl (by decide +kernel)
set_option maxRecDepth 65536 in
theorem w_c5 : (Jvm.Cond.code ({ cls := "com/example/bouncr/bouncr/PathPattern", name := "isCanonical", desc := "([BII)Z" } : Jvm.MethodName) prog_12_method_2_code (4 : Nat) (Option.some Jvm.ClassFile.FieldType.boolean)).before args0 about1 = true := code_word (m := ⟨3, 1⟩) (meth := k3m1) (c := k3c1) (by decide +kernel) rfl rfl rfl (by decide +kernel)
set_option maxRecDepth 65536 in
theorem w_c6 : (Jvm.Cond.code ({ cls := "com/example/bouncr/bouncr/PathPattern", name := "standsAsWritten", desc := "(I)Z" } : Jvm.MethodName) prog_12_method_14_code (1 : Nat) (Option.some Jvm.ClassFile.FieldType.boolean)).before args0 about1 = true := code_word (m := ⟨3, 2⟩) (meth := k3m2) (c := k3c2) (by decide +kernel) rfl rfl rfl (by decide +kernel)
def codes1 : List Jvm.Cond := [Jvm.Cond.code x code maxLocals ret, Jvm.Cond.code ({ cls := "java/lang/Math", name := "min", desc := "(II)I" } : Jvm.MethodName) jdk_29_method_69_code (2 : Nat) (Option.some Jvm.ClassFile.FieldType.int), Jvm.Cond.code ({ cls := "java/lang/Math", name := "max", desc := "(II)I" } : Jvm.MethodName) jdk_29_method_65_code (2 : Nat) (Option.some Jvm.ClassFile.FieldType.int), Jvm.Cond.code ({ cls := "com/example/bouncr/bouncr/PathPatternIsCanonicalPinLaw", name := "okAt", desc := "(IIII)Z" } : Jvm.MethodName) method_3_code (4 : Nat) (Option.some Jvm.ClassFile.FieldType.boolean), Jvm.Cond.code ({ cls := "com/example/bouncr/bouncr/PathPatternIsCanonicalPinLaw", name := "standsAsWritten", desc := "(I)Z" } : Jvm.MethodName) method_4_code (1 : Nat) (Option.some Jvm.ClassFile.FieldType.boolean), Jvm.Cond.code ({ cls := "com/example/bouncr/bouncr/PathPattern", name := "isCanonical", desc := "([BII)Z" } : Jvm.MethodName) prog_12_method_2_code (4 : Nat) (Option.some Jvm.ClassFile.FieldType.boolean), Jvm.Cond.code ({ cls := "com/example/bouncr/bouncr/PathPattern", name := "standsAsWritten", desc := "(I)Z" } : Jvm.MethodName) prog_12_method_14_code (1 : Nat) (Option.some Jvm.ClassFile.FieldType.boolean)]
set_option maxRecDepth 65536 in
theorem codes_eq : words1.filter isCode = codes1 := rfl
theorem w_codes : ∀ c ∈ words1.filter isCode, c.before args0 about1 = true := by
  rw [codes_eq]
  intro c hc
  simp only [codes1, List.mem_cons, List.not_mem_nil, or_false] at hc
  rcases hc with rfl | rfl | rfl | rfl | rfl | rfl | rfl
  · exact w_c0
  · exact w_c1
  · exact w_c2
  · exact w_c3
  · exact w_c4
  · exact w_c5
  · exact w_c6
set_option maxRecDepth 65536 in
theorem w_t1 : (words1.take 24).all (fun c => isCode c || c.before args0 about1) = true := by decide +kernel
set_option maxRecDepth 65536 in
theorem w_t2 : (words1.drop 24).all (fun c => isCode c || c.before args0 about1) = true := by decide +kernel
theorem w_tables : (allAtoms (Jvm.Cond.code x code maxLocals ret :: tables_1)).before args0 about1 = true := by
  rw [allAtoms_all]
  show words1.all (fun c => c.before args0 about1) = true
  refine all_split ?_ w_codes
  rw [← List.take_append_drop 24 words1, List.all_append, w_t1, w_t2]
  rfl
set_option maxRecDepth 65536 in
theorem w_case : (Jvm.Cond.and given_1 narrow_1).before args0 about1 = true := by decide +kernel
theorem w_applies : (headSpec (Jvm.Cond.code x code maxLocals ret :: tables_1) room_1).applies x e0.platform about1 = true :=
  (Spec.applies_iff w_frames).mpr ⟨w_running, w_runnable, w_alone, w_named, w_hears, w_ripe, w_room, w_tables⟩
theorem atStart : AtStart classFile x code maxLocals ret World_1 tables_1 room_1 Calls_1 rest_1 Pre_1 launch0 p0 e0 about1 theMethod args0 below0 :=
  ⟨lists_1, trivial, launch0.admits_env _ _ _, launch0.least_env, fairChoices_fair.cas, fairChoices_fair.clock, w_frames, w_args, w_heap, w_applies, trivial, trivial, w_case⟩
end start1
theorem witness_1 : WitnessClaimed_1 := ⟨start1.p0, start1.e0, start1.about1, start1.theMethod, start1.args0, start1.below0, start1.atStart⟩
end Jvm.Pilot.@@N@@
